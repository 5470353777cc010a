import JvmDerived
import JvmDerived.Pilot.@@N@@Statement
import JvmDerived.Pilot.@@N@@Code
set_option linter.unusedVariables false
set_option linter.unusedSimpArgs false
/- laws to paste: Road.backV (cut by pick.py; bodies as the Statement names them) -/
namespace Jvm.Pilot.@@N@@
namespace StrChars
open Jvm Sem ClassFile Op Lib Jvm.Stand Jvm.Free.XT Jvm.Free.ALB Jvm.Free.JM Jvm.Free
open Jvm.Lib.Cold (StaticIs)
/-- a char array whose places are chars -/
def Ch (a : Addr) (A : Cell) (U : State) : Prop := Arr .char a A U ∧ Typed .char A
theorem Ch.mv {a : Addr} {A : Cell} {U U' : State} (h : Ch a A U) (hal : U.vm.Alike U'.vm) (hh : U'.heap = U.heap) : Ch a A U' := ⟨h.1.mv hal hh, h.2⟩
theorem Ch.keep {a : Addr} {A : Cell} {U U' : State} (h : Ch a A U) (hal : U.vm.Alike U'.vm) (hk : U'.heap[a]? = some A) : Ch a A U' := ⟨h.1.keep hal hk, h.2⟩
/-- what place i of a char[]'s cell holds -/
def cv (A : Cell) (i : Nat) : Int32 := match A.slots[i]? with | some (.int x) => x | _ => 0
theorem Ch.get {a : Addr} {A : Cell} {U : State} (h : Ch a A U) {i : Nat} (hi : i < A.slots.size) : A.slots[i]? = some (.int (cv A i)) := by
  have e := Array.getElem?_eq_getElem hi
  have f := h.2 i _ e
  unfold cv; rw [e]
  generalize A.slots[i] = v at f
  cases v <;> simp [fits] at f ⊢
/-- the byte that i2b leaves of a char -/
def lo8 (x : Int32) : Int32 := x.toInt8.toInt32
theorem fits_lo8 (y : Int32) : fits .byte (.int (lo8 y)) = true := by
  have h1 := y.toInt8.le_toInt
  have h2 := y.toInt8.toInt_lt
  simp only [lo8, fits, Bool.and_eq_true, decide_eq_true_eq, Int32.le_iff_toInt_le, Int8.toInt_toInt32, show (-128 : Int32).toInt = -128 from by decide, show (127 : Int32).toInt = 127 from by decide]
  omega
/-- A' is A but that each place j of lo .. hi - 1 holds f j -/
def Laid (A A' : Cell) (lo hi : Nat) (f : Nat → Value) : Prop := A'.cls = A.cls ∧ A'.vm = A.vm ∧ A'.slots.size = A.slots.size ∧ ∀ i, A'.slots[i]? = if lo ≤ i ∧ i < hi then some (f i) else A.slots[i]?
theorem Laid.zero (A : Cell) (lo : Nat) (f : Nat → Value) : Laid A A lo (lo + 0) f := ⟨rfl, rfl, rfl, fun i => by rw [if_neg (by omega)]⟩
theorem Laid.step {A Ak : Cell} {lo k : Nat} {f : Nat → Value} {v : Value} (h : Laid A Ak lo k f) (hlo : lo ≤ k) (hk : k < Ak.slots.size) (hv : v = f k) : Laid A (Ak.setSlot k v) lo (k + 1) f := by
  refine ⟨h.1, h.2.1, by simpa [Cell.setSlot] using h.2.2.1, fun i => ?_⟩
  by_cases e : k = i
  · subst e; rw [Cell.slots_setSlot_self v hk, if_pos (by omega), hv]
  · rw [Cell.slots_setSlot_ne v e, h.2.2.2 i]
    by_cases q : lo ≤ i ∧ i < k
    · rw [if_pos q, if_pos (by omega)]
    · rw [if_neg q, if_neg (by omega)]
def U16 : String := "java/lang/StringUTF16"
namespace Cmp5
def yN : MethodName := ⟨"java/lang/StringUTF16", "compress", "([CI[BII)I"⟩
abbrev yB : ByteArray := jdk_52_method_21_code
theorem d0 : decode yB 0 = .ok (.iconst 0, 1) := by decide +kernel
theorem d1 : decode yB 1 = .ok (.istore 5, 2) := by decide +kernel
theorem d3 : decode yB 3 = .ok (.iload 5, 2) := by decide +kernel
theorem d5 : decode yB 5 = .ok (.iload 4, 2) := by decide +kernel
theorem d7 : decode yB 7 = .ok (.if_icmp (.ge) 37, 3) := by decide +kernel
theorem d10 : decode yB 10 = .ok (.aload_n 0, 1) := by decide +kernel
theorem d11 : decode yB 11 = .ok (.iload_n 1, 1) := by decide +kernel
theorem d12 : decode yB 12 = .ok (.caload, 1) := by decide +kernel
theorem d13 : decode yB 13 = .ok (.istore 6, 2) := by decide +kernel
theorem d15 : decode yB 15 = .ok (.iload 6, 2) := by decide +kernel
theorem d17 : decode yB 17 = .ok (.sipush 255, 3) := by decide +kernel
theorem d20 : decode yB 20 = .ok (.if_icmp (.le) 6, 3) := by decide +kernel
theorem d26 : decode yB 26 = .ok (.aload_n 2, 1) := by decide +kernel
theorem d27 : decode yB 27 = .ok (.iload_n 3, 1) := by decide +kernel
theorem d28 : decode yB 28 = .ok (.iload 6, 2) := by decide +kernel
theorem d30 : decode yB 30 = .ok (.i2b, 1) := by decide +kernel
theorem d31 : decode yB 31 = .ok (.bastore, 1) := by decide +kernel
theorem d32 : decode yB 32 = .ok (.iinc 1 1, 3) := by decide +kernel
theorem d35 : decode yB 35 = .ok (.iinc 3 1, 3) := by decide +kernel
theorem d38 : decode yB 38 = .ok (.iinc 5 1, 3) := by decide +kernel
theorem d41 : decode yB 41 = .ok (.goto (-38), 3) := by decide +kernel
theorem d44 : decode yB 44 = .ok (.iload 4, 2) := by decide +kernel
theorem d46 : decode yB 46 = .ok (.ireturn, 1) := by decide +kernel
def site : List Cond := []
def tab : Cond := tabOf yN yB 7 (some .int) site
def P (b : Addr) (A : Cell) (d : Addr) (B : Cell) (o q len : Nat) (args : Array Value) (s : State) : Prop := args = #[.ref b, .int (Int32.ofNat o), .ref d, .int (Int32.ofNat q), .int (Int32.ofNat len)] ∧ Ch b A s ∧ Arr .byte d B s ∧ b ≠ d ∧ o + len ≤ A.slots.size ∧ q + len ≤ B.slots.size ∧ ∀ i, i < len → ¬ 255 < cv A (o + i)
def E (b : Addr) (A : Cell) (d : Addr) (B : Cell) (o q len : Nat) (r : Option Value) (s u : State) : Prop := r = some (.int (Int32.ofNat len)) ∧ ∃ B', Put d B' s u ∧ Laid B B' q (q + len) (fun j => Value.int (lo8 (cv A (o + (j - q)))))
/-- no char of the range above 255: len; the places written hold each char's low byte -/
theorem law (l : Launch) (b : Addr) (A : Cell) (d : Addr) (B : Cell) (o q len : Nat) : Law l yN 5 5 0 0 yB 7 (some .int) site (P b A d B o q len) (E b A d B o q len) (copyLocs d q len) 0 0 := by
  refine Law.of_walk (plainFor_of_name (by decide +kernel)) (by decide +kernel) (by decide +kernel) (by decide) (fun _ _ h => by rw [h.1]; rfl) (fun _ U U' hal hh h => ⟨h.1, h.2.1.mv hal hh, h.2.2.1.mv hal hh, h.2.2.2⟩) (fun r U U' V V' h1 hal h2 h => ⟨h.1, h.2.elim fun B' q => ⟨B', q.1.mv h1 h2, q.2⟩⟩) ?_
  intro p e s m args below meth c s₁ X0 hexec hbytes hml hret hlk hnm hown hh0 W hP
  obtain ⟨rfl, hA, hB, hne, l1, l2, hp⟩ := hP
  have c1 : Steps p.tables e below (s₁.setTop (entryFrame m #[.ref b, .int (Int32.ofNat o), .ref d, .int (Int32.ofNat q), .int (Int32.ofNat len)] 7)) (s₁.setTop (mkF m 0 #[.val (.ref b), .val (.int (Int32.ofNat o)), .val (.ref d), .val (.int (Int32.ofNat q)), .val (.int (Int32.ofNat len)), .unset, .unset] [])) := entry rfl
  have hA0 := hA.1.mv X0.warmed.alike hh0
  have hB0 := hB.mv X0.warmed.alike hh0
  have a31 := hA.1.2.2.2
  have c2 : Steps p.tables e below (s₁.setTop (entryFrame m #[.ref b, .int (Int32.ofNat o), .ref d, .int (Int32.ofNat q), .int (Int32.ofNat len)] 7)) (s₁.setTop (mkF m 3 #[.val (.ref b), .val (.int (Int32.ofNat o)), .val (.ref d), .val (.int (Int32.ofNat q)), .val (.int (Int32.ofNat len)), .val (.int 0), .unset] [])) := c1.trans (by
    refine iconstV X0.here hexec rfl 0 (hb hbytes d0) (by decide) ?_
    refine XS.istore X0.here hexec rfl (hb hbytes d1) rfl rfl ?_
    exact Steps.refl _)
  have loop : ∀ (r i : Nat), i + r = len → ∀ (z : Slot), (z = .unset ∨ ∃ w, z = .val w ∧ w.category = 1) → ∀ (Tl : State) (Bk : Cell), Stand p l e { frames := 0, locals := 0, cells := 0, slots := 0 } s m #[.ref b, .int (Int32.ofNat o), .ref d, .int (Int32.ofNat q), .int (Int32.ofNat len)] below meth c Tl ([] ++ copyLocs d q i) 0 0 → Put d Bk s₁ Tl → Laid B Bk q (q + i) (fun j => Value.int (lo8 (cv A (o + (j - q))))) →
      Steps p.tables e below (s₁.setTop (entryFrame m #[.ref b, .int (Int32.ofNat o), .ref d, .int (Int32.ofNat q), .int (Int32.ofNat len)] 7)) (Tl.setTop (mkF m 3 #[.val (.ref b), .val (.int (Int32.ofNat (o + i))), .val (.ref d), .val (.int (Int32.ofNat (q + i))), .val (.int (Int32.ofNat len)), .val (.int (Int32.ofNat i)), z] [])) → ∃ (T' : State) (B' : Cell) (z' : Slot), Stand p l e { frames := 0, locals := 0, cells := 0, slots := 0 } s m #[.ref b, .int (Int32.ofNat o), .ref d, .int (Int32.ofNat q), .int (Int32.ofNat len)] below meth c T' ([] ++ copyLocs d q len) 0 0 ∧ Put d B' s₁ T' ∧ Laid B B' q (q + len) (fun j => Value.int (lo8 (cv A (o + (j - q))))) ∧
      Steps p.tables e below (s₁.setTop (entryFrame m #[.ref b, .int (Int32.ofNat o), .ref d, .int (Int32.ofNat q), .int (Int32.ofNat len)] 7)) (T'.setTop (mkF m 3 #[.val (.ref b), .val (.int (Int32.ofNat (o + len))), .val (.ref d), .val (.int (Int32.ofNat (q + len))), .val (.int (Int32.ofNat len)), .val (.int (Int32.ofNat len)), z'] [])) := by
    intro r
    induction r with
    | zero =>
      intro i hi z hz Tl Bk Xl pl fl cl
      have hil : i = len := by omega
      rw [hil] at Xl fl cl
      exact ⟨Tl, Bk, z, Xl, pl, fl, cl⟩
    | succ r ih =>
      intro i hi z hz Tl Bk Xl pl fl cl
      have all := X0.warmed.alike.symm.trans Xl.warmed.alike
      have hAl := hA0.keep all (pl.other hne hA0.1)
      have hBk := hB0.like all pl.1 fl.1 fl.2.1 fl.2.2.1
      have hlt : q + i < Bk.slots.size := by rw [fl.2.2.1]; omega
      have c3 : Steps p.tables e below (s₁.setTop (entryFrame m #[.ref b, .int (Int32.ofNat o), .ref d, .int (Int32.ofNat q), .int (Int32.ofNat len)] 7)) (Tl.setTop (mkF m 12 #[.val (.ref b), .val (.int (Int32.ofNat (o + i))), .val (.ref d), .val (.int (Int32.ofNat (q + i))), .val (.int (Int32.ofNat len)), .val (.int (Int32.ofNat i)), z] [.int (Int32.ofNat (o + i)), .ref b])) := cl.trans (by
        refine XS.iload Xl.here hexec rfl (hb hbytes d3) rfl ?_
        refine XS.iload Xl.here hexec rfl (hb hbytes d5) rfl ?_
        refine XS.icmpNo Xl.here hexec rfl (hb hbytes d7) rfl (ii_ge_f (lt32 (by omega) (by omega))) ?_
        refine XS.aloadN Xl.here hexec rfl (hb hbytes d10) rfl rfl ?_
        refine XS.iloadN Xl.here hexec rfl (hb hbytes d11) rfl ?_
        exact Steps.refl _)
      have c4 : Steps p.tables e below (s₁.setTop (entryFrame m #[.ref b, .int (Int32.ofNat o), .ref d, .int (Int32.ofNat q), .int (Int32.ofNat len)] 7)) (Tl.setTop (mkF m 13 #[.val (.ref b), .val (.int (Int32.ofNat (o + i))), .val (.ref d), .val (.int (Int32.ofNat (q + i))), .val (.int (Int32.ofNat len)), .val (.int (Int32.ofNat i)), z] [.int (cv A (o + i))])) := c3.trans (by
        refine Xl.aget hexec hAl rfl (hA.get (i := o + i) (by omega)) rfl rfl (hb hbytes d12) ?_
        exact Steps.refl _)
      have c5 : Steps p.tables e below (s₁.setTop (entryFrame m #[.ref b, .int (Int32.ofNat o), .ref d, .int (Int32.ofNat q), .int (Int32.ofNat len)] 7)) (Tl.setTop (mkF m 15 #[.val (.ref b), .val (.int (Int32.ofNat (o + i))), .val (.ref d), .val (.int (Int32.ofNat (q + i))), .val (.int (Int32.ofNat len)), .val (.int (Int32.ofNat i)), .val (.int (cv A (o + i)))] [])) := c4.trans (by
        refine XS.istoreS Xl.here hexec rfl (hb hbytes d13) rfl rfl hz ?_
        exact Steps.refl _)
      have c6 : Steps p.tables e below (s₁.setTop (entryFrame m #[.ref b, .int (Int32.ofNat o), .ref d, .int (Int32.ofNat q), .int (Int32.ofNat len)] 7)) (Tl.setTop (mkF m 31 #[.val (.ref b), .val (.int (Int32.ofNat (o + i))), .val (.ref d), .val (.int (Int32.ofNat (q + i))), .val (.int (Int32.ofNat len)), .val (.int (Int32.ofNat i)), .val (.int (cv A (o + i)))] [.int (lo8 (cv A (o + i))), .int (Int32.ofNat (q + i)), .ref d])) := c5.trans (by
        refine XS.iload Xl.here hexec rfl (hb hbytes d15) rfl ?_
        refine sipushV Xl.here hexec rfl 255 (hb hbytes d17) (by decide) ?_
        refine XS.icmpYes Xl.here hexec rfl (pc0 := 20) rfl (hb hbytes d20) rfl (ii_le_t (hp i (by omega))) (by decide) rfl ?_
        refine XS.aloadN Xl.here hexec rfl (hb hbytes d26) rfl rfl ?_
        refine XS.iloadN Xl.here hexec rfl (hb hbytes d27) rfl ?_
        refine XS.iload Xl.here hexec rfl (hb hbytes d28) rfl ?_
        refine i2b Xl.here hexec rfl (hb hbytes d30) rfl ?_
        exact Steps.refl _)
      obtain ⟨T7, X7, p7, st7⟩ := Xl.aput hexec hBk rfl hlt rfl (fits_lo8 (cv A (o + i))) (g := (mkF m 31 #[.val (.ref b), .val (.int (Int32.ofNat (o + i))), .val (.ref d), .val (.int (Int32.ofNat (q + i))), .val (.int (Int32.ofNat len)), .val (.int (Int32.ofNat i)), .val (.int (cv A (o + i)))] [.int (lo8 (cv A (o + i))), .int (Int32.ofNat (q + i)), .ref d])) rfl (rest := []) rfl (hb hbytes d31)
      have c8 : Steps p.tables e below (s₁.setTop (entryFrame m #[.ref b, .int (Int32.ofNat o), .ref d, .int (Int32.ofNat q), .int (Int32.ofNat len)] 7)) (T7.setTop (mkF m 32 #[.val (.ref b), .val (.int (Int32.ofNat (o + i))), .val (.ref d), .val (.int (Int32.ofNat (q + i))), .val (.int (Int32.ofNat len)), .val (.int (Int32.ofNat i)), .val (.int (cv A (o + i)))] [])) := c6.trans (st7 _ (Steps.refl _))
      have c9 : Steps p.tables e below (s₁.setTop (entryFrame m #[.ref b, .int (Int32.ofNat o), .ref d, .int (Int32.ofNat q), .int (Int32.ofNat len)] 7)) (T7.setTop (mkF m 3 #[.val (.ref b), .val (.int (Int32.ofNat (o + i) + 1)), .val (.ref d), .val (.int (Int32.ofNat (q + i) + 1)), .val (.int (Int32.ofNat len)), .val (.int (Int32.ofNat i + 1)), .val (.int (cv A (o + i)))] [])) := c8.trans (by
        refine iincV X7.here hexec rfl 1 (hb hbytes d32) (by decide) rfl rfl ?_
        refine iincV X7.here hexec rfl 1 (hb hbytes d35) (by decide) rfl rfl ?_
        refine iincV X7.here hexec rfl 1 (hb hbytes d38) (by decide) rfl rfl ?_
        refine XS.goto X7.here hexec rfl (pc0 := 41) rfl (hb hbytes d41) (by decide) rfl ?_
        exact Steps.refl _)
      have c10 : Steps p.tables e below (s₁.setTop (entryFrame m #[.ref b, .int (Int32.ofNat o), .ref d, .int (Int32.ofNat q), .int (Int32.ofNat len)] 7)) (T7.setTop (mkF m 3 #[.val (.ref b), .val (.int (Int32.ofNat (o + (i + 1)))), .val (.ref d), .val (.int (Int32.ofNat (q + (i + 1)))), .val (.int (Int32.ofNat len)), .val (.int (Int32.ofNat (i + 1))), .val (.int (cv A (o + i)))] [])) := by
        have := c9
        rw [succ32, succ32, succ32] at this
        exact this
      exact ih (i + 1) (by omega) _ (Or.inr ⟨_, rfl, rfl⟩) T7 _ (by rw [copyLocs_step, ← List.append_assoc]; exact X7) (pl.trans p7) (fl.step (by omega) hlt (by simp)) c10
  obtain ⟨T9, B9, z9, X9, p9, f9, g9⟩ := loop len 0 (by omega) .unset (Or.inl rfl) s₁ B (by simpa [copyLocs] using X0) ⟨hB0.1, fun _ _ => rfl, rfl⟩ (Laid.zero _ _ _) c2
  have c11 : Steps p.tables e below (s₁.setTop (entryFrame m #[.ref b, .int (Int32.ofNat o), .ref d, .int (Int32.ofNat q), .int (Int32.ofNat len)] 7)) (T9.setTop (mkF m 46 #[.val (.ref b), .val (.int (Int32.ofNat (o + len))), .val (.ref d), .val (.int (Int32.ofNat (q + len))), .val (.int (Int32.ofNat len)), .val (.int (Int32.ofNat len)), z9] [.int (Int32.ofNat len)])) := g9.trans (by
    refine XS.iload X9.here hexec rfl (hb hbytes d3) rfl ?_
    refine XS.iload X9.here hexec rfl (hb hbytes d5) rfl ?_
    refine XS.icmpYes X9.here hexec rfl (pc0 := 7) rfl (hb hbytes d7) rfl (ii_ge_t (nlt32 (by omega) (Nat.le_refl _))) (by decide) rfl ?_
    refine XS.iload X9.here hexec rfl (hb hbytes d44) rfl ?_
    exact Steps.refl _)
  exact ⟨T9, some (.int (Int32.ofNat len)), _, _, _, X9, by simp, rfl, rfl, (fun h => by cases h), ⟨rfl, B9, p9.from hh0, f9⟩, fun fs hl => c11.trans (X9.ireturnOut hexec hret rfl (Or.inl rfl) (hb hbytes d46) hl)⟩
end Cmp5
namespace Cmp3
def yN : MethodName := ⟨"java/lang/StringUTF16", "compress", "([CII)[B"⟩
abbrev yB : ByteArray := jdk_52_method_16_code
theorem d0 : decode yB 0 = .ok (.iload_n 2, 1) := by decide +kernel
theorem d1 : decode yB 1 = .ok (.newarray .byte, 2) := by decide +kernel
theorem d3 : decode yB 3 = .ok (.astore_n 3, 1) := by decide +kernel
theorem d4 : decode yB 4 = .ok (.aload_n 0, 1) := by decide +kernel
theorem d5 : decode yB 5 = .ok (.iload_n 1, 1) := by decide +kernel
theorem d6 : decode yB 6 = .ok (.aload_n 3, 1) := by decide +kernel
theorem d7 : decode yB 7 = .ok (.iconst 0, 1) := by decide +kernel
theorem d8 : decode yB 8 = .ok (.iload_n 2, 1) := by decide +kernel
theorem d9 : decode yB 9 = .ok (.invokestatic 115, 3) := by decide +kernel
theorem d12 : decode yB 12 = .ok (.istore 4, 2) := by decide +kernel
theorem d14 : decode yB 14 = .ok (.iload 4, 2) := by decide +kernel
theorem d16 : decode yB 16 = .ok (.iload_n 2, 1) := by decide +kernel
theorem d17 : decode yB 17 = .ok (.if_icmp (.eq) 40, 3) := by decide +kernel
theorem d57 : decode yB 57 = .ok (.aload_n 3, 1) := by decide +kernel
theorem d58 : decode yB 58 = .ok (.areturn, 1) := by decide +kernel
def site : List Cond := [.arrayClass .byte, Cmp5.tab] ++ staticW U16 115 Cmp5.yN
def tab : Cond := tabOf yN yB 6 (some (.array .byte)) site
def P (b : Addr) (A : Cell) (o len : Nat) (args : Array Value) (s : State) : Prop := args = #[.ref b, .int (Int32.ofNat o), .int (Int32.ofNat len)] ∧ Ch b A s ∧ o + len ≤ A.slots.size ∧ len ≤ 536870912 ∧ ∀ i, i < len → ¬ 255 < cv A (o + i)
def E (b : Addr) (A : Cell) (o len : Nat) (r : Option Value) (s u : State) : Prop := NewArr .byte "[B" len (fun j => .int (lo8 (cv A (o + j)))) r s u ∧ u.heap.size = s.heap.size + 1
/-- no char of the range above 255: a new byte[] of their low bytes -/
theorem law (l : Launch) (b : Addr) (A : Cell) (o len : Nat) : Law l yN 3 3 1 18 yB 6 (some (.array .byte)) site (P b A o len) (E b A o len) [] 1 len := by
  refine Law.of_walk (plainFor_of_name (by decide +kernel)) (by decide +kernel) (by decide +kernel) (by decide) (fun _ _ h => by rw [h.1]; rfl) (fun _ U U' hal hh h => ⟨h.1, h.2.1.mv hal hh, h.2.2⟩) (fun r U U' V V' h1 hal h2 h => ⟨NewArr.mv r U U' V V' h1 hal h2 h.1, by rw [h1, h2]; exact h.2⟩) ?_
  intro p e s m args below meth c s₁ X0 hexec hbytes hml hret hlk hnm hown hh0 W hP
  obtain ⟨rfl, hA, l1, l2, hp⟩ := hP
  have a31 := hA.1.2.2.2
  have c1 : Steps p.tables e below (s₁.setTop (entryFrame m #[.ref b, .int (Int32.ofNat o), .int (Int32.ofNat len)] 6)) (s₁.setTop (mkF m 0 #[.val (.ref b), .val (.int (Int32.ofNat o)), .val (.int (Int32.ofNat len)), .unset, .unset, .unset] [])) := entry rfl
  have c2 : Steps p.tables e below (s₁.setTop (entryFrame m #[.ref b, .int (Int32.ofNat o), .int (Int32.ofNat len)] 6)) (s₁.setTop (mkF m 1 #[.val (.ref b), .val (.int (Int32.ofNat o)), .val (.int (Int32.ofNat len)), .unset, .unset, .unset] [.int (Int32.ofNat len)])) := c1.trans (by
    refine XS.iloadN X0.here hexec rfl (hb hbytes d0) rfl ?_
    exact Steps.refl _)
  obtain ⟨T3, B3, X3, ba3, bs3, bv3, bh3, bf3, st3⟩ := X0.anew hexec (atype := .byte) (wk W (.arrayClass .byte)) rfl (by show len * 1 ≤ _; omega) (by omega) (g := (mkF m 1 #[.val (.ref b), .val (.int (Int32.ofNat o)), .val (.int (Int32.ofNat len)), .unset, .unset, .unset] [.int (Int32.ofNat len)])) rfl (hb hbytes d1) (rest := []) rfl (Nat.le_refl _) (by show 0 + len ≤ len; omega)
  rw [hh0] at ba3 st3
  have kp3 : XT.Kept s T3 := (XT.Kept.of_eq hh0).push bh3
  have hA3 := hA.keep X3.warmed.alike (kp3 _ _ hA.1.1)
  have hne : b ≠ s.heap.size := hA.1.ne
  have c4 : Steps p.tables e below (s₁.setTop (entryFrame m #[.ref b, .int (Int32.ofNat o), .int (Int32.ofNat len)] 6)) (T3.setTop (mkF m 3 #[.val (.ref b), .val (.int (Int32.ofNat o)), .val (.int (Int32.ofNat len)), .unset, .unset, .unset] [.ref s.heap.size])) := c2.trans (st3 _ (Steps.refl _))
  have c5 : Steps p.tables e below (s₁.setTop (entryFrame m #[.ref b, .int (Int32.ofNat o), .int (Int32.ofNat len)] 6)) (T3.setTop (mkF m 9 #[.val (.ref b), .val (.int (Int32.ofNat o)), .val (.int (Int32.ofNat len)), .val (.ref s.heap.size), .unset, .unset] [.int (Int32.ofNat len), .int 0, .ref s.heap.size, .int (Int32.ofNat o), .ref b])) := c4.trans (by
    refine XS.astoreN X3.here hexec rfl (hb hbytes d3) rfl rfl rfl ?_
    refine XS.aloadN X3.here hexec rfl (hb hbytes d4) rfl rfl ?_
    refine XS.iloadN X3.here hexec rfl (hb hbytes d5) rfl ?_
    refine XS.aloadN X3.here hexec rfl (hb hbytes d6) rfl rfl ?_
    refine iconstV X3.here hexec rfl 0 (hb hbytes d7) (by decide) ?_
    refine XS.iloadN X3.here hexec rfl (hb hbytes d8) rfl ?_
    exact Steps.refl _)
  obtain ⟨v6, T6, X6, E6, g6⟩ := X3.callS hexec (Cmp5.law l b A s.heap.size B3 o 0 len) hown (wks W (staticW U16 115 Cmp5.yN)) (wk W Cmp5.tab) (W := 0) (Nat.le_of_ble_eq_true rfl) (Nat.le_of_ble_eq_true rfl) (Nat.le_refl _) (by show 0 + len + 0 ≤ len; omega) (g := (mkF m 9 #[.val (.ref b), .val (.int (Int32.ofNat o)), .val (.int (Int32.ofNat len)), .val (.ref s.heap.size), .unset, .unset] [.int (Int32.ofNat len), .int (Int32.ofNat 0), .ref s.heap.size, .int (Int32.ofNat o), .ref b])) rfl (by rw [hml]; rfl) c5 (argsL := [.ref b, .int (Int32.ofNat o), .ref s.heap.size, .int (Int32.ofNat 0), .int (Int32.ofNat len)]) (rest := []) rfl rfl (by show 2 * 0 + 0 ≤ _; decide) (hb hbytes d9) (⟨rfl, hA3, ba3, hne, l1, by rw [bs3]; simp, hp⟩)
  obtain ⟨rfl, B6, p6, f6⟩ := E6
  have c7 : Steps p.tables e below (s₁.setTop (entryFrame m #[.ref b, .int (Int32.ofNat o), .int (Int32.ofNat len)] 6)) (T6.setTop (mkF m 12 #[.val (.ref b), .val (.int (Int32.ofNat o)), .val (.int (Int32.ofNat len)), .val (.ref s.heap.size), .unset, .unset] [.int (Int32.ofNat len)])) := g6
  have c8 : Steps p.tables e below (s₁.setTop (entryFrame m #[.ref b, .int (Int32.ofNat o), .int (Int32.ofNat len)] 6)) (T6.setTop (mkF m 58 #[.val (.ref b), .val (.int (Int32.ofNat o)), .val (.int (Int32.ofNat len)), .val (.ref s.heap.size), .val (.int (Int32.ofNat len)), .unset] [.ref s.heap.size])) := c7.trans (by
    refine XS.istore X6.here hexec rfl (hb hbytes d12) rfl rfl ?_
    refine XS.iload X6.here hexec rfl (hb hbytes d14) rfl ?_
    refine XS.iloadN X6.here hexec rfl (hb hbytes d16) rfl ?_
    refine XS.icmpYes X6.here hexec rfl (pc0 := 17) rfl (hb hbytes d17) rfl (ii_eq_t rfl) (by decide) rfl ?_
    refine XS.aloadN X6.here hexec rfl (hb hbytes d57) rfl rfl ?_
    exact Steps.refl _)
  have X8 := X6.wide (L' := []) (cells' := 1) (slots' := len) (fun x hx hlt => by
    simp only [List.nil_append, copyLocs, List.mem_map, List.mem_range] at hx
    obtain ⟨i, -, rfl⟩ := hx
    exact absurd hlt (Nat.lt_irrefl _)) (Nat.le_refl _) (by omega)
  exact ⟨T6, some (.ref s.heap.size), _, _, _, X8, rfl, rfl, rfl, (fun h => by cases h), ⟨⟨rfl, B6, ba3.like (X3.warmed.alike.symm.trans X6.warmed.alike) p6.1 f6.1 f6.2.1 f6.2.2.1, f6.2.1.trans bv3, by rw [X6.warmed.alike.findClass, f6.1]; exact bf3, by rw [f6.2.2.1, bs3]; simp, fun j hj => by rw [f6.2.2.2 j, if_pos (by omega)]; rfl, kp3.put p6 (Nat.le_refl _)⟩, by rw [p6.2.2, bh3, hh0]; simp⟩, fun fs hl => c8.trans (X8.areturnOut hexec rfl hret rfl (hb hbytes d58) hl)⟩
end Cmp3
namespace CodL
def yN : MethodName := ⟨"java/lang/StringUTF16", "coderFromArrayLen", "([BI)B"⟩
abbrev yB : ByteArray := jdk_52_method_15_code
theorem d0 : decode yB 0 = .ok (.iload_n 1, 1) := by decide +kernel
theorem d1 : decode yB 1 = .ok (.aload_n 0, 1) := by decide +kernel
theorem d2 : decode yB 2 = .ok (.arraylength, 1) := by decide +kernel
theorem d3 : decode yB 3 = .ok (.isub, 1) := by decide +kernel
theorem d4 : decode yB 4 = .ok (.bipush 31, 2) := by decide +kernel
theorem d6 : decode yB 6 = .ok (.iushr, 1) := by decide +kernel
theorem d7 : decode yB 7 = .ok (.i2b, 1) := by decide +kernel
theorem d8 : decode yB 8 = .ok (.ireturn, 1) := by decide +kernel
def site : List Cond := []
def tab : Cond := tabOf yN yB 2 (some .byte) site
def P (d : Addr) (B : Cell) (args : Array Value) (s : State) : Prop := args = #[.ref d, .int (Int32.ofNat B.slots.size)] ∧ Arr .byte d B s
def E (r : Option Value) (s u : State) : Prop := XT.PureE (some (.int 0)) r s u
/-- an array as long as the number of chars: LATIN1 -/
theorem law (l : Launch) (d : Addr) (B : Cell) : Law l yN 2 2 0 0 yB 2 (some .byte) site (P d B) E [] 0 0 := by
  refine Law.of_walk (plainFor_of_name (by decide +kernel)) (by decide +kernel) (by decide +kernel) (by decide) (fun _ _ h => by rw [h.1]; rfl) (fun _ U U' hal hh h => ⟨h.1, h.2.mv hal hh⟩) (fun r U U' V V' h1 hal h2 h => XT.PureE.mv r U U' V V' h1 hal h2 h) ?_
  intro p e s m args below meth c s₁ X0 hexec hbytes hml hret hlk hnm hown hh0 W hP
  obtain ⟨rfl, hB⟩ := hP
  have hB0 := hB.mv X0.warmed.alike hh0
  have c1 : Steps p.tables e below (s₁.setTop (entryFrame m #[.ref d, .int (Int32.ofNat B.slots.size)] 2)) (s₁.setTop (mkF m 0 #[.val (.ref d), .val (.int (Int32.ofNat B.slots.size))] [])) := entry rfl
  have c2 : Steps p.tables e below (s₁.setTop (entryFrame m #[.ref d, .int (Int32.ofNat B.slots.size)] 2)) (s₁.setTop (mkF m 2 #[.val (.ref d), .val (.int (Int32.ofNat B.slots.size))] [.ref d, .int (Int32.ofNat B.slots.size)])) := c1.trans (by
    refine XS.iloadN X0.here hexec rfl (hb hbytes d0) rfl ?_
    refine XS.aloadN X0.here hexec rfl (hb hbytes d1) rfl rfl ?_
    exact Steps.refl _)
  have c3 : Steps p.tables e below (s₁.setTop (entryFrame m #[.ref d, .int (Int32.ofNat B.slots.size)] 2)) (s₁.setTop (mkF m 8 #[.val (.ref d), .val (.int (Int32.ofNat B.slots.size))] [.int (lo8 (ushr (Int32.ofNat B.slots.size - Int32.ofNat B.slots.size) 31))])) := c2.trans (by
    refine X0.alen hexec hB0 rfl rfl (hb hbytes d2) ?_
    refine XS.isub X0.here hexec rfl (hb hbytes d3) rfl ?_
    refine bipushV X0.here hexec rfl 31 (hb hbytes d4) (by decide) ?_
    refine iushr X0.here hexec rfl (hb hbytes d6) rfl ?_
    refine i2b X0.here hexec rfl (hb hbytes d7) rfl ?_
    exact Steps.refl _)
  have e0 : lo8 (ushr (Int32.ofNat B.slots.size - Int32.ofNat B.slots.size) 31) = 0 := by rw [Int32.sub_self]; decide
  rw [e0] at c3
  exact ⟨s₁, some (.int 0), _, _, _, X0, rfl, rfl, rfl, (fun h => by cases h), ⟨rfl, hh0⟩, fun fs hl => c3.trans (X0.ireturnOut hexec hret rfl (Or.inr (Or.inr (Or.inl rfl))) (hb hbytes d8) hl)⟩
end CodL
/-- the String at a is Latin-1 over a new byte[] (the heap's one new cell): the low bytes of the len chars of A from o on; every cell but a is kept -/
def Got (a : Addr) (D : Cell) (fV fC : Field) (A : Cell) (o len : Nat) (r : Option Value) (s u : State) : Prop := r = none ∧ ∃ D' V : Cell, Blank "java/lang/String" a D' u ∧ Same D D' [fV.slot, fC.slot] ∧ D'.slots[fV.slot]? = some (.ref s.heap.size) ∧ D'.slots[fC.slot]? = some (.int 0) ∧ Arr .byte s.heap.size V u ∧ V.vm = .none ∧ u.vm.findClass "[B" = some V.cls ∧ V.slots.size = len ∧ (∀ j, j < len → V.slots[j]? = some (.int (lo8 (cv A (o + j))))) ∧ (∀ (y : Addr) (c : Cell), y ≠ a → s.heap[y]? = some c → u.heap[y]? = some c) ∧ u.heap.size = s.heap.size + 1
theorem Got.mv {a : Addr} {D A : Cell} {fV fC : Field} {o len : Nat} : ∀ r (U U' V V' : State), U'.heap = U.heap → V.vm.Alike V'.vm → V'.heap = V.heap → Got a D fV fC A o len r U V → Got a D fV fC A o len r U' V' :=
  fun r U U' V V' h1 hal h2 ⟨e0, D', X, a1, a2, a3, a4, a5, a6, a7, a8, a9, a10, a11⟩ => ⟨e0, D', X, a1.mv hal h2, a2, by rw [h1]; exact a3, a4, by rw [h1]; exact a5.mv hal h2, a6, by rw [hal.findClass]; exact a7, a8, a9, by rw [h1, h2]; exact a10, by rw [h1, h2]; exact a11⟩
namespace New4
def yN : MethodName := ⟨"java/lang/String", "<init>", "([CIILjava/lang/Void;)V"⟩
abbrev yB : ByteArray := jdk_42_method_149_code
theorem d0 : decode yB 0 = .ok (.aload_n 0, 1) := by decide +kernel
theorem d1 : decode yB 1 = .ok (.invokespecial 1, 3) := by decide +kernel
theorem d4 : decode yB 4 = .ok (.iload_n 3, 1) := by decide +kernel
theorem d5 : decode yB 5 = .ok (.ifCond (.ne) 22, 3) := by decide +kernel
theorem d27 : decode yB 27 = .ok (.getstatic 38, 3) := by decide +kernel
theorem d30 : decode yB 30 = .ok (.ifCond (.eq) 28, 3) := by decide +kernel
theorem d33 : decode yB 33 = .ok (.aload_n 1, 1) := by decide +kernel
theorem d34 : decode yB 34 = .ok (.iload_n 2, 1) := by decide +kernel
theorem d35 : decode yB 35 = .ok (.iload_n 3, 1) := by decide +kernel
theorem d36 : decode yB 36 = .ok (.invokestatic 177, 3) := by decide +kernel
theorem d39 : decode yB 39 = .ok (.astore 5, 2) := by decide +kernel
theorem d41 : decode yB 41 = .ok (.aload_n 0, 1) := by decide +kernel
theorem d42 : decode yB 42 = .ok (.aload 5, 2) := by decide +kernel
theorem d44 : decode yB 44 = .ok (.iload_n 3, 1) := by decide +kernel
theorem d45 : decode yB 45 = .ok (.invokestatic 47, 3) := by decide +kernel
theorem d48 : decode yB 48 = .ok (.putfield 15, 3) := by decide +kernel
theorem d51 : decode yB 51 = .ok (.aload_n 0, 1) := by decide +kernel
theorem d52 : decode yB 52 = .ok (.aload 5, 2) := by decide +kernel
theorem d54 : decode yB 54 = .ok (.putfield 9, 3) := by decide +kernel
theorem d57 : decode yB 57 = .ok (.return_, 1) := by decide +kernel
def site : List Cond := [.fieldLink "java/lang/String" 38 "java/lang/String" "COMPACT_STRINGS" "Z", Cmp3.tab, CodL.tab, .laysFinal "java/lang/String" "java/lang/String" "value" "[B", .fieldLink "java/lang/String" 9 "java/lang/String" "value" "[B", .laysFinal "java/lang/String" "java/lang/String" "coder" "B", .fieldLink "java/lang/String" 15 "java/lang/String" "coder" "B"] ++ objW "java/lang/String" 1 ++ staticW "java/lang/String" 177 Cmp3.yN ++ staticW "java/lang/String" 47 CodL.yN
def tab : Cond := tabOf yN yB 6 none site
def P (a : Addr) (D : Cell) (fV fC : Field) (b : Addr) (A : Cell) (z : Int32) (o len : Nat) (args : Array Value) (s : State) : Prop := args = #[.ref a, .ref b, .int (Int32.ofNat o), .int (Int32.ofNat len), .null] ∧ Blank "java/lang/String" a D s ∧ Found "java/lang/String" "value" "[B" fV s ∧ Found "java/lang/String" "coder" "B" fC s ∧ Ch b A s ∧ StaticIs s "java/lang/String" "COMPACT_STRINGS" "Z" (.int z) ∧ ¬ z = 0 ∧ 0 < len ∧ o + len ≤ A.slots.size ∧ len ≤ 536870912 ∧ ∀ i, i < len → ¬ 255 < cv A (o + i)
def E (a : Addr) (D : Cell) (fV fC : Field) (A : Cell) (o len : Nat) (r : Option Value) (s u : State) : Prop := Got a D fV fC A o len r s u
/-- len > 0, no char of the range above 255: a Latin-1 String of their low bytes -/
theorem law (l : Launch) (a : Addr) (D : Cell) (fV fC : Field) (b : Addr) (A : Cell) (z : Int32) (o len : Nat) : Law l yN 5 4 2 35 yB 6 none site (P a D fV fC b A z o len) (E a D fV fC A o len) [⟨a, fC.slot⟩, ⟨a, fV.slot⟩] 1 len := by
  refine Law.of_walk (plainFor_of_name (by decide +kernel)) (by decide +kernel) (by decide +kernel) (by decide) (fun _ _ h => by rw [h.1]; rfl) (fun _ U U' hal hh h => ⟨h.1, h.2.1.mv hal hh, h.2.2.1.al hal, h.2.2.2.1.al hal, h.2.2.2.2.1.mv hal hh, h.2.2.2.2.2.1.there hal hh, h.2.2.2.2.2.2⟩) (fun r U U' V V' h1 hal h2 h => Got.mv r U U' V V' h1 hal h2 h) ?_
  intro p e s m args below meth c s₁ X0 hexec hbytes hml hret hlk hnm hown hh0 W hP
  obtain ⟨rfl, hB, f1, f2, hA, s1, hz, l0, l1, l2, hp⟩ := hP
  have a31 := hA.1.2.2.2
  have c1 : Steps p.tables e below (s₁.setTop (entryFrame m #[.ref a, .ref b, .int (Int32.ofNat o), .int (Int32.ofNat len), .null] 6)) (s₁.setTop (mkF m 0 #[.val (.ref a), .val (.ref b), .val (.int (Int32.ofNat o)), .val (.int (Int32.ofNat len)), .val .null, .unset] [])) := entry rfl
  have c2 : Steps p.tables e below (s₁.setTop (entryFrame m #[.ref a, .ref b, .int (Int32.ofNat o), .int (Int32.ofNat len), .null] 6)) (s₁.setTop (mkF m 1 #[.val (.ref a), .val (.ref b), .val (.int (Int32.ofNat o)), .val (.int (Int32.ofNat len)), .val .null, .unset] [.ref a])) := c1.trans (by
    refine XS.aloadN X0.here hexec rfl (hb hbytes d0) rfl rfl ?_
    exact Steps.refl _)
  obtain ⟨T3, X3, q3, st3⟩ := X0.oinit hexec hown (wks W (objW "java/lang/String" 1)) (g := (mkF m 1 #[.val (.ref a), .val (.ref b), .val (.int (Int32.ofNat o)), .val (.int (Int32.ofNat len)), .val .null, .unset] [.ref a])) rfl (by rw [hml]; rfl) (rest := []) rfl (hb hbytes d1) (W := 0) (by show 2 * 0 + 0 ≤ _; decide) (Nat.le_of_ble_eq_true rfl) (Nat.le_of_ble_eq_true rfl)
  have hh3 := q3.trans hh0
  have c4 : Steps p.tables e below (s₁.setTop (entryFrame m #[.ref a, .ref b, .int (Int32.ofNat o), .int (Int32.ofNat len), .null] 6)) (T3.setTop (mkF m 27 #[.val (.ref a), .val (.ref b), .val (.int (Int32.ofNat o)), .val (.int (Int32.ofNat len)), .val .null, .unset] [])) := (c2.trans (st3 _ (Steps.refl _))).trans (by
    refine XS.iloadN X3.here hexec rfl (hb hbytes d4) rfl ?_
    refine XS.ifYes X3.here hexec rfl (pc0 := 5) rfl (hb hbytes d5) rfl (i0_ne_t (nz32 (by omega) l0)) (by decide) rfl ?_
    exact Steps.refl _)
  obtain ⟨T5, X5, q5, st5⟩ := X3.sget hexec hown (wk W (.fieldLink "java/lang/String" 38 "java/lang/String" "COMPACT_STRINGS" "Z")) s1 (fun _ _ h => by rw [hh3]; exact h) (g := (mkF m 27 #[.val (.ref a), .val (.ref b), .val (.int (Int32.ofNat o)), .val (.int (Int32.ofNat len)), .val .null, .unset] [])) rfl (hb hbytes d27)
  have hh5 := q5.trans hh3
  have c6 : Steps p.tables e below (s₁.setTop (entryFrame m #[.ref a, .ref b, .int (Int32.ofNat o), .int (Int32.ofNat len), .null] 6)) (T5.setTop (mkF m 30 #[.val (.ref a), .val (.ref b), .val (.int (Int32.ofNat o)), .val (.int (Int32.ofNat len)), .val .null, .unset] [.int z])) := c4.trans (st5 _ (Steps.refl _))
  have c7 : Steps p.tables e below (s₁.setTop (entryFrame m #[.ref a, .ref b, .int (Int32.ofNat o), .int (Int32.ofNat len), .null] 6)) (T5.setTop (mkF m 36 #[.val (.ref a), .val (.ref b), .val (.int (Int32.ofNat o)), .val (.int (Int32.ofNat len)), .val .null, .unset] [.int (Int32.ofNat len), .int (Int32.ofNat o), .ref b])) := c6.trans (by
    refine XS.ifNo X5.here hexec rfl (hb hbytes d30) rfl (i0_eq_f hz) ?_
    refine XS.aloadN X5.here hexec rfl (hb hbytes d33) rfl rfl ?_
    refine XS.iloadN X5.here hexec rfl (hb hbytes d34) rfl ?_
    refine XS.iloadN X5.here hexec rfl (hb hbytes d35) rfl ?_
    exact Steps.refl _)
  obtain ⟨v8, T8, X8, E8, g8⟩ := X5.callS hexec (Cmp3.law l b A o len) hown (wks W (staticW "java/lang/String" 177 Cmp3.yN)) (wk W Cmp3.tab) (W := 0) (Nat.le_of_ble_eq_true rfl) (Nat.le_of_ble_eq_true rfl) (Nat.le_refl _) (by show 0 + len ≤ len; omega) (g := (mkF m 36 #[.val (.ref a), .val (.ref b), .val (.int (Int32.ofNat o)), .val (.int (Int32.ofNat len)), .val .null, .unset] [.int (Int32.ofNat len), .int (Int32.ofNat o), .ref b])) rfl (by rw [hml]; rfl) c7 (argsL := [.ref b, .int (Int32.ofNat o), .int (Int32.ofNat len)]) (rest := []) rfl rfl (by show 2 * 0 + 0 ≤ _; decide) (hb hbytes d36) (⟨rfl, hA.mv X5.warmed.alike hh5, l1, l2, hp⟩)
  obtain ⟨e8, z8⟩ := E8
  obtain ⟨rfl, N, n1, n2, n3, n4, n5, n6⟩ := NewArr.mv _ T5 s _ _ hh5.symm (Vm.Alike.refl _) rfl e8
  rw [hh5] at z8
  have hB1 := hB.keep X8.warmed.alike (n6 _ _ hB.1)
  have hne : s.heap.size ≠ a := (Nat.ne_of_lt (Array.getElem?_eq_some_iff.mp hB.1).1).symm
  have c9 : Steps p.tables e below (s₁.setTop (entryFrame m #[.ref a, .ref b, .int (Int32.ofNat o), .int (Int32.ofNat len), .null] 6)) (T8.setTop (mkF m 39 #[.val (.ref a), .val (.ref b), .val (.int (Int32.ofNat o)), .val (.int (Int32.ofNat len)), .val .null, .unset] [.ref s.heap.size])) := g8
  have c10 : Steps p.tables e below (s₁.setTop (entryFrame m #[.ref a, .ref b, .int (Int32.ofNat o), .int (Int32.ofNat len), .null] 6)) (T8.setTop (mkF m 45 #[.val (.ref a), .val (.ref b), .val (.int (Int32.ofNat o)), .val (.int (Int32.ofNat len)), .val .null, .val (.ref s.heap.size)] [.int (Int32.ofNat N.slots.size), .ref s.heap.size, .ref a])) := by
    have hc : Steps p.tables e below (s₁.setTop (entryFrame m #[.ref a, .ref b, .int (Int32.ofNat o), .int (Int32.ofNat len), .null] 6)) (T8.setTop (mkF m 45 #[.val (.ref a), .val (.ref b), .val (.int (Int32.ofNat o)), .val (.int (Int32.ofNat len)), .val .null, .val (.ref s.heap.size)] [.int (Int32.ofNat len), .ref s.heap.size, .ref a])) := c9.trans (by
      refine XS.astore X8.here hexec rfl (hb hbytes d39) rfl rfl rfl ?_
      refine XS.aloadN X8.here hexec rfl (hb hbytes d41) rfl rfl ?_
      refine XS.aload X8.here hexec rfl (hb hbytes d42) rfl rfl ?_
      refine XS.iloadN X8.here hexec rfl (hb hbytes d44) rfl ?_
      exact Steps.refl _)
    rw [n4]; exact hc
  obtain ⟨v11, T11, X11, E11, g11⟩ := X8.callS hexec (CodL.law l s.heap.size N) hown (wks W (staticW "java/lang/String" 47 CodL.yN)) (wk W CodL.tab) (W := 1) (Nat.le_of_ble_eq_true rfl) (Nat.le_of_ble_eq_true rfl) (Nat.le_refl _) (by show 0 + len + 0 ≤ len; omega) (g := (mkF m 45 #[.val (.ref a), .val (.ref b), .val (.int (Int32.ofNat o)), .val (.int (Int32.ofNat len)), .val .null, .val (.ref s.heap.size)] [.int (Int32.ofNat N.slots.size), .ref s.heap.size, .ref a])) rfl (by rw [hml]; rfl) c10 (argsL := [.ref s.heap.size, .int (Int32.ofNat N.slots.size)]) (rest := [.ref a]) rfl rfl (by show 2 * 0 + (1 + 0) ≤ _; decide) (hb hbytes d45) (⟨rfl, n1⟩)
  obtain ⟨rfl, q11⟩ := E11
  have hB11 := hB1.mv (X8.warmed.alike.symm.trans X11.warmed.alike) q11
  have c12 : Steps p.tables e below (s₁.setTop (entryFrame m #[.ref a, .ref b, .int (Int32.ofNat o), .int (Int32.ofNat len), .null] 6)) (T11.setTop (mkF m 48 #[.val (.ref a), .val (.ref b), .val (.int (Int32.ofNat o)), .val (.int (Int32.ofNat len)), .val .null, .val (.ref s.heap.size)] [.int 0, .ref a])) := g11
  obtain ⟨T13, X13, p13, bl13, sl13, st13⟩ := X11.finit hexec hown (wk W (.fieldLink "java/lang/String" 15 "java/lang/String" "coder" "B")) (Or.inr ⟨_, (wk W (.laysFinal "java/lang/String" "java/lang/String" "coder" "B"))⟩) (Or.inl ⟨rfl, hnm⟩) f2 (Or.inl rfl) hB11 (t := .byte) (by decide +kernel) rfl (g := (mkF m 48 #[.val (.ref a), .val (.ref b), .val (.int (Int32.ofNat o)), .val (.int (Int32.ofNat len)), .val .null, .val (.ref s.heap.size)] [.int 0, .ref a])) rfl (rest := []) rfl (hb hbytes d48)
  have c14 : Steps p.tables e below (s₁.setTop (entryFrame m #[.ref a, .ref b, .int (Int32.ofNat o), .int (Int32.ofNat len), .null] 6)) (T13.setTop (mkF m 54 #[.val (.ref a), .val (.ref b), .val (.int (Int32.ofNat o)), .val (.int (Int32.ofNat len)), .val .null, .val (.ref s.heap.size)] [.ref s.heap.size, .ref a])) := (c12.trans (st13 _ (Steps.refl _))).trans (by
    refine XS.aloadN X13.here hexec rfl (hb hbytes d51) rfl rfl ?_
    refine XS.aload X13.here hexec rfl (hb hbytes d52) rfl rfl ?_
    exact Steps.refl _)
  obtain ⟨T15, X15, p15, bl15, sl15, st15⟩ := X13.finit hexec hown (wk W (.fieldLink "java/lang/String" 9 "java/lang/String" "value" "[B")) (Or.inr ⟨_, (wk W (.laysFinal "java/lang/String" "java/lang/String" "value" "[B"))⟩) (Or.inl ⟨rfl, hnm⟩) f1 (Or.inl rfl) bl13 (t := (.array .byte)) (by decide +kernel) rfl (g := (mkF m 54 #[.val (.ref a), .val (.ref b), .val (.int (Int32.ofNat o)), .val (.int (Int32.ofNat len)), .val .null, .val (.ref s.heap.size)] [.ref s.heap.size, .ref a])) rfl (rest := []) rfl (hb hbytes d54)
  have c16 : Steps p.tables e below (s₁.setTop (entryFrame m #[.ref a, .ref b, .int (Int32.ofNat o), .int (Int32.ofNat len), .null] 6)) (T15.setTop (mkF m 57 #[.val (.ref a), .val (.ref b), .val (.int (Int32.ofNat o)), .val (.int (Int32.ofNat len)), .val .null, .val (.ref s.heap.size)] [])) := c14.trans (st15 _ (Steps.refl _))
  have ap := apart (Or.inr ⟨_, (wk W (.laysFinal "java/lang/String" "java/lang/String" "value" "[B"))⟩) (Or.inr ⟨_, (wk W (.laysFinal "java/lang/String" "java/lang/String" "coder" "B"))⟩) f1 f2 (t₁ := .array .byte) (t₂ := .byte) (by decide +kernel) (by decide +kernel) (by decide)
  have al := X8.warmed.alike.symm.trans X15.warmed.alike
  have n7 : T11.heap[s.heap.size]? = some N := by rw [q11]; exact n1.1
  exact ⟨T15, none, _, _, _, X15, by simp, rfl, by omega, (fun _ => rfl), ⟨rfl, _, N, bl15, ((Same.refl D _).set _ (by simp)).set _ (by simp), sl15, (Cell.slots_setSlot_ne _ ap).trans sl13, n1.keep al (p15.other hne (p13.other hne n7)), n2, by rw [al.findClass]; exact n3, n4, n5, fun y c h1 h2 => p15.other h1 (p13.other h1 (by rw [q11]; exact n6 y c h2)), by rw [p15.2.2, p13.2.2, q11]; exact z8⟩, fun fs hl => c16.trans (X15.returnOut hexec hret (hb hbytes d57) hl)⟩
end New4
namespace New1
def yN : MethodName := ⟨"java/lang/String", "<init>", "([C)V"⟩
abbrev yB : ByteArray := jdk_42_method_3_code
theorem d0 : decode yB 0 = .ok (.aload_n 0, 1) := by decide +kernel
theorem d1 : decode yB 1 = .ok (.aload_n 1, 1) := by decide +kernel
theorem d2 : decode yB 2 = .ok (.iconst 0, 1) := by decide +kernel
theorem d3 : decode yB 3 = .ok (.aload_n 1, 1) := by decide +kernel
theorem d4 : decode yB 4 = .ok (.arraylength, 1) := by decide +kernel
theorem d5 : decode yB 5 = .ok (.aconst_null, 1) := by decide +kernel
theorem d6 : decode yB 6 = .ok (.invokespecial 27, 3) := by decide +kernel
theorem d9 : decode yB 9 = .ok (.return_, 1) := by decide +kernel
def site : List Cond := [New4.tab] ++ initW "java/lang/String" 27 New4.yN
def tab : Cond := tabOf yN yB 2 none site
def P (a : Addr) (D : Cell) (fV fC : Field) (b : Addr) (A : Cell) (z : Int32) (args : Array Value) (s : State) : Prop := args = #[.ref a, .ref b] ∧ Blank "java/lang/String" a D s ∧ Found "java/lang/String" "value" "[B" fV s ∧ Found "java/lang/String" "coder" "B" fC s ∧ Ch b A s ∧ StaticIs s "java/lang/String" "COMPACT_STRINGS" "Z" (.int z) ∧ ¬ z = 0 ∧ 0 < A.slots.size ∧ A.slots.size ≤ 536870912 ∧ ∀ i, i < A.slots.size → ¬ 255 < cv A i
def E (a : Addr) (D : Cell) (fV fC : Field) (A : Cell) (r : Option Value) (s u : State) : Prop := Got a D fV fC A 0 A.slots.size r s u
/-- new String(chars), not empty, no char above 255: a Latin-1 String of their low bytes -/
theorem law (l : Launch) (a : Addr) (D : Cell) (fV fC : Field) (b : Addr) (A : Cell) (z : Int32) : Law l yN 2 1 3 52 yB 2 none site (P a D fV fC b A z) (E a D fV fC A) [⟨a, fC.slot⟩, ⟨a, fV.slot⟩] 1 A.slots.size := by
  refine Law.of_walk (plainFor_of_name (by decide +kernel)) (by decide +kernel) (by decide +kernel) (by decide) (fun _ _ h => by rw [h.1]; rfl) (fun _ U U' hal hh h => ⟨h.1, h.2.1.mv hal hh, h.2.2.1.al hal, h.2.2.2.1.al hal, h.2.2.2.2.1.mv hal hh, h.2.2.2.2.2.1.there hal hh, h.2.2.2.2.2.2⟩) (fun r U U' V V' h1 hal h2 h => Got.mv r U U' V V' h1 hal h2 h) ?_
  intro p e s m args below meth c s₁ X0 hexec hbytes hml hret hlk hnm hown hh0 W hP
  obtain ⟨rfl, hB, f1, f2, hA, s1, hz, l0, l2, hp⟩ := hP
  have c1 : Steps p.tables e below (s₁.setTop (entryFrame m #[.ref a, .ref b] 2)) (s₁.setTop (mkF m 0 #[.val (.ref a), .val (.ref b)] [])) := entry rfl
  have c2 : Steps p.tables e below (s₁.setTop (entryFrame m #[.ref a, .ref b] 2)) (s₁.setTop (mkF m 6 #[.val (.ref a), .val (.ref b)] [.null, .int (Int32.ofNat A.slots.size), .int 0, .ref b, .ref a])) := c1.trans (by
    refine XS.aloadN X0.here hexec rfl (hb hbytes d0) rfl rfl ?_
    refine XS.aloadN X0.here hexec rfl (hb hbytes d1) rfl rfl ?_
    refine iconstV X0.here hexec rfl 0 (hb hbytes d2) (by decide) ?_
    refine XS.aloadN X0.here hexec rfl (hb hbytes d3) rfl rfl ?_
    refine X0.alen hexec (hA.1.mv X0.warmed.alike hh0) rfl rfl (hb hbytes d4) ?_
    refine XS.aconstNull X0.here hexec rfl (hb hbytes d5) ?_
    exact Steps.refl _)
  obtain ⟨v3, T3, X3, E3, g3⟩ := X0.callN hexec (New4.law l a D fV fC b A z 0 A.slots.size) rfl hown (wks W (initW "java/lang/String" 27 New4.yN)) (W New4.tab (by simp only [site, List.mem_cons, List.mem_append, true_or, or_true])) (W := 0) (Nat.le_of_ble_eq_true rfl) (Nat.le_of_ble_eq_true rfl) (Nat.le_refl _) (by show 0 + A.slots.size ≤ A.slots.size; omega) (g := (mkF m 6 #[.val (.ref a), .val (.ref b)] [.null, .int (Int32.ofNat A.slots.size), .int (Int32.ofNat 0), .ref b, .ref a])) rfl (by rw [hml]; rfl) c2 (argsL := [.ref b, .int (Int32.ofNat 0), .int (Int32.ofNat A.slots.size), .null]) (rest := []) rfl rfl (by show 2 * 0 + 0 ≤ _; decide) (hb hbytes d6) (⟨rfl, hB.mv X0.warmed.alike hh0, f1.al X0.warmed.alike, f2.al X0.warmed.alike, hA.mv X0.warmed.alike hh0, s1.there X0.warmed.alike hh0, hz, l0, by omega, l2, fun i hi => by rw [Nat.zero_add]; exact hp i hi⟩)
  have e0 := Got.mv _ s₁ s _ _ hh0.symm (Vm.Alike.refl _) rfl E3
  obtain rfl := e0.1
  have c4 : Steps p.tables e below (s₁.setTop (entryFrame m #[.ref a, .ref b] 2)) (T3.setTop (mkF m 9 #[.val (.ref a), .val (.ref b)] [])) := g3
  exact ⟨T3, none, _, _, _, X3, by simp, rfl, by omega, (fun _ => rfl), e0, fun fs hl => c4.trans (X3.returnOut hexec hret (hb hbytes d9) hl)⟩
theorem pays {l : Launch} {R : Room} {p : Program} {e : Env} {below : List Frame} {s : State} {sargs : Array Value} {len W : Nat} (a : Addr) (D : Cell) (fV fC : Field) (b : Addr) (A : Cell) (z : Int32) (htab : tab.before sargs s = true) (hfr : 4 ≤ R.frames) (hlo : W + 65 ≤ R.locals) :
    Back l R p e below s sargs yN len W (fun A₁ a₁ => A₁.cells + 1 ≤ R.cells ∧ A₁.slots + A.slots.size ≤ R.slots ∧ P a D fV fC b A z a₁ A₁.U) (fun A₁ _ v₁ B₁ => E a D fV fC A v₁ A₁.U B₁.U ∧ B₁.locs = A₁.locs ++ [⟨a, fC.slot⟩, ⟨a, fV.slot⟩] ∧ B₁.cells = A₁.cells + 1 ∧ B₁.slots = A₁.slots + A.slots.size) :=
  (law l a D fV fC b A z).pays htab hfr (by omega)
end New1
end StrChars
namespace StrChars.Road
open Jvm Sem ClassFile Op Lib Jvm.Stand Jvm.Free Jvm.Free.XT
open Jvm.Lib.Cold (StaticIs)
abbrev ST : String := "java/lang/String"
/-- every table word that New1's law asks, flat -/
abbrev words : List Jvm.Cond := [.code New1.yN New1.yB 2 none, .initialized ST, .methodLink ST 27 New4.yN, .instanceMethod New4.yN,
  .code New4.yN New4.yB 6 none, .fieldLink ST 38 ST "COMPACT_STRINGS" "Z", .laysFinal ST ST "value" "[B", .fieldLink ST 9 ST "value" "[B", .laysFinal ST ST "coder" "B", .fieldLink ST 15 ST "coder" "B",
  .methodLink ST 1 Lib.objectInit, .instanceMethod Lib.objectInit, .code Lib.objectInit ⟨#[0xb1]⟩ 1 none, .methodLink ST 177 Cmp3.yN, .static Cmp3.yN, .methodLink ST 47 CodL.yN, .static CodL.yN,
  .code Cmp3.yN Cmp3.yB 6 (some (.array .byte)), .initialized U16, .arrayClass .byte, .methodLink U16 115 Cmp5.yN, .static Cmp5.yN, .code Cmp5.yN Cmp5.yB 7 (some .int), .code CodL.yN CodL.yB 2 (some .byte)]
theorem tab_of {a : Array Value} {s : State} (h : ∀ w ∈ words, w.before a s = true) : New1.tab.before a s = true := by
  have h5 : Cmp5.tab.before a s = true := unparts (wk h (.code Cmp5.yN Cmp5.yB 7 (some .int))) (wks h (.initialized Cmp5.yN.cls :: Cmp5.site))
  have hc : CodL.tab.before a s = true := unparts (wk h (.code CodL.yN CodL.yB 2 (some .byte))) (wks h (.initialized CodL.yN.cls :: CodL.site))
  have q5 : ∀ w ∈ Cmp5.tab :: words, w.before a s = true := fun w hw => (List.mem_cons.mp hw).elim (fun e => e ▸ h5) (h w)
  have h3 : Cmp3.tab.before a s = true := unparts (wk q5 (.code Cmp3.yN Cmp3.yB 6 (some (.array .byte)))) (wks q5 (.initialized Cmp3.yN.cls :: Cmp3.site))
  have q3 : ∀ w ∈ Cmp3.tab :: CodL.tab :: words, w.before a s = true := fun w hw => (List.mem_cons.mp hw).elim (fun e => e ▸ h3) fun hw => (List.mem_cons.mp hw).elim (fun e => e ▸ hc) (h w)
  have h4 : New4.tab.before a s = true := unparts (wk q3 (.code New4.yN New4.yB 6 none)) (wks q3 (.initialized New4.yN.cls :: New4.site))
  have q4 : ∀ w ∈ New4.tab :: words, w.before a s = true := fun w hw => (List.mem_cons.mp hw).elim (fun e => e ▸ h4) (h w)
  exact unparts (wk q4 (.code New1.yN New1.yB 2 none)) (wks q4 (.initialized New1.yN.cls :: New1.site))
/-- the words ride from the start Z to the walk's own state -/
theorem moved {Z s : State} {a0 args : Array Value} (hZ : Z.Warmed39 s.vm) (hw : ∀ d ∈ words, d.before a0 Z = true) : ∀ d ∈ words, d.before args s = true := fun d hd => by
  have q := hw d hd
  have t : ∀ d ∈ words, d = .arrayClass .byte ∨ (d.onTables && d.keepsFace) = true := by decide +kernel
  rcases t d hd with rfl | t
  · exact RoadKit.mvA hZ q
  · exact RoadKit.mv hZ q t
/-- WHAT COMES BACK, over the tables of the start Z: h the heap at the call, h' behind it -/
def Q (Z : State) (x : Addr) (A : Cell) (h : Heap) (v : Option Value) (h' : Heap) (L : List Loc) : Prop := v = none ∧ (∀ y ∈ L, y.base = x) ∧ RoadKit.Keep h h' [x] ∧ h'.size = h.size + 1 ∧ RoadKit.Exa Z h' x ST ∧ RoadKit.Fld Z h' x ST "value" "[B" (.ref h.size) ∧ RoadKit.Fld Z h' x ST "coder" "B" (.int 0) ∧
  (∃ V : Cell, RoadKit.Arr Z h' h.size V .byte ∧ V.vm = .none ∧ Z.vm.findClass "[B" = some V.cls ∧ V.slots.size = A.slots.size ∧ ∀ j, j < A.slots.size → V.slots[j]? = some (.int (lo8 (cv A j)))) ∧
  ∀ (O n d : String) (w : Value), RoadKit.Fld Z h x O n d w → RoadKit.slotOf Z O n d ≠ RoadKit.slotOf Z ST "value" "[B" → RoadKit.slotOf Z O n d ≠ RoadKit.slotOf Z ST "coder" "B" → RoadKit.Fld Z h' x O n d w
/-- **new String(chars) AT A CALL, IN THE ROAD'S FORM**: for specialBack behind newO: x the fresh String, b the char[] with the cell A -/
theorem back {p : Program} {l : Launch} {e : Env} {R : Room} {s : State} {args : Array Value} {below : List Frame} {len W : Nat} {Z : State} {a0 : Array Value} {h : Heap} (hZ : Z.Warmed39 s.vm) (hw : ∀ d ∈ words, d.before a0 Z = true) {kI : Nat} (wi : (Jvm.Cond.instantiable ST kI).before a0 Z = true)
    {x b : Addr} {A : Cell} {z : Int32} {v0 c0 : Value} (E : RoadKit.Exa Z h x ST) (V : RoadKit.Fld Z h x ST "value" "[B" v0) (C : RoadKit.Fld Z h x ST "coder" "B" c0) (K : RoadKit.Arr Z h b A .char) (hty : Typed .char A) (S : RoadKit.Sta Z h ST "COMPACT_STRINGS" "Z" (.int z)) (hz : ¬ z = 0)
    (l0 : 0 < A.slots.size) (l2 : A.slots.size ≤ 536870912) (hp : ∀ i, i < A.slots.size → ¬ 255 < cv A i) (hfr : 4 ≤ R.frames) (hlo : W + 65 ≤ R.locals) :
    Back l R p e below s args New1.yN len W (fun P a => a = #[.ref x, .ref b] ∧ P.U.heap = h ∧ P.cells + 1 ≤ R.cells ∧ P.slots + A.slots.size ≤ R.slots)
      (fun P _ v B => ∃ L, Q Z x A h v B.U.heap L ∧ B.locs = P.locs ++ L ∧ B.cells = P.cells + 1 ∧ B.slots = P.slots + A.slots.size) := by
  intro m meth c P g ig mk a X hg hsize hdg hW hn hp'
  obtain ⟨rfl, rfl, r1, r2⟩ := hp'
  have al : Z.vm.Alike P.U.vm := hZ.alike.trans X.warmed.alike
  obtain ⟨D, cfV, kV, iV, fV, hD, gV, stV, knV, obV, asV, slV⟩ := id V
  obtain ⟨D', cfC, kC, iC, fC, hD', gC, stC, -, -, asC, slC⟩ := id C
  cases hD.symm.trans hD'
  obtain ⟨D2, kD, e1, e2, e3, e4, e5⟩ := id E
  cases hD.symm.trans e1
  obtain ⟨c2, k2, i1, i2, i3, -⟩ := Cond.instantiable_spec wi
  cases e2.symm.trans i1
  cases e3.symm.trans i2
  obtain ⟨kU, u1, u2⟩ := al.2.2 _ _ e3
  have hB : Blank ST x D P.U := ⟨hD, ⟨knV, fun q hq => by rw [hq] at obV; cases obV⟩, by rw [al.findClass]; exact e2, kU, u1, by rw [u2]; exact i3, by rw [u2]; exact e5 i3⟩
  have F1 : Found ST "value" "[B" fV P.U := ⟨SBG.found_only al ⟨cfV, kV, iV, gV⟩, stV⟩
  have F2 : Found ST "coder" "B" fC P.U := ⟨SBG.found_only al ⟨cfC, kC, iC, gC⟩, stC⟩
  have hA : Ch b A P.U := ⟨⟨K.1, State.isArrayOf_alike al K.2.1, K.2.2, by omega⟩, hty⟩
  have hS : StaticIs P.U ST "COMPACT_STRINGS" "Z" (.int z) := by
    obtain ⟨cfS, iS, kS, fS, st, cS, t1, t2, t3, t4, t5, t6, t7⟩ := S
    exact StaticIs.there (s := { Z with heap := P.U.heap }) ⟨cfS, iS, kS, fS, st, cS, t1, t2, t3, t4, t5, (fun q => by rw [q] at t6; cases t6), t7⟩ al rfl
  obtain ⟨v, B, X', ⟨⟨hv, E', V', q1, q2, q3, q4, q5, q6, q7, q8, q9, q10, q11⟩, hl, hc, hs⟩, st⟩ := New1.pays x D fV fC b A z (tab_of (moved hZ hw)) hfr hlo m meth c P g ig mk _ X hg hsize hdg hW hn ⟨r1, r2, rfl, hB, F1, F2, hA, hS, hz, l0, l2, hp⟩
  have al' : Z.vm.Alike B.U.vm := hZ.alike.trans X'.warmed.alike
  have hsz : E'.slots.size = D.slots.size := by
    obtain ⟨-, -, -, kB, w1, w2, w3⟩ := q1
    obtain ⟨kB', y1, y2⟩ := al'.2.2 _ _ e3
    rw [q2.2.1] at w1
    cases w1.symm.trans y1
    rw [w3, e5 i3, y2]
  refine ⟨v, B, X', ⟨_, ⟨hv, ?_, ⟨by omega, fun y cy hy hn' => q10 y cy (by simpa using hn') hy, fun y cy hy => ?_⟩, q11, ⟨E', _, q1.1, by rw [q2.2.1]; exact e2, by rw [q2.2.1]; exact e3, by rw [q2.1]; exact obV, fun _ => by rw [hsz]; exact e5 i3⟩,
    ⟨E', cfV, kV, iV, fV, q1.1, gV, stV, by rw [q2.1]; exact knV, by rw [q2.1]; exact obV, by rw [q2.2.1]; exact asV, q3⟩, ⟨E', cfC, kC, iC, fC, q1.1, gC, stC, by rw [q2.1]; exact knV, by rw [q2.1]; exact obV, by rw [q2.2.1]; exact asC, q4⟩,
    ⟨V', ⟨q5.1, State.isArrayOf_alike al'.symm q5.2.1, q5.2.2.1⟩, q6, by rw [← al'.findClass]; exact q7, q8, fun j hj => by have := q9 j hj; rwa [Nat.zero_add] at this⟩, fun O n d w F n1 n2 => ?_⟩, hl, hc, hs⟩, st⟩
  · intro y hy
    simp only [List.mem_cons, List.not_mem_nil, or_false] at hy
    rcases hy with rfl | rfl <;> rfl
  · by_cases q : y = x
    · subst q
      cases hD.symm.trans hy
      exact ⟨E', q1.1, q2.2.1, q2.1, hsz⟩
    · exact ⟨cy, q10 y cy q hy, rfl, rfl, rfl⟩
  · obtain ⟨D3, cf, k, i, f, g1, g2, g3, g4, g5, g6, g7⟩ := F
    cases hD.symm.trans g1
    simp only [RoadKit.slotOf, g2, gV, gC, Option.map_some, Option.getD_some] at n1 n2
    exact ⟨E', cf, k, i, f, q1.1, g2, g3, by rw [q2.1]; exact g4, by rw [q2.1]; exact g5, by rw [q2.2.1]; exact g6, by rw [q2.2.2 f.slot (by simp [n1, n2])]; exact g7⟩
end StrChars.Road
namespace StrChars.Road
open Jvm Sem ClassFile Op Lib Jvm.Stand Jvm.Free Jvm.Free.XT
/-- WHAT COMES BACK, the byte[] as a list of values -/
def QA (Z : State) (x : Addr) (zn : Int32) (cs : List Int32) (h : Heap) (v : Option Value) (h' : Heap) (L : List Loc) : Prop := v = none ∧ (∀ y ∈ L, y.base = x) ∧ RoadKit.Keep h h' [x] ∧ h'.size = h.size + 1 ∧ RoadKit.Exa Z h' x ST ∧ RoadKit.Fld Z h' x ST "value" "[B" (.ref h.size) ∧ RoadKit.Fld Z h' x ST "coder" "B" (.int 0) ∧
  (∃ kb, Z.vm.findClass "[B" = some kb ∧ RoadKit.Arv Z h' h.size kb .byte zn (cs.map fun c => .int (lo8 c)) (.int 0)) ∧
  ∀ (O n d : String) (w : Value), RoadKit.Fld Z h x O n d w → RoadKit.slotOf Z O n d ≠ RoadKit.slotOf Z ST "value" "[B" → RoadKit.slotOf Z O n d ≠ RoadKit.slotOf Z ST "coder" "B" → RoadKit.Fld Z h' x O n d w
/-- **new String(chars) AT A CALL, THE ARRAYS AS LISTS**: the char[] at b holds cs, not empty, no char above 255 -/
theorem backArv {p : Program} {l : Launch} {e : Env} {R : Room} {s : State} {args : Array Value} {below : List Frame} {len W : Nat} {Z : State} {a0 : Array Value} {h : Heap} (hZ : Z.Warmed39 s.vm) (hw : ∀ d ∈ words, d.before a0 Z = true) {kI : Nat} (wi : (Jvm.Cond.instantiable ST kI).before a0 Z = true)
    {x b : Addr} {k : ClassId} {zn z : Int32} {cs : List Int32} {dv v0 c0 : Value} (E : RoadKit.Exa Z h x ST) (V : RoadKit.Fld Z h x ST "value" "[B" v0) (C : RoadKit.Fld Z h x ST "coder" "B" c0) (K : RoadKit.Arv Z h b k .char zn (cs.map Value.int) dv) (S : RoadKit.Sta Z h ST "COMPACT_STRINGS" "Z" (.int z)) (hz : ¬ z = 0)
    (hlen : zn.toNatClampNeg = cs.length) (h0 : 0 < cs.length) (hbig : cs.length ≤ 536870912) (hall : ∀ c ∈ cs, ¬ 255 < c) (hfr : 4 ≤ R.frames) (hlo : W + 65 ≤ R.locals) :
    Back l R p e below s args New1.yN len W (fun P a => a = #[.ref x, .ref b] ∧ P.U.heap = h ∧ P.cells + 1 ≤ R.cells ∧ P.slots + cs.length ≤ R.slots)
      (fun P _ v B => ∃ L, QA Z x zn cs h v B.U.heap L ∧ B.locs = P.locs ++ L ∧ B.cells = P.cells + 1 ∧ B.slots = P.slots + cs.length) := by
  obtain ⟨A, K1, K2, K3, K4, K5, K6⟩ := K
  have e : A.slots.size = cs.length := K3.trans hlen
  have hat : ∀ (i : Nat) (hi : i < cs.length), A.slots[i]? = some (.int cs[i]) := fun i hi => by rw [K5 i (by omega)]; simp [List.getD_eq_getElem?_getD, hi]
  have hcv : ∀ (i : Nat) (hi : i < cs.length), cv A i = cs[i] := fun i hi => by unfold cv; rw [hat i hi]
  have hty : Typed .char A := fun i v hv => by
    have hi : i < A.slots.size := (Array.getElem?_eq_some_iff.mp hv).1
    have q := K5 i hi
    rw [hv] at q
    rw [Option.some.inj q]
    exact K6 i hi
  refine Back.mono (back hZ hw wi E V C K1 hty S hz (by omega) (by omega) (fun i hi => by rw [hcv i (by omega)]; exact hall _ (List.getElem_mem _)) hfr hlo) (fun P a hp => ⟨hp.1, hp.2.1, hp.2.2.1, by rw [e]; exact hp.2.2.2⟩) (fun P a v B hp hq => ?_)
  obtain ⟨L, ⟨q1, q2, q3, q4, q5, q6, q7, ⟨V', v1, v2, v3, v4, v5⟩, q9⟩, hl, hc, hs⟩ := hq
  refine ⟨L, ⟨q1, q2, q3, q4, q5, q6, q7, ⟨V'.cls, v3, V', v1, rfl, by rw [v4, e, hlen], K4, fun i hi => ?_, fun i hi => ?_⟩, q9⟩, hl, hc, by rw [hs, e]⟩
  · have hi' : i < cs.length := by omega
    rw [v5 i (by omega), hcv i hi']; simp [List.getD_eq_getElem?_getD, hi']
  · have hi' : i < cs.length := by omega
    simp only [List.getD_eq_getElem?_getD, List.getElem?_map, List.getElem?_eq_getElem hi', Option.map_some, Option.getD_some]
    exact fits_lo8 _
end StrChars.Road
namespace StrChars.Road
open Jvm Sem ClassFile Op Lib Jvm.Stand Jvm.Free Jvm.Free.XT
/-- WHAT COMES BACK, in the writer's own shape -/
def QV (Z : State) (x : Addr) (N : Int32) (bs : List Int32) (h : Heap) (n0 : Nat) (v : Option Value) (h' : Heap) (L : List Loc) : Prop := v = none ∧ RoadKit.Fr n0 L ∧ RoadKit.Keep h h' [x] ∧ RoadKit.Exa Z h' x ST ∧ RoadKit.Fld Z h' x ST "coder" "B" (.int 0) ∧
  ∃ (t : Addr) (kb : ClassId), n0 ≤ t ∧ h.size ≤ t ∧ ¬ t = x ∧ RoadKit.Fld Z h' x ST "value" "[B" (.ref t) ∧ RoadKit.Arv Z h' t kb .byte N (bs.map Value.int) (.int 0)
/-- **new String(chars) AT A CALL, FOR THE WRITER**: a char[] of n known ints, each 0 to 255 -/
theorem backV {p : Program} {l : Launch} {e : Env} {R : Room} {s : State} {args : Array Value} {below : List Frame} {len W : Nat} {Z : State} {a0 : Array Value} {h : Heap} (hZ : Z.Warmed39 s.vm) (hw : ∀ d ∈ words, d.before a0 Z = true) {kI : Nat} (wi : (Jvm.Cond.instantiable ST kI).before a0 Z = true)
    {x b : Addr} {kC : ClassId} {cs bs : List Int32} {d v0 c0 : Value} {z N : Int32} {n n0 : Nat} (hx0 : n0 ≤ x) (hh0 : n0 ≤ h.size) (E : RoadKit.Exa Z h x ST) (V : RoadKit.Fld Z h x ST "value" "[B" v0) (C : RoadKit.Fld Z h x ST "coder" "B" c0) (K : RoadKit.Arv Z h b kC .char N (cs.map Value.int) d) (S : RoadKit.Sta Z h ST "COMPACT_STRINGS" "Z" (.int z)) (hz : ¬ z = 0)
    (hn : cs.length = n) (hN : N = Int32.ofNat n) (l0 : 0 < n) (l2 : n ≤ 4000) (hp : ∀ c ∈ cs, ¬ c < 0 ∧ ¬ (255 : Int32) < c) (hb : bs = cs.map (fun c => c.toInt8.toInt32)) (hfr : 4 ≤ R.frames) (hlo : W + 65 ≤ R.locals) :
    Back l R p e below s args (⟨"java/lang/String", "<init>", "([C)V"⟩ : MethodName) len W (fun P a => a = #[.ref x, .ref b] ∧ P.U.heap = h ∧ P.cells + 1 ≤ R.cells ∧ P.slots + n ≤ R.slots)
      (fun P _ v B => ∃ L, QV Z x N bs h n0 v B.U.heap L ∧ B.locs = P.locs ++ L ∧ B.cells = P.cells + 1 ∧ B.slots = P.slots + n) := by
  subst hn hN hb
  refine Back.mono (backArv hZ hw wi E V C K S hz (n32 (by omega)) l0 (by omega) (fun c hc => (hp c hc).2) hfr hlo) (fun P a hp => hp) (fun P a v B hp hq => ?_)
  obtain ⟨L, ⟨q1, q2, q3, q4, q5, q6, q7, ⟨kb, v1, v2⟩, q9⟩, hl, hc, hs⟩ := hq
  exact ⟨L, ⟨q1, fun y hy => by rw [q2 y hy]; exact hx0, q3, q5, q7, h.size, kb, hh0, Nat.le_refl _, Nat.ne_of_gt E.lt, q6, by rw [List.map_map]; exact v2⟩, hl, hc, hs⟩
end StrChars.Road
end Jvm.Pilot.@@N@@

namespace Jvm.OwnW
open Jvm Jvm.ClassFile Sem Op Lib Jvm.Free Jvm.Stand Jvm.LawKit Jvm.RoadKit Bundle
/-! A small calculus of weakest preconditions over the library's Stand: own text. WP says: from this place every run of this body ends well. -/
def Cx (p : Program) (meth : Method) (c : Code) (nm : String) (bytes : ByteArray) (maxL : Nat) (ret : Option FieldType) : Prop :=
  p.tables.exec = Jvm.exec ∧ c.code = bytes ∧ c.maxLocals = maxL ∧ meth.sig.returnType = ret ∧ meth.locks = false ∧ meth.name = nm
def Pl (l : Launch) (Z : State) (EL : List (String × Nat)) (nar : Bool) (own : String) (R : Room) (p : Program) (e : Env) (s : State) (m : MethodId) (args : Array Value) (below : List Frame) (meth : Method) (c : Code) (vm : Vm) (h : Heap) (T : State) (L : List Loc) (ce sl : Nat) : Prop :=
  Stand p l e R (s.setVm vm) m args below meth c T L ce sl ∧ (∃ k0, s.Since vm k0 ∧ k0 ≤ h.size) ∧ Z.Warmed39 vm ∧ vm.findClass own = some m.cls ∧ T.heap = h ∧ Fr Z.heap.size L ∧ Ext Z.heap h ∧ CHr Z EL s.vm s.heap vm h ∧ (nar = true → s.WarmedH vm) ∧ ∃ a0, EW Z a0 EL
def Fine (Z : State) (EL : List (String × Nat)) (nar : Bool) (R : Room) (Q : Option Value → Heap → Prop) (p : Program) (e : Env) (s : State) (below : List Frame) (S0 : State) : Prop :=
  ∃ t o, Steps p.tables e below S0 t ∧ t.status = .running ∧ Ended t below o ∧ ∃ v L, o = .returned v ∧ Q v t.heap ∧ Ext Z.heap t.heap ∧ Fr Z.heap.size L ∧ CHr Z EL s.vm s.heap t.vm t.heap ∧ (nar = true → s.WarmedH t.vm) ∧ ReturnedEndW s o t L R.cells R.slots
def WP (l : Launch) (Z : State) (EL : List (String × Nat)) (nar : Bool) (own nm : String) (bytes : ByteArray) (maxL : Nat) (ret : Option FieldType) (R : Room) (Q : Option Value → Heap → Prop) (vm : Vm) (h : Heap) (ce sl pc : Nat) (Ls : Array Slot) (st : List Value) : Prop :=
  ∀ p e s m args below meth c T L, Cx p meth c nm bytes maxL ret → Pl l Z EL nar own R p e s m args below meth c vm h T L ce sl → Fine Z EL nar R Q p e s below (T.setTop (mkF m pc Ls st))
def Con (l : Launch) (Z : State) (EL : List (String × Nat)) (nar : Bool) (sf : List Addr) (y : MethodName) (bytes : ByteArray) (maxL : Nat) (ret : Option FieldType) (rm : Room) (as' : Array Value) (h0 : Heap) (Q : Option Value → Heap → Prop) : Prop :=
  ∀ ws, MetFree l y (head1 (Cond.code y bytes maxL ret :: ws) rm) (fun a U => a = as' ∧ Z.Warmed39 U.vm ∧ U.heap = h0 ∧ Ext Z.heap h0 ∧ CHv Z EL U.vm h0 ∧ ∀ x ∈ sf, Safe Z EL U.vm h0 x) (fun _ _ _ _ _ => True)
    (fun _ U o U' => ∃ v L, o = .returned v ∧ Q v U'.heap ∧ Ext Z.heap U'.heap ∧ Fr Z.heap.size L ∧ CHr Z EL U.vm U.heap U'.vm U'.heap ∧ (nar = true → U.WarmedH U'.vm) ∧ ReturnedEndW U o U' L rm.cells rm.slots)
section Basic
variable {l : Launch} {Z : State} {EL : List (String × Nat)} {nar : Bool} {own nm : String} {bytes : ByteArray} {maxL : Nat} {ret : Option FieldType} {R : Room} {Q : Option Value → Heap → Prop} {vm : Vm} {h : Heap} {ce sl pc n : Nat} {Ls Ls' : Array Slot} {st st' : List Value} {a0 : Array Value}
theorem ext_refl (h : Heap) : Ext h h := ⟨Nat.le_refl _, fun _ _ q => q⟩
theorem ext_trans {h1 h2 h3 : Heap} (E : Ext h1 h2) (F : Ext h2 h3) : Ext h1 h3 := ⟨Nat.le_trans E.1 F.1, fun a c q => F.2 a c (E.2 a c q)⟩
theorem ext_keep {h1 h2 h3 : Heap} {ws : List Addr} (E : Ext h1 h2) (K : Keep h2 h3 ws) (q : ∀ x ∈ ws, h1.size ≤ x) : Ext h1 h3 :=
  ⟨Nat.le_trans E.1 K.1, fun a c r => K.2.1 a c (E.2 a c r) fun z => absurd (Array.getElem?_eq_some_iff.mp r).1 (Nat.not_lt.mpr (q a z))⟩
theorem ext_wr {h1 h2 h3 : Heap} {a : Addr} {i : Nat} {v : Value} (E : Ext h1 h2) (W : Wr h2 h3 a i v) (q : h1.size ≤ a) : Ext h1 h3 :=
  ext_keep E (Keep.of_wr W) fun x hx => by cases List.mem_singleton.mp hx; exact q
theorem ext_keep1 {h1 h2 h3 : Heap} {a : Addr} (E : Ext h1 h2) (K : Keep h2 h3 [a]) (q : h1.size ≤ a) : Ext h1 h3 := ext_keep E K fun x hx => by cases List.mem_singleton.mp hx; exact q
theorem ext_keep0 {h1 h2 : Heap} (K : Keep h1 h2 []) : Ext h1 h2 := ext_keep (ext_refl _) K fun x hx => nomatch hx
/-- what always holds where the walk stands -/
theorem WP.inv (k : Z.Warmed39 vm → Ext Z.heap h → CHv Z EL vm h → WP l Z EL nar own nm bytes maxL ret R Q vm h ce sl pc Ls st) : WP l Z EL nar own nm bytes maxL ret R Q vm h ce sl pc Ls st := by
  intro p e s m args below meth c T L cx pl
  exact k pl.2.2.1 pl.2.2.2.2.2.2.1 pl.2.2.2.2.2.2.2.1.1 p e s m args below meth c T L cx pl
/-- fewer cells and slots made are at most more -/
theorem WP.more {ce' sl' : Nat} (hc : ce ≤ ce') (hs : sl ≤ sl') (k : WP l Z EL nar own nm bytes maxL ret R Q vm h ce' sl' pc Ls st) : WP l Z EL nar own nm bytes maxL ret R Q vm h ce sl pc Ls st := by
  intro p e s m args below meth c T L cx pl
  exact k p e s m args below meth c T L cx ⟨pl.1.mono hc hs, pl.2⟩
theorem WP.post {Q' : Option Value → Heap → Prop} (hq : ∀ v h', Q' v h' → Q v h') (k : WP l Z EL nar own nm bytes maxL ret R Q' vm h ce sl pc Ls st) : WP l Z EL nar own nm bytes maxL ret R Q vm h ce sl pc Ls st := by
  intro p e s m args below meth c T L cx pl
  obtain ⟨t, o, h1, h2, h3, v, L', h4, h5, r⟩ := k p e s m args below meth c T L cx pl
  exact ⟨t, o, h1, h2, h3, v, L', h4, hq _ _ h5, r⟩
/-- a step that leaves the state as it is -/
theorem WP.step (hs : ∀ (p : Program) (e : Env) (below : List Frame) (T target : State) (m : MethodId) (c : Code), p.tables.exec = Jvm.exec → c.code = bytes → At T m c below → Steps p.tables e below (T.setTop (mkF m n Ls' st')) target → Steps p.tables e below (T.setTop (mkF m pc Ls st)) target)
    (k : WP l Z EL nar own nm bytes maxL ret R Q vm h ce sl n Ls' st') : WP l Z EL nar own nm bytes maxL ret R Q vm h ce sl pc Ls st := by
  intro p e s m args below meth c T L cx pl
  obtain ⟨t, o, h1, r⟩ := k p e s m args below meth c T L cx pl
  exact ⟨t, o, hs p e below T t m c cx.1 cx.2.1 pl.1.here h1, r⟩
/-- a step that leaves the heap as it is (the tables may warm) -/
theorem WP.look (hs : ∀ (p : Program) (e : Env) (s : State) (args : Array Value) (below : List Frame) (T : State) (m : MethodId) (meth : Method) (c : Code) (L : List Loc), p.tables.exec = Jvm.exec → c.code = bytes → Stand p l e R (s.setVm vm) m args below meth c T L ce sl → Z.Warmed39 (s.setVm vm).vm → (s.setVm vm).vm.findClass own = some m.cls → T.heap = h →
      ∃ T', Stand p l e R (s.setVm vm) m args below meth c T' L ce sl ∧ T'.heap = h ∧ ∀ target, Steps p.tables e below (T'.setTop (mkF m n Ls' st')) target → Steps p.tables e below (T.setTop (mkF m pc Ls st)) target)
    (k : WP l Z EL nar own nm bytes maxL ret R Q vm h ce sl n Ls' st') : WP l Z EL nar own nm bytes maxL ret R Q vm h ce sl pc Ls st := by
  intro p e s m args below meth c T L cx ⟨X, hS, hZ, hown, eT, N, hE, hC, hW, hEL⟩
  obtain ⟨T', X', e', stp⟩ := hs p e s args below T m meth c L cx.1 cx.2.1 X hZ hown eT
  obtain ⟨t, o, h1, r⟩ := k p e s m args below meth c T' L cx ⟨X', hS, hZ, hown, e', N, hE, hC, hW, hEL⟩
  exact ⟨t, o, stp _ h1, r⟩
/-- a step that makes a cell -/
theorem WP.make {ce' sl' : Nat} {P : Heap → Prop} (hs : ∀ (p : Program) (e : Env) (s : State) (args : Array Value) (below : List Frame) (T : State) (m : MethodId) (meth : Method) (c : Code) (L : List Loc), p.tables.exec = Jvm.exec → c.code = bytes → Stand p l e R (s.setVm vm) m args below meth c T L ce sl → Z.Warmed39 (s.setVm vm).vm → (s.setVm vm).vm.findClass own = some m.cls → T.heap = h →
      ∃ T' h', Stand p l e R (s.setVm vm) m args below meth c T' L ce' sl' ∧ T'.heap = h' ∧ Ext h h' ∧ P h' ∧ ∀ target, Steps p.tables e below (T'.setTop (mkF m n Ls' st')) target → Steps p.tables e below (T.setTop (mkF m pc Ls st)) target)
    (k : ∀ h', Ext h h' → P h' → CHr Z EL vm h vm h' → WP l Z EL nar own nm bytes maxL ret R Q vm h' ce' sl' n Ls' st') : WP l Z EL nar own nm bytes maxL ret R Q vm h ce sl pc Ls st := by
  intro p e s m args below meth c T L cx ⟨X, ⟨k0, hS, hk⟩, hZ, hown, eT, N, hE, hC, hW, hEL⟩
  obtain ⟨T', h', X', e', E', hP, stp⟩ := hs p e s args below T m meth c L cx.1 cx.2.1 X hZ hown eT
  have hR : CHr Z EL vm h vm h' := CHr.ext E' hC.1
  obtain ⟨t, o, h1, r⟩ := k h' E' hP hR p e s m args below meth c T' L cx ⟨X', ⟨k0, hS, Nat.le_trans hk E'.1⟩, hZ, hown, e', N, ext_trans hE E', hC.trans hR, hW, hEL⟩
  exact ⟨t, o, stp _ h1, r⟩
/-- a step that writes one place of a new cell -/
theorem WP.write {a : Addr} {i : Nat} {v : Value} (ha : Z.heap.size ≤ a) (hsafe : Z.Warmed39 vm → Safe Z EL vm h a)
    (hs : ∀ (p : Program) (e : Env) (s : State) (args : Array Value) (below : List Frame) (T : State) (m : MethodId) (meth : Method) (c : Code) (L : List Loc), p.tables.exec = Jvm.exec → c.code = bytes → meth.name = nm → Stand p l e R (s.setVm vm) m args below meth c T L ce sl → Z.Warmed39 (s.setVm vm).vm → (s.setVm vm).vm.findClass own = some m.cls → T.heap = h →
      ∃ T' h', Stand p l e R (s.setVm vm) m args below meth c T' (L ++ [⟨a, i⟩]) ce sl ∧ T'.heap = h' ∧ Wr h h' a i v ∧ ∀ target, Steps p.tables e below (T'.setTop (mkF m n Ls' st')) target → Steps p.tables e below (T.setTop (mkF m pc Ls st)) target)
    (k : ∀ h', Wr h h' a i v → CHr Z EL vm h vm h' → WP l Z EL nar own nm bytes maxL ret R Q vm h' ce sl n Ls' st') : WP l Z EL nar own nm bytes maxL ret R Q vm h ce sl pc Ls st := by
  intro p e s m args below meth c T L cx ⟨X, ⟨k0, hS, hk⟩, hZ, hown, eT, N, hE, hC, hW, hEL⟩
  obtain ⟨T', h', X', e', W', stp⟩ := hs p e s args below T m meth c L cx.1 cx.2.1 cx.2.2.2.2.2 X hZ hown eT
  have hR : CHr Z EL vm h vm h' := CHr.wr W' (hsafe hZ) hC.1
  obtain ⟨t, o, h1, r⟩ := k h' W' hR p e s m args below meth c T' _ cx ⟨X', ⟨k0, hS, by rw [W'.size]; exact hk⟩, hZ, hown, e', Fr.snoc X' N ha, ext_wr hE W' ha, hC.trans hR, hW, hEL⟩
  exact ⟨t, o, stp _ h1, r⟩
/-- the end -/
theorem WP.done {v : Option Value} (hc : ce ≤ R.cells) (hsl : sl ≤ R.slots) (hv : ret = none → v = none)
    (hs : ∀ (p : Program) (e : Env) (s : State) (args : Array Value) (below : List Frame) (T : State) (m : MethodId) (meth : Method) (c : Code) (L : List Loc) (fs : List Frame), p.tables.exec = Jvm.exec → c.code = bytes → meth.sig.returnType = ret → Stand p l e R (s.setVm vm) m args below meth c T L ce sl →
      (∀ (f : JFrame) (acts : List Action), f.method = m → f.locked = none → f.entered = [] → (doReturn e (T.setTop f) acts v).1 = T.setFrames fs) → Steps p.tables e below (T.setTop (mkF m pc Ls st)) (T.setFrames fs))
    (hq : Q v h) : WP l Z EL nar own nm bytes maxL ret R Q vm h ce sl pc Ls st := by
  intro p e s m args below meth c T L cx ⟨X, ⟨k0, hS, hk⟩, hZ, hown, eT, N, hE, hC, hW, a0, hEL⟩
  have hlk : meth.locks = false := cx.2.2.2.2.1
  obtain ⟨fs, hr, hrun, hend, hret⟩ := X.leaveW hS (by rw [eT]; exact hk) (v := v) (fun q => hv (cx.2.2.2.1 ▸ q))
  refine ⟨_, _, hs p e s args below T m meth c L fs cx.1 cx.2.1 cx.2.2.2.1 X hr, hrun, hend, v, L, rfl, ?_, ?_, N, ?_, fun q => ?_, ?_⟩
  · show Q v T.heap
    rw [eT]; exact hq
  · show Ext Z.heap T.heap
    rw [eT]; exact hE
  · show CHr Z EL s.vm s.heap T.vm T.heap
    rw [eT]; exact hC.trans (CHv.at X hZ hEL hC.1)
  · exact State.WarmedH.trans (t := s.setVm vm) (hW q) X.warmed
  · obtain ⟨r1, r2, r3, r4⟩ := hret
    exact ⟨r1, r2, r3, r4.mono hc hsl⟩
/-- a body's contract out of its walk -/
theorem Con.of {sf : List Addr} {y : MethodName} {as' : Array Value} (hpn : plainFor y = true) (hEL : EW Z a0 EL) (hef : ∀ m, entryFrame m as' maxL = mkF m 0 Ls [])
    (k : ∀ vm, Z.Warmed39 vm → Ext Z.heap h → CHv Z EL vm h → (∀ x ∈ sf, Safe Z EL vm h x) → WP l Z EL nar y.cls y.name bytes maxL ret R Q vm h 0 0 0 Ls []) : Con l Z EL nar sf y bytes maxL ret R as' h Q := by
  intro ws
  refine MetFree.of_bodySF hpn hisR ?_
  intro p e s m args below meth c s₁ Bd hml hP hK
  obtain ⟨rfl, hZ, hh, hE, hC, hS⟩ := hP
  have X0 : Stand p l e R s m args below meth c s₁ [] 0 0 := Stand.of_body Bd
  have e0 : s₁.heap = h := by rw [← hh, Bd.state]; rfl
  obtain ⟨t, o, h1, h2, h3, r⟩ := k s.vm hZ hE hC hS p e s m args below meth c s₁ [] ⟨Bd.exec, Bd.bytes, hml, Bd.returns, Bd.notSynchronized, (name_of_methodNamed Bd.named Bd.method).1⟩
    ⟨X0, ⟨s.heap.size, (State.WarmedH.refl s).since _, by rw [hh]; exact Nat.le_refl _⟩, hZ, findClass_of_methodNamed Bd.named, e0, Fr.nil _, hE, by rw [hh]; exact CHr.refl hC, fun _ => State.WarmedH.refl s, a0, hEL⟩
  exact ⟨t, o, castTop (hef m) h1, h2, h3, r⟩
theorem Con.post {sf : List Addr} {y : MethodName} {as' : Array Value} {Q' : Option Value → Heap → Prop} (C : Con l Z EL nar sf y bytes maxL ret R as' h Q') (hq : ∀ v h', Q' v h' → Q v h') : Con l Z EL nar sf y bytes maxL ret R as' h Q := by
  intro ws p e ha hc hk s m args below hf happ hP hK
  obtain ⟨n, o, h1, h2, h3, v, L, h4, h5, r⟩ := C ws p e ha hc hk s m args below hf happ hP hK
  exact ⟨n, o, h1, h2, h3, v, L, h4, hq _ _ h5, r⟩
theorem Con.back {sf : List Addr} {y : MethodName} {as' : Array Value} {a1 : Array Value} {p : Program} {e : Env} {below : List Frame} {s : State} {args : Array Value} {len Wd : Nat} {rm : Room} (C : Con l Z EL nar sf y bytes maxL ret rm as' h Q) (hEL : EW Z a1 EL) (hZ : Z.Warmed39 vm) (wc : (Cond.code y bytes maxL ret).before a0 Z = true) (wz : (Cond.initialized y.cls).before a0 Z = true)
    (hf : rm.frames + 1 ≤ R.frames) (hl : Wd + (maxL + 11) + rm.locals ≤ R.locals) (hE : Ext Z.heap h) (H : CHv Z EL vm h) (hsf : ∀ x ∈ sf, Safe Z EL vm h x ∧ x < h.size) :
    BackS l R p e below (s.setVm vm) args y len Wd (fun A a => a = as' ∧ A.U.heap = h ∧ A.cells + rm.cells ≤ R.cells ∧ A.slots + rm.slots ≤ R.slots)
      (fun A _ v B => ∃ L, Q v B.U.heap ∧ Ext Z.heap B.U.heap ∧ Fr Z.heap.size L ∧ B.locs = A.locs ++ L ∧ B.cells = A.cells + rm.cells ∧ B.slots = A.slots + rm.slots ∧ CHr Z EL vm h B.U.vm B.U.heap ∧ (nar = true → (s.setVm vm).WarmedH B.U.vm)) :=
  BackS.of_freeW (bytes := bytes) (maxL := maxL) (ret := ret) (E := fun _ first o t L k n => k = rm.cells ∧ n = rm.slots ∧ (∃ v, o = .returned v ∧ Q v t.heap ∧ Ext Z.heap t.heap ∧ Fr Z.heap.size L) ∧ CHr Z EL first.vm first.heap t.vm t.heap ∧ (nar = true → first.WarmedH t.vm)) (C []) hf hl
    (fun m meth c A a Y hp => have hU : Z.Warmed39 A.U.vm := wtrans (s := s.setVm vm) hZ Y.warmed
      ⟨by show (Cond.and _ .tt).before a A.U = true; rw [Cond.before_and, mv hU wc]; rfl, mv hU wc, mv hU wz, hp.2.2.1, hp.2.2.2⟩)
    (fun m meth c A a g mk Y hp => ⟨hp.1, wtrans (s := s.setVm vm) hZ Y.warmed, hp.2.1, hE, (CHv.at Y hZ hEL H).1, fun x hx => (CHv.at Y hZ hEL H).safe (hsf x hx).2 (hsf x hx).1⟩) (fun _ _ _ _ _ _ _ _ _ => trivial)
    (fun _ _ _ _ ⟨v, L, h1, h2, h3, h4, h5, h6, h7⟩ => ⟨L, _, _, h7, rfl, rfl, ⟨v, h1, h2, h3, h4⟩, h5, h6⟩)
    (fun m meth c A a g mk v t L k n Y hp _ _ ⟨e1, e2, ⟨v', e3, e4, e5, e6⟩, e7, e8⟩ => by
      cases e3; subst e1 e2
      refine ⟨L, e4, e5, e6, rfl, rfl, rfl, (CHv.at Y hZ hEL H).trans ?_, fun q => ?_⟩
      · rw [← hp.2.1]; exact e7
      · exact State.WarmedH.trans (t := A.U.calling g mk a) Y.warmed (e8 q))
end Basic
end Jvm.OwnW
namespace Jvm.OwnW
open Jvm Jvm.ClassFile Sem Op Lib Jvm.Free Jvm.Stand Jvm.LawKit Jvm.RoadKit Bundle
section Steps
variable {l : Launch} {Z : State} {EL : List (String × Nat)} {nar : Bool} {own nm : String} {bytes : ByteArray} {maxL : Nat} {ret : Option FieldType} {R : Room} {Q : Option Value → Heap → Prop} {vm : Vm} {h : Heap} {ce sl pc n n' : Nat} {Ls Ls' : Array Slot} {st rest : List Value} {a0 : Array Value}
theorem WP.iloadN {k' : Fin 4} {v : Int32} (hd : decode bytes pc = .ok (.iload_n k', 1)) (hl : Ls[k'.val]? = some (.val (.int v))) (hp : pc + 1 = n) (k : WP l Z EL nar own nm bytes maxL ret R Q vm h ce sl n Ls (.int v :: st)) : WP l Z EL nar own nm bytes maxL ret R Q vm h ce sl pc Ls (st) := by subst hp; exact WP.step (fun p e below T t m c hx hb ha q => XS.iloadN ha hx rfl (hb ▸ hd) hl q) k
theorem WP.iload {k' : Nat} {v : Int32} (hd : decode bytes pc = .ok (.iload k', 2)) (hl : Ls[k']? = some (.val (.int v))) (hp : pc + 2 = n) (k : WP l Z EL nar own nm bytes maxL ret R Q vm h ce sl n Ls (.int v :: st)) : WP l Z EL nar own nm bytes maxL ret R Q vm h ce sl pc Ls (st) := by subst hp; exact WP.step (fun p e below T t m c hx hb ha q => XS.iload ha hx rfl (hb ▸ hd) hl q) k
theorem WP.istoreN {k' : Fin 4} {v : Int32} (hd : decode bytes pc = .ok (.istore_n k', 1)) (hl : storeLocals Ls k'.val (.int v) = some Ls') (hp : pc + 1 = n) (k : WP l Z EL nar own nm bytes maxL ret R Q vm h ce sl n Ls' (rest)) : WP l Z EL nar own nm bytes maxL ret R Q vm h ce sl pc Ls (.int v :: rest) := by subst hp; exact WP.step (fun p e below T t m c hx hb ha q => XS.istoreN ha hx rfl (hb ▸ hd) rfl hl q) k
theorem WP.istore {k' : Nat} {v : Int32} (hd : decode bytes pc = .ok (.istore k', 2)) (hl : storeLocals Ls k' (.int v) = some Ls') (hp : pc + 2 = n) (k : WP l Z EL nar own nm bytes maxL ret R Q vm h ce sl n Ls' (rest)) : WP l Z EL nar own nm bytes maxL ret R Q vm h ce sl pc Ls (.int v :: rest) := by subst hp; exact WP.step (fun p e below T t m c hx hb ha q => XS.istore ha hx rfl (hb ▸ hd) rfl hl q) k
theorem WP.lloadN {k' : Fin 4} {v : Int64} (hd : decode bytes pc = .ok (.lload_n k', 1)) (hl : Ls[k'.val]? = some (.val (.long v))) (hp : pc + 1 = n) (k : WP l Z EL nar own nm bytes maxL ret R Q vm h ce sl n Ls (.long v :: st)) : WP l Z EL nar own nm bytes maxL ret R Q vm h ce sl pc Ls (st) := by subst hp; exact WP.step (fun p e below T t m c hx hb ha q => XT.lloadN ha hx rfl (hb ▸ hd) hl q) k
theorem WP.lload {k' : Nat} {v : Int64} (hd : decode bytes pc = .ok (.lload k', 2)) (hl : Ls[k']? = some (.val (.long v))) (hp : pc + 2 = n) (k : WP l Z EL nar own nm bytes maxL ret R Q vm h ce sl n Ls (.long v :: st)) : WP l Z EL nar own nm bytes maxL ret R Q vm h ce sl pc Ls (st) := by subst hp; exact WP.step (fun p e below T t m c hx hb ha q => XT.lload ha hx rfl (hb ▸ hd) hl q) k
theorem WP.lstoreN {k' : Fin 4} {v : Int64} (hd : decode bytes pc = .ok (.lstore_n k', 1)) (hl : storeLocals Ls k'.val (.long v) = some Ls') (hp : pc + 1 = n) (k : WP l Z EL nar own nm bytes maxL ret R Q vm h ce sl n Ls' (rest)) : WP l Z EL nar own nm bytes maxL ret R Q vm h ce sl pc Ls (.long v :: rest) := by subst hp; exact WP.step (fun p e below T t m c hx hb ha q => XT.lstoreN ha hx rfl (hb ▸ hd) rfl hl q) k
theorem WP.lstore {k' : Nat} {v : Int64} (hd : decode bytes pc = .ok (.lstore k', 2)) (hl : storeLocals Ls k' (.long v) = some Ls') (hp : pc + 2 = n) (k : WP l Z EL nar own nm bytes maxL ret R Q vm h ce sl n Ls' (rest)) : WP l Z EL nar own nm bytes maxL ret R Q vm h ce sl pc Ls (.long v :: rest) := by subst hp; exact WP.step (fun p e below T t m c hx hb ha q => XT.lstore ha hx rfl (hb ▸ hd) rfl hl q) k
theorem WP.aloadN {k' : Fin 4} {v : Value} (hd : decode bytes pc = .ok (.aload_n k', 1)) (hl : Ls[k'.val]? = some (.val v)) (hv : v.isRef = true) (hp : pc + 1 = n) (k : WP l Z EL nar own nm bytes maxL ret R Q vm h ce sl n Ls (v :: st)) : WP l Z EL nar own nm bytes maxL ret R Q vm h ce sl pc Ls (st) := by subst hp; exact WP.step (fun p e below T t m c hx hb ha q => XS.aloadN ha hx rfl (hb ▸ hd) hl hv q) k
theorem WP.aload {k' : Nat} {v : Value} (hd : decode bytes pc = .ok (.aload k', 2)) (hl : Ls[k']? = some (.val v)) (hv : v.isRef = true) (hp : pc + 2 = n) (k : WP l Z EL nar own nm bytes maxL ret R Q vm h ce sl n Ls (v :: st)) : WP l Z EL nar own nm bytes maxL ret R Q vm h ce sl pc Ls (st) := by subst hp; exact WP.step (fun p e below T t m c hx hb ha q => XS.aload ha hx rfl (hb ▸ hd) hl hv q) k
theorem WP.astoreN {k' : Fin 4} {v : Value} (hd : decode bytes pc = .ok (.astore_n k', 1)) (hv : v.isRef = true) (hl : storeLocals Ls k'.val v = some Ls') (hp : pc + 1 = n) (k : WP l Z EL nar own nm bytes maxL ret R Q vm h ce sl n Ls' (rest)) : WP l Z EL nar own nm bytes maxL ret R Q vm h ce sl pc Ls (v :: rest) := by subst hp; exact WP.step (fun p e below T t m c hx hb ha q => XS.astoreN ha hx rfl (hb ▸ hd) rfl hv hl q) k
theorem WP.astore {k' : Nat} {v : Value} (hd : decode bytes pc = .ok (.astore k', 2)) (hv : v.isRef = true) (hl : storeLocals Ls k' v = some Ls') (hp : pc + 2 = n) (k : WP l Z EL nar own nm bytes maxL ret R Q vm h ce sl n Ls' (rest)) : WP l Z EL nar own nm bytes maxL ret R Q vm h ce sl pc Ls (v :: rest) := by subst hp; exact WP.step (fun p e below T t m c hx hb ha q => XS.astore ha hx rfl (hb ▸ hd) rfl hv hl q) k
theorem WP.iconst {i : Int} {z : Int32} (hd : decode bytes pc = .ok (.iconst i, 1)) (hz : Int32.ofInt i = z) (hp : pc + 1 = n) (k : WP l Z EL nar own nm bytes maxL ret R Q vm h ce sl n Ls (.int z :: st)) : WP l Z EL nar own nm bytes maxL ret R Q vm h ce sl pc Ls st := by subst hp hz; exact WP.step (fun p e below T t m c hx hb ha q => XS.iconst ha hx rfl (hb ▸ hd) q) k
theorem WP.bipush {i : Int} {z : Int32} (hd : decode bytes pc = .ok (.bipush i, 2)) (hz : (Int8.ofInt i).toInt32 = z) (hp : pc + 2 = n) (k : WP l Z EL nar own nm bytes maxL ret R Q vm h ce sl n Ls (.int z :: st)) : WP l Z EL nar own nm bytes maxL ret R Q vm h ce sl pc Ls st := by subst hp hz; exact WP.step (fun p e below T t m c hx hb ha q => XS.bipush ha hx rfl (hb ▸ hd) q) k
theorem WP.sipush {i : Int} {z : Int32} (hd : decode bytes pc = .ok (.sipush i, 3)) (hz : (Int16.ofInt i).toInt32 = z) (hp : pc + 3 = n) (k : WP l Z EL nar own nm bytes maxL ret R Q vm h ce sl n Ls (.int z :: st)) : WP l Z EL nar own nm bytes maxL ret R Q vm h ce sl pc Ls st := by subst hp hz; exact WP.step (fun p e below T t m c hx hb ha q => XS.sipush ha hx rfl (hb ▸ hd) q) k
theorem WP.lconst {i : Fin 2} (hd : decode bytes pc = .ok (.lconst i, 1)) {z : Int64} (hz : Int64.ofNat i = z) (hp : pc + 1 = n) (k : WP l Z EL nar own nm bytes maxL ret R Q vm h ce sl n Ls (.long z :: st)) : WP l Z EL nar own nm bytes maxL ret R Q vm h ce sl pc Ls st := by subst hp hz; exact WP.step (fun p e below T t m c hx hb ha q => XT.lconst ha hx rfl (hb ▸ hd) q) k
theorem WP.aconstNull  (hd : decode bytes pc = .ok (.aconst_null, 1))  (hp : pc + 1 = n) (k : WP l Z EL nar own nm bytes maxL ret R Q vm h ce sl n Ls (.null :: st)) : WP l Z EL nar own nm bytes maxL ret R Q vm h ce sl pc Ls (st) := by subst hp; exact WP.step (fun p e below T t m c hx hb ha q => XS.aconstNull ha hx rfl (hb ▸ hd)  q) k
theorem WP.iadd {x y : Int32} (hd : decode bytes pc = .ok (.iadd, 1))  (hp : pc + 1 = n) (k : WP l Z EL nar own nm bytes maxL ret R Q vm h ce sl n Ls (.int (x + y) :: rest)) : WP l Z EL nar own nm bytes maxL ret R Q vm h ce sl pc Ls (.int y :: .int x :: rest) := by subst hp; exact WP.step (fun p e below T t m c hx hb ha q => XS.iadd ha hx rfl (hb ▸ hd) rfl q) k
theorem WP.isub {x y : Int32} (hd : decode bytes pc = .ok (.isub, 1))  (hp : pc + 1 = n) (k : WP l Z EL nar own nm bytes maxL ret R Q vm h ce sl n Ls (.int (x - y) :: rest)) : WP l Z EL nar own nm bytes maxL ret R Q vm h ce sl pc Ls (.int y :: .int x :: rest) := by subst hp; exact WP.step (fun p e below T t m c hx hb ha q => XS.isub ha hx rfl (hb ▸ hd) rfl q) k
theorem WP.iand {x y : Int32} (hd : decode bytes pc = .ok (.iand, 1))  (hp : pc + 1 = n) (k : WP l Z EL nar own nm bytes maxL ret R Q vm h ce sl n Ls (.int (x &&& y) :: rest)) : WP l Z EL nar own nm bytes maxL ret R Q vm h ce sl pc Ls (.int y :: .int x :: rest) := by subst hp; exact WP.step (fun p e below T t m c hx hb ha q => XS.iand ha hx rfl (hb ▸ hd) rfl q) k
theorem WP.imul {x y : Int32} (hd : decode bytes pc = .ok (.imul, 1))  (hp : pc + 1 = n) (k : WP l Z EL nar own nm bytes maxL ret R Q vm h ce sl n Ls (.int (x * y) :: rest)) : WP l Z EL nar own nm bytes maxL ret R Q vm h ce sl pc Ls (.int y :: .int x :: rest) := by subst hp; exact WP.step (fun p e below T t m c hx hb ha q => XS.imul ha hx rfl (hb ▸ hd) rfl q) k
theorem WP.ixor {x y : Int32} (hd : decode bytes pc = .ok (.ixor, 1))  (hp : pc + 1 = n) (k : WP l Z EL nar own nm bytes maxL ret R Q vm h ce sl n Ls (.int (x ^^^ y) :: rest)) : WP l Z EL nar own nm bytes maxL ret R Q vm h ce sl pc Ls (.int y :: .int x :: rest) := by subst hp; exact WP.step (fun p e below T t m c hx hb ha q => XT.ixor ha hx rfl (hb ▸ hd) rfl q) k
theorem WP.ior {x y : Int32} (hd : decode bytes pc = .ok (.ior, 1))  (hp : pc + 1 = n) (k : WP l Z EL nar own nm bytes maxL ret R Q vm h ce sl n Ls (.int (x ||| y) :: rest)) : WP l Z EL nar own nm bytes maxL ret R Q vm h ce sl pc Ls (.int y :: .int x :: rest) := by subst hp; exact WP.step (fun p e below T t m c hx hb ha q => XT.ior ha hx rfl (hb ▸ hd) rfl q) k
theorem WP.ishl {x y : Int32} (hd : decode bytes pc = .ok (.ishl, 1))  (hp : pc + 1 = n) (k : WP l Z EL nar own nm bytes maxL ret R Q vm h ce sl n Ls (.int (x <<< (y &&& 31)) :: rest)) : WP l Z EL nar own nm bytes maxL ret R Q vm h ce sl pc Ls (.int y :: .int x :: rest) := by subst hp; exact WP.step (fun p e below T t m c hx hb ha q => XT.ishl ha hx rfl (hb ▸ hd) rfl q) k
theorem WP.ishr {x y : Int32} (hd : decode bytes pc = .ok (.ishr, 1))  (hp : pc + 1 = n) (k : WP l Z EL nar own nm bytes maxL ret R Q vm h ce sl n Ls (.int (x >>> (y &&& 31)) :: rest)) : WP l Z EL nar own nm bytes maxL ret R Q vm h ce sl pc Ls (.int y :: .int x :: rest) := by subst hp; exact WP.step (fun p e below T t m c hx hb ha q => XT.ishr ha hx rfl (hb ▸ hd) rfl q) k
theorem WP.iushr {x y : Int32} (hd : decode bytes pc = .ok (.iushr, 1))  (hp : pc + 1 = n) (k : WP l Z EL nar own nm bytes maxL ret R Q vm h ce sl n Ls (.int (XT.ushr x y) :: rest)) : WP l Z EL nar own nm bytes maxL ret R Q vm h ce sl pc Ls (.int y :: .int x :: rest) := by subst hp; exact WP.step (fun p e below T t m c hx hb ha q => XT.iushr ha hx rfl (hb ▸ hd) rfl q) k
theorem WP.idiv {x y : Int32} (hd : decode bytes pc = .ok (.idiv, 1)) (hy : y ≠ 0) (hp : pc + 1 = n) (k : WP l Z EL nar own nm bytes maxL ret R Q vm h ce sl n Ls (.int (x / y) :: rest)) : WP l Z EL nar own nm bytes maxL ret R Q vm h ce sl pc Ls (.int y :: .int x :: rest) := by subst hp; exact WP.step (fun p e below T t m c hx hb ha q => XS.idiv ha hx rfl (hb ▸ hd) rfl hy q) k
theorem WP.irem {x y : Int32} (hd : decode bytes pc = .ok (.irem, 1)) (hy : y ≠ 0) (hp : pc + 1 = n) (k : WP l Z EL nar own nm bytes maxL ret R Q vm h ce sl n Ls (.int (x % y) :: rest)) : WP l Z EL nar own nm bytes maxL ret R Q vm h ce sl pc Ls (.int y :: .int x :: rest) := by subst hp; rw [← irem_eq_mod] at k; exact WP.step (fun p e below T t m c hx hb ha q => XS.irem ha hx rfl (hb ▸ hd) rfl hy q) k
theorem WP.ineg {x : Int32} (hd : decode bytes pc = .ok (.ineg, 1))  (hp : pc + 1 = n) (k : WP l Z EL nar own nm bytes maxL ret R Q vm h ce sl n Ls (.int (-x) :: rest)) : WP l Z EL nar own nm bytes maxL ret R Q vm h ce sl pc Ls (.int x :: rest) := by subst hp; exact WP.step (fun p e below T t m c hx hb ha q => XS.ineg ha hx rfl (hb ▸ hd) rfl q) k
theorem WP.iinc {k' : Nat} {cst : Int} {x z : Int32} (hd : decode bytes pc = .ok (.iinc k' cst, 3)) (hl : Ls[k']? = some (.val (.int x))) (hz : x + Int32.ofInt cst = z) (hl' : storeLocals Ls k' (.int z) = some Ls') (hp : pc + 3 = n) (k : WP l Z EL nar own nm bytes maxL ret R Q vm h ce sl n Ls' st) : WP l Z EL nar own nm bytes maxL ret R Q vm h ce sl pc Ls st := by subst hp hz; exact WP.step (fun p e below T t m c hx hb ha q => XS.iinc ha hx rfl (hb ▸ hd) hl hl' q) k
theorem WP.ladd {x y : Int64} (hd : decode bytes pc = .ok (.ladd, 1))  (hp : pc + 1 = n) (k : WP l Z EL nar own nm bytes maxL ret R Q vm h ce sl n Ls (.long (x + y) :: rest)) : WP l Z EL nar own nm bytes maxL ret R Q vm h ce sl pc Ls (.long y :: .long x :: rest) := by subst hp; exact WP.step (fun p e below T t m c hx hb ha q => XT.ladd ha hx rfl (hb ▸ hd) rfl q) k
theorem WP.lsub {x y : Int64} (hd : decode bytes pc = .ok (.lsub, 1))  (hp : pc + 1 = n) (k : WP l Z EL nar own nm bytes maxL ret R Q vm h ce sl n Ls (.long (x - y) :: rest)) : WP l Z EL nar own nm bytes maxL ret R Q vm h ce sl pc Ls (.long y :: .long x :: rest) := by subst hp; exact WP.step (fun p e below T t m c hx hb ha q => XT.lsub ha hx rfl (hb ▸ hd) rfl q) k
theorem WP.lmul {x y : Int64} (hd : decode bytes pc = .ok (.lmul, 1))  (hp : pc + 1 = n) (k : WP l Z EL nar own nm bytes maxL ret R Q vm h ce sl n Ls (.long (x * y) :: rest)) : WP l Z EL nar own nm bytes maxL ret R Q vm h ce sl pc Ls (.long y :: .long x :: rest) := by subst hp; exact WP.step (fun p e below T t m c hx hb ha q => XT.lmul ha hx rfl (hb ▸ hd) rfl q) k
theorem WP.land {x y : Int64} (hd : decode bytes pc = .ok (.land, 1))  (hp : pc + 1 = n) (k : WP l Z EL nar own nm bytes maxL ret R Q vm h ce sl n Ls (.long (x &&& y) :: rest)) : WP l Z EL nar own nm bytes maxL ret R Q vm h ce sl pc Ls (.long y :: .long x :: rest) := by subst hp; exact WP.step (fun p e below T t m c hx hb ha q => XT.land ha hx rfl (hb ▸ hd) rfl q) k
theorem WP.lor {x y : Int64} (hd : decode bytes pc = .ok (.lor, 1))  (hp : pc + 1 = n) (k : WP l Z EL nar own nm bytes maxL ret R Q vm h ce sl n Ls (.long (x ||| y) :: rest)) : WP l Z EL nar own nm bytes maxL ret R Q vm h ce sl pc Ls (.long y :: .long x :: rest) := by subst hp; exact WP.step (fun p e below T t m c hx hb ha q => XT.lor ha hx rfl (hb ▸ hd) rfl q) k
theorem WP.lxor {x y : Int64} (hd : decode bytes pc = .ok (.lxor, 1))  (hp : pc + 1 = n) (k : WP l Z EL nar own nm bytes maxL ret R Q vm h ce sl n Ls (.long (x ^^^ y) :: rest)) : WP l Z EL nar own nm bytes maxL ret R Q vm h ce sl pc Ls (.long y :: .long x :: rest) := by subst hp; exact WP.step (fun p e below T t m c hx hb ha q => XT.lxor ha hx rfl (hb ▸ hd) rfl q) k
theorem WP.lshl {x : Int64} {y : Int32} (hd : decode bytes pc = .ok (.lshl, 1))  (hp : pc + 1 = n) (k : WP l Z EL nar own nm bytes maxL ret R Q vm h ce sl n Ls (.long (x <<< (y.toInt64 &&& 63)) :: rest)) : WP l Z EL nar own nm bytes maxL ret R Q vm h ce sl pc Ls (.int y :: .long x :: rest) := by subst hp; exact WP.step (fun p e below T t m c hx hb ha q => XT.lshl ha hx rfl (hb ▸ hd) rfl q) k
theorem WP.lshr {x : Int64} {y : Int32} (hd : decode bytes pc = .ok (.lshr, 1))  (hp : pc + 1 = n) (k : WP l Z EL nar own nm bytes maxL ret R Q vm h ce sl n Ls (.long (x >>> (y.toInt64 &&& 63)) :: rest)) : WP l Z EL nar own nm bytes maxL ret R Q vm h ce sl pc Ls (.int y :: .long x :: rest) := by subst hp; exact WP.step (fun p e below T t m c hx hb ha q => XT.lshr ha hx rfl (hb ▸ hd) rfl q) k
theorem WP.lushr {x : Int64} {y : Int32} (hd : decode bytes pc = .ok (.lushr, 1))  (hp : pc + 1 = n) (k : WP l Z EL nar own nm bytes maxL ret R Q vm h ce sl n Ls (.long (XT.ushrL x y) :: rest)) : WP l Z EL nar own nm bytes maxL ret R Q vm h ce sl pc Ls (.int y :: .long x :: rest) := by subst hp; exact WP.step (fun p e below T t m c hx hb ha q => XT.lushr ha hx rfl (hb ▸ hd) rfl q) k
theorem WP.ldiv {x y : Int64} (hd : decode bytes pc = .ok (.ldiv, 1)) (hy : y ≠ 0) (hp : pc + 1 = n) (k : WP l Z EL nar own nm bytes maxL ret R Q vm h ce sl n Ls (.long (x / y) :: rest)) : WP l Z EL nar own nm bytes maxL ret R Q vm h ce sl pc Ls (.long y :: .long x :: rest) := by subst hp; exact WP.step (fun p e below T t m c hx hb ha q => XT.ldiv ha hx rfl (hb ▸ hd) rfl hy q) k
theorem WP.lrem {x y : Int64} (hd : decode bytes pc = .ok (.lrem, 1)) (hy : y ≠ 0) (hp : pc + 1 = n) (k : WP l Z EL nar own nm bytes maxL ret R Q vm h ce sl n Ls (.long (x - (x / y) * y) :: rest)) : WP l Z EL nar own nm bytes maxL ret R Q vm h ce sl pc Ls (.long y :: .long x :: rest) := by subst hp; exact WP.step (fun p e below T t m c hx hb ha q => XT.lrem ha hx rfl (hb ▸ hd) rfl hy q) k
theorem WP.lneg {x : Int64} (hd : decode bytes pc = .ok (.lneg, 1))  (hp : pc + 1 = n) (k : WP l Z EL nar own nm bytes maxL ret R Q vm h ce sl n Ls (.long (-x) :: rest)) : WP l Z EL nar own nm bytes maxL ret R Q vm h ce sl pc Ls (.long x :: rest) := by subst hp; exact WP.step (fun p e below T t m c hx hb ha q => XT.lneg ha hx rfl (hb ▸ hd) rfl q) k
theorem WP.lcmp {x y : Int64} (hd : decode bytes pc = .ok (.lcmp, 1))  (hp : pc + 1 = n) (k : WP l Z EL nar own nm bytes maxL ret R Q vm h ce sl n Ls (.int (XT.cmpL x y) :: rest)) : WP l Z EL nar own nm bytes maxL ret R Q vm h ce sl pc Ls (.long y :: .long x :: rest) := by subst hp; exact WP.step (fun p e below T t m c hx hb ha q => XT.lcmp ha hx rfl (hb ▸ hd) rfl q) k
theorem WP.i2l {x : Int32} (hd : decode bytes pc = .ok (.i2l, 1))  (hp : pc + 1 = n) (k : WP l Z EL nar own nm bytes maxL ret R Q vm h ce sl n Ls (.long x.toInt64 :: rest)) : WP l Z EL nar own nm bytes maxL ret R Q vm h ce sl pc Ls (.int x :: rest) := by subst hp; exact WP.step (fun p e below T t m c hx hb ha q => XT.i2l ha hx rfl (hb ▸ hd) rfl q) k
theorem WP.l2i {x : Int64} (hd : decode bytes pc = .ok (.l2i, 1))  (hp : pc + 1 = n) (k : WP l Z EL nar own nm bytes maxL ret R Q vm h ce sl n Ls (.int x.toInt32 :: rest)) : WP l Z EL nar own nm bytes maxL ret R Q vm h ce sl pc Ls (.long x :: rest) := by subst hp; exact WP.step (fun p e below T t m c hx hb ha q => XT.l2i ha hx rfl (hb ▸ hd) rfl q) k
theorem WP.i2b {x : Int32} (hd : decode bytes pc = .ok (.i2b, 1))  (hp : pc + 1 = n) (k : WP l Z EL nar own nm bytes maxL ret R Q vm h ce sl n Ls (.int x.toInt8.toInt32 :: rest)) : WP l Z EL nar own nm bytes maxL ret R Q vm h ce sl pc Ls (.int x :: rest) := by subst hp; exact WP.step (fun p e below T t m c hx hb ha q => XT.i2b ha hx rfl (hb ▸ hd) rfl q) k
theorem WP.i2c {x z : Int32} (hd : decode bytes pc = .ok (.i2c, 1)) (hz : x.toUInt32.toUInt16.toUInt32.toInt32 = z) (hp : pc + 1 = n) (k : WP l Z EL nar own nm bytes maxL ret R Q vm h ce sl n Ls (.int z :: rest)) : WP l Z EL nar own nm bytes maxL ret R Q vm h ce sl pc Ls (.int x :: rest) := by subst hp hz; exact WP.step (fun p e below T t m c hx hb ha q => XT.i2c ha hx rfl (hb ▸ hd) rfl q) k
theorem WP.i2s {x : Int32} (hd : decode bytes pc = .ok (.i2s, 1))  (hp : pc + 1 = n) (k : WP l Z EL nar own nm bytes maxL ret R Q vm h ce sl n Ls (.int x.toInt16.toInt32 :: rest)) : WP l Z EL nar own nm bytes maxL ret R Q vm h ce sl pc Ls (.int x :: rest) := by subst hp; exact WP.step (fun p e below T t m c hx hb ha q => XT.i2s ha hx rfl (hb ▸ hd) rfl q) k
theorem WP.dup {v : Value} (hd : decode bytes pc = .ok (.dup, 1)) (hc : v.category = 1) (hp : pc + 1 = n) (k : WP l Z EL nar own nm bytes maxL ret R Q vm h ce sl n Ls (v :: v :: rest)) : WP l Z EL nar own nm bytes maxL ret R Q vm h ce sl pc Ls (v :: rest) := by subst hp; exact WP.step (fun p e below T t m c hx hb ha q => XS.dup ha hx rfl (hb ▸ hd) rfl hc q) k
theorem WP.pop {v : Value} (hd : decode bytes pc = .ok (.pop, 1)) (hc : v.category = 1) (hp : pc + 1 = n) (k : WP l Z EL nar own nm bytes maxL ret R Q vm h ce sl n Ls (rest)) : WP l Z EL nar own nm bytes maxL ret R Q vm h ce sl pc Ls (v :: rest) := by subst hp; exact WP.step (fun p e below T t m c hx hb ha q => XT.pop ha hx rfl (hb ▸ hd) rfl hc q) k
theorem WP.dupX1 {v w : Value} (hd : decode bytes pc = .ok (.dup_x1, 1)) (hc : v.category = 1) (hc' : w.category = 1) (hp : pc + 1 = n) (k : WP l Z EL nar own nm bytes maxL ret R Q vm h ce sl n Ls (v :: w :: v :: rest)) : WP l Z EL nar own nm bytes maxL ret R Q vm h ce sl pc Ls (v :: w :: rest) := by subst hp; exact WP.step (fun p e below T t m c hx hb ha q => XT.dupX1 ha hx rfl (hb ▸ hd) rfl hc hc' q) k
theorem WP.dup2 {v w : Value} (hd : decode bytes pc = .ok (.dup2, 1)) (hc : v.category = 1) (hc' : w.category = 1) (hp : pc + 1 = n) (k : WP l Z EL nar own nm bytes maxL ret R Q vm h ce sl n Ls (v :: w :: v :: w :: rest)) : WP l Z EL nar own nm bytes maxL ret R Q vm h ce sl pc Ls (v :: w :: rest) := by subst hp; exact WP.step (fun p e below T t m c hx hb ha q => XT.dup2 ha hx rfl (hb ▸ hd) rfl hc hc' q) k
theorem WP.goto {o' : Int} (hd : decode bytes pc = .ok (.goto o', 3)) (ho : 0 ≤ (pc : Int) + o') (hn : ((pc : Int) + o').toNat = n) (k : WP l Z EL nar own nm bytes maxL ret R Q vm h ce sl n Ls st) : WP l Z EL nar own nm bytes maxL ret R Q vm h ce sl pc Ls st := WP.step (fun p e below T t m c hx hb ha q => XS.goto ha hx rfl (pc0 := pc) rfl (hb ▸ hd) ho hn q) k
theorem WP.icmpY {cd : ClassFile.Cond} {o' : Int} {x y : Int32} (hd : decode bytes pc = .ok (.if_icmp cd o', 3)) (hc : if_icmp.holds cd x y = true) (ho : 0 ≤ (pc : Int) + o') (hn : ((pc : Int) + o').toNat = n) (k : WP l Z EL nar own nm bytes maxL ret R Q vm h ce sl n Ls rest) : WP l Z EL nar own nm bytes maxL ret R Q vm h ce sl pc Ls (.int y :: .int x :: rest) := WP.step (fun p e below T t m c hx hb ha q => XS.icmpYes ha hx rfl (pc0 := pc) rfl (hb ▸ hd) rfl hc ho hn q) k
theorem WP.icmpN {cd : ClassFile.Cond} {o' : Int} {x y : Int32} (hd : decode bytes pc = .ok (.if_icmp cd o', 3)) (hc : if_icmp.holds cd x y = false) (hp : pc + 3 = n') (k : WP l Z EL nar own nm bytes maxL ret R Q vm h ce sl n' Ls rest) : WP l Z EL nar own nm bytes maxL ret R Q vm h ce sl pc Ls (.int y :: .int x :: rest) := by subst hp; exact WP.step (fun p e below T t m c hx hb ha q => XS.icmpNo ha hx rfl (hb ▸ hd) rfl hc q) k
theorem WP.ifcY {cd : ClassFile.Cond} {o' : Int} {x : Int32} (hd : decode bytes pc = .ok (.ifCond cd o', 3)) (hc : ifCond.holds cd x = true) (ho : 0 ≤ (pc : Int) + o') (hn : ((pc : Int) + o').toNat = n) (k : WP l Z EL nar own nm bytes maxL ret R Q vm h ce sl n Ls rest) : WP l Z EL nar own nm bytes maxL ret R Q vm h ce sl pc Ls (.int x :: rest) := WP.step (fun p e below T t m c hx hb ha q => XS.ifYes ha hx rfl (pc0 := pc) rfl (hb ▸ hd) rfl hc ho hn q) k
theorem WP.ifcN {cd : ClassFile.Cond} {o' : Int} {x : Int32} (hd : decode bytes pc = .ok (.ifCond cd o', 3)) (hc : ifCond.holds cd x = false) (hp : pc + 3 = n') (k : WP l Z EL nar own nm bytes maxL ret R Q vm h ce sl n' Ls rest) : WP l Z EL nar own nm bytes maxL ret R Q vm h ce sl pc Ls (.int x :: rest) := by subst hp; exact WP.step (fun p e below T t m c hx hb ha q => XS.ifNo ha hx rfl (hb ▸ hd) rfl hc q) k
theorem WP.icmp_lt {o' : Int} {x y : Int32} (hd : decode bytes pc = .ok (.if_icmp .lt o', 3)) (ho : 0 ≤ (pc : Int) + o') (hn : ((pc : Int) + o').toNat = n) (hp : pc + 3 = n') (k1 : x < y → WP l Z EL nar own nm bytes maxL ret R Q vm h ce sl n Ls rest) (k2 : ¬ x < y → WP l Z EL nar own nm bytes maxL ret R Q vm h ce sl n' Ls rest) : WP l Z EL nar own nm bytes maxL ret R Q vm h ce sl pc Ls (.int y :: .int x :: rest) := by by_cases q : x < y; exact WP.icmpY hd ((tlt q).1) ho hn (k1 q); exact WP.icmpN hd ((flt q).1) hp (k2 q)
theorem WP.if_lt {o' : Int} {x : Int32} (hd : decode bytes pc = .ok (.ifCond .lt o', 3)) (ho : 0 ≤ (pc : Int) + o') (hn : ((pc : Int) + o').toNat = n) (hp : pc + 3 = n') (k1 : x < (0 : Int32) → WP l Z EL nar own nm bytes maxL ret R Q vm h ce sl n Ls rest) (k2 : ¬ x < (0 : Int32) → WP l Z EL nar own nm bytes maxL ret R Q vm h ce sl n' Ls rest) : WP l Z EL nar own nm bytes maxL ret R Q vm h ce sl pc Ls (.int x :: rest) := by by_cases q : x < (0 : Int32); exact WP.ifcY hd ((if0 _ _).trans (tlt q).1) ho hn (k1 q); exact WP.ifcN hd ((if0 _ _).trans (flt q).1) hp (k2 q)
theorem WP.icmp_ge {o' : Int} {x y : Int32} (hd : decode bytes pc = .ok (.if_icmp .ge o', 3)) (ho : 0 ≤ (pc : Int) + o') (hn : ((pc : Int) + o').toNat = n) (hp : pc + 3 = n') (k1 : ¬ x < y → WP l Z EL nar own nm bytes maxL ret R Q vm h ce sl n Ls rest) (k2 : x < y → WP l Z EL nar own nm bytes maxL ret R Q vm h ce sl n' Ls rest) : WP l Z EL nar own nm bytes maxL ret R Q vm h ce sl pc Ls (.int y :: .int x :: rest) := by by_cases q : x < y; exact WP.icmpN hd ((tlt q).2.1) hp (k2 q); exact WP.icmpY hd ((flt q).2.1) ho hn (k1 q)
theorem WP.if_ge {o' : Int} {x : Int32} (hd : decode bytes pc = .ok (.ifCond .ge o', 3)) (ho : 0 ≤ (pc : Int) + o') (hn : ((pc : Int) + o').toNat = n) (hp : pc + 3 = n') (k1 : ¬ x < (0 : Int32) → WP l Z EL nar own nm bytes maxL ret R Q vm h ce sl n Ls rest) (k2 : x < (0 : Int32) → WP l Z EL nar own nm bytes maxL ret R Q vm h ce sl n' Ls rest) : WP l Z EL nar own nm bytes maxL ret R Q vm h ce sl pc Ls (.int x :: rest) := by by_cases q : x < (0 : Int32); exact WP.ifcN hd ((if0 _ _).trans (tlt q).2.1) hp (k2 q); exact WP.ifcY hd ((if0 _ _).trans (flt q).2.1) ho hn (k1 q)
theorem WP.icmp_gt {o' : Int} {x y : Int32} (hd : decode bytes pc = .ok (.if_icmp .gt o', 3)) (ho : 0 ≤ (pc : Int) + o') (hn : ((pc : Int) + o').toNat = n) (hp : pc + 3 = n') (k1 : y < x → WP l Z EL nar own nm bytes maxL ret R Q vm h ce sl n Ls rest) (k2 : ¬ y < x → WP l Z EL nar own nm bytes maxL ret R Q vm h ce sl n' Ls rest) : WP l Z EL nar own nm bytes maxL ret R Q vm h ce sl pc Ls (.int y :: .int x :: rest) := by by_cases q : y < x; exact WP.icmpY hd ((tlt q).2.2.1) ho hn (k1 q); exact WP.icmpN hd ((flt q).2.2.1) hp (k2 q)
theorem WP.if_gt {o' : Int} {x : Int32} (hd : decode bytes pc = .ok (.ifCond .gt o', 3)) (ho : 0 ≤ (pc : Int) + o') (hn : ((pc : Int) + o').toNat = n) (hp : pc + 3 = n') (k1 : (0 : Int32) < x → WP l Z EL nar own nm bytes maxL ret R Q vm h ce sl n Ls rest) (k2 : ¬ (0 : Int32) < x → WP l Z EL nar own nm bytes maxL ret R Q vm h ce sl n' Ls rest) : WP l Z EL nar own nm bytes maxL ret R Q vm h ce sl pc Ls (.int x :: rest) := by by_cases q : (0 : Int32) < x; exact WP.ifcY hd ((if0 _ _).trans (tlt q).2.2.1) ho hn (k1 q); exact WP.ifcN hd ((if0 _ _).trans (flt q).2.2.1) hp (k2 q)
theorem WP.icmp_le {o' : Int} {x y : Int32} (hd : decode bytes pc = .ok (.if_icmp .le o', 3)) (ho : 0 ≤ (pc : Int) + o') (hn : ((pc : Int) + o').toNat = n) (hp : pc + 3 = n') (k1 : ¬ y < x → WP l Z EL nar own nm bytes maxL ret R Q vm h ce sl n Ls rest) (k2 : y < x → WP l Z EL nar own nm bytes maxL ret R Q vm h ce sl n' Ls rest) : WP l Z EL nar own nm bytes maxL ret R Q vm h ce sl pc Ls (.int y :: .int x :: rest) := by by_cases q : y < x; exact WP.icmpN hd ((tlt q).2.2.2) hp (k2 q); exact WP.icmpY hd ((flt q).2.2.2) ho hn (k1 q)
theorem WP.if_le {o' : Int} {x : Int32} (hd : decode bytes pc = .ok (.ifCond .le o', 3)) (ho : 0 ≤ (pc : Int) + o') (hn : ((pc : Int) + o').toNat = n) (hp : pc + 3 = n') (k1 : ¬ (0 : Int32) < x → WP l Z EL nar own nm bytes maxL ret R Q vm h ce sl n Ls rest) (k2 : (0 : Int32) < x → WP l Z EL nar own nm bytes maxL ret R Q vm h ce sl n' Ls rest) : WP l Z EL nar own nm bytes maxL ret R Q vm h ce sl pc Ls (.int x :: rest) := by by_cases q : (0 : Int32) < x; exact WP.ifcN hd ((if0 _ _).trans (tlt q).2.2.2) hp (k2 q); exact WP.ifcY hd ((if0 _ _).trans (flt q).2.2.2) ho hn (k1 q)
theorem WP.icmp_eq {o' : Int} {x y : Int32} (hd : decode bytes pc = .ok (.if_icmp .eq o', 3)) (ho : 0 ≤ (pc : Int) + o') (hn : ((pc : Int) + o').toNat = n) (hp : pc + 3 = n') (k1 : x = y → WP l Z EL nar own nm bytes maxL ret R Q vm h ce sl n Ls rest) (k2 : ¬ x = y → WP l Z EL nar own nm bytes maxL ret R Q vm h ce sl n' Ls rest) : WP l Z EL nar own nm bytes maxL ret R Q vm h ce sl pc Ls (.int y :: .int x :: rest) := by by_cases q : x = y; exact WP.icmpY hd ((teq q).1) ho hn (k1 q); exact WP.icmpN hd ((feq q).1) hp (k2 q)
theorem WP.if_eq {o' : Int} {x : Int32} (hd : decode bytes pc = .ok (.ifCond .eq o', 3)) (ho : 0 ≤ (pc : Int) + o') (hn : ((pc : Int) + o').toNat = n) (hp : pc + 3 = n') (k1 : x = (0 : Int32) → WP l Z EL nar own nm bytes maxL ret R Q vm h ce sl n Ls rest) (k2 : ¬ x = (0 : Int32) → WP l Z EL nar own nm bytes maxL ret R Q vm h ce sl n' Ls rest) : WP l Z EL nar own nm bytes maxL ret R Q vm h ce sl pc Ls (.int x :: rest) := by by_cases q : x = (0 : Int32); exact WP.ifcY hd ((if0 _ _).trans (teq q).1) ho hn (k1 q); exact WP.ifcN hd ((if0 _ _).trans (feq q).1) hp (k2 q)
theorem WP.icmp_ne {o' : Int} {x y : Int32} (hd : decode bytes pc = .ok (.if_icmp .ne o', 3)) (ho : 0 ≤ (pc : Int) + o') (hn : ((pc : Int) + o').toNat = n) (hp : pc + 3 = n') (k1 : ¬ x = y → WP l Z EL nar own nm bytes maxL ret R Q vm h ce sl n Ls rest) (k2 : x = y → WP l Z EL nar own nm bytes maxL ret R Q vm h ce sl n' Ls rest) : WP l Z EL nar own nm bytes maxL ret R Q vm h ce sl pc Ls (.int y :: .int x :: rest) := by by_cases q : x = y; exact WP.icmpN hd ((teq q).2) hp (k2 q); exact WP.icmpY hd ((feq q).2) ho hn (k1 q)
theorem WP.if_ne {o' : Int} {x : Int32} (hd : decode bytes pc = .ok (.ifCond .ne o', 3)) (ho : 0 ≤ (pc : Int) + o') (hn : ((pc : Int) + o').toNat = n) (hp : pc + 3 = n') (k1 : ¬ x = (0 : Int32) → WP l Z EL nar own nm bytes maxL ret R Q vm h ce sl n Ls rest) (k2 : x = (0 : Int32) → WP l Z EL nar own nm bytes maxL ret R Q vm h ce sl n' Ls rest) : WP l Z EL nar own nm bytes maxL ret R Q vm h ce sl pc Ls (.int x :: rest) := by by_cases q : x = (0 : Int32); exact WP.ifcN hd ((if0 _ _).trans (teq q).2) hp (k2 q); exact WP.ifcY hd ((if0 _ _).trans (feq q).2) ho hn (k1 q)
theorem WP.ifnullY {o' : Int} (hd : decode bytes pc = .ok (.ifnull o', 3)) (ho : 0 ≤ (pc : Int) + o') (hn : ((pc : Int) + o').toNat = n) (k : WP l Z EL nar own nm bytes maxL ret R Q vm h ce sl n Ls rest) : WP l Z EL nar own nm bytes maxL ret R Q vm h ce sl pc Ls (.null :: rest) := WP.step (fun p e below T t m c hx hb ha q => XS.ifnullYes ha hx rfl (pc0 := pc) rfl (hb ▸ hd) rfl ho hn q) k
theorem WP.ifnullN {o' : Int} {b : Addr} (hd : decode bytes pc = .ok (.ifnull o', 3)) (hp : pc + 3 = n') (k : WP l Z EL nar own nm bytes maxL ret R Q vm h ce sl n' Ls rest) : WP l Z EL nar own nm bytes maxL ret R Q vm h ce sl pc Ls (.ref b :: rest) := by subst hp; exact WP.step (fun p e below T t m c hx hb ha q => XS.ifnullNo ha hx rfl (hb ▸ hd) rfl q) k
theorem WP.ifnonnullY {o' : Int} {b : Addr} (hd : decode bytes pc = .ok (.ifnonnull o', 3)) (ho : 0 ≤ (pc : Int) + o') (hn : ((pc : Int) + o').toNat = n) (k : WP l Z EL nar own nm bytes maxL ret R Q vm h ce sl n Ls rest) : WP l Z EL nar own nm bytes maxL ret R Q vm h ce sl pc Ls (.ref b :: rest) := WP.step (fun p e below T t m c hx hb ha q => XT.ifnonnullYes ha hx rfl (pc0 := pc) rfl (hb ▸ hd) rfl ho hn q) k
theorem WP.ifnonnullN {o' : Int} (hd : decode bytes pc = .ok (.ifnonnull o', 3)) (hp : pc + 3 = n') (k : WP l Z EL nar own nm bytes maxL ret R Q vm h ce sl n' Ls rest) : WP l Z EL nar own nm bytes maxL ret R Q vm h ce sl pc Ls (.null :: rest) := by subst hp; exact WP.step (fun p e below T t m c hx hb ha q => XT.ifnonnullNo ha hx rfl (hb ▸ hd) rfl q) k
theorem WP.acmpY {cd : ACond} {o' : Int} {x y : Value} (hd : decode bytes pc = .ok (.if_acmp cd o', 3)) (hx' : x.isRef = true) (hy' : y.isRef = true) (hc : XT.acmp cd x y = true) (ho : 0 ≤ (pc : Int) + o') (hn : ((pc : Int) + o').toNat = n) (k : WP l Z EL nar own nm bytes maxL ret R Q vm h ce sl n Ls rest) : WP l Z EL nar own nm bytes maxL ret R Q vm h ce sl pc Ls (y :: x :: rest) := WP.step (fun p e below T t m c hx hb ha q => XT.acmpYes ha hx rfl (pc0 := pc) rfl (hb ▸ hd) rfl hx' hy' hc ho hn q) k
theorem WP.acmpN {cd : ACond} {o' : Int} {x y : Value} (hd : decode bytes pc = .ok (.if_acmp cd o', 3)) (hx' : x.isRef = true) (hy' : y.isRef = true) (hc : XT.acmp cd x y = false) (hp : pc + 3 = n') (k : WP l Z EL nar own nm bytes maxL ret R Q vm h ce sl n' Ls rest) : WP l Z EL nar own nm bytes maxL ret R Q vm h ce sl pc Ls (y :: x :: rest) := by subst hp; exact WP.step (fun p e below T t m c hx hb ha q => XT.acmpNo ha hx rfl (hb ▸ hd) rfl hx' hy' hc q) k
theorem WP.getF {R0 O nf d host : String} {index : Nat} {a : Addr} {v : Value} (hd : decode bytes pc = .ok (.getfield index, 3)) (w : (Cond.fieldLink own index R0 nf d).before a0 Z = true ∨ (Cond.fieldLinkNest own index R0 nf d host).before a0 Z = true) (via : Via Z R0 O nf d) (F : Fld Z h a O nf d v) (hp : pc + 3 = n) (k : WP l Z EL nar own nm bytes maxL ret R Q vm h ce sl n Ls (v :: rest)) : WP l Z EL nar own nm bytes maxL ret R Q vm h ce sl pc Ls (.ref a :: rest) := by
  subst hp
  refine WP.look (fun p e s args below T m meth c L hx hb X hZ hown eT => ?_) k
  exact getF X hx hZ hown w via eT F (g := mkF m pc Ls (.ref a :: rest)) rfl rfl (hb ▸ hd)
theorem WP.getS {R0 O nf d : String} {index : Nat} {v : Value} (hd : decode bytes pc = .ok (.getstatic index, 3)) (w : (Cond.fieldLink own index R0 nf d).before a0 Z = true) (via : Via Z R0 O nf d) (F : Sta Z h O nf d v) (hp : pc + 3 = n) (k : WP l Z EL nar own nm bytes maxL ret R Q vm h ce sl n Ls (v :: st)) : WP l Z EL nar own nm bytes maxL ret R Q vm h ce sl pc Ls st := by
  subst hp
  refine WP.look (fun p e s args below T m meth c L hx hb X hZ hown eT => ?_) k
  exact getS (host := "") X hx hZ hown w via eT F (g := mkF m pc Ls st) rfl (hb ▸ hd)
theorem WP.getSZ {R0 O nf d : String} {index : Nat} {v : Value} (hd : decode bytes pc = .ok (.getstatic index, 3)) (w : (Cond.fieldLink own index R0 nf d).before a0 Z = true) (via : Via Z R0 O nf d) (F : Sta Z Z.heap O nf d v) (hp : pc + 3 = n) (k : WP l Z EL nar own nm bytes maxL ret R Q vm h ce sl n Ls (v :: st)) : WP l Z EL nar own nm bytes maxL ret R Q vm h ce sl pc Ls st :=
  WP.inv fun _ E _ => WP.getS hd w via (F.ext E) hp k
theorem WP.new {C : String} {index nn : Nat} {ce' sl' : Nat} (hd : decode bytes pc = .ok (.new index, 3)) (w : (Cond.classLink own index C).before a0 Z = true) (wi : (Cond.instantiable C nn).before a0 Z = true) (wz : (Cond.initialized C).before a0 Z = true) (hce : ce + 1 = ce') (hsl : sl + nn = sl') (hc : ce' ≤ R.cells) (hl : sl' ≤ R.slots) (hp : pc + 3 = n)
    (k : ∀ a h', a = h.size → Ext h h' → Exa Z h' a C → (∀ {O f d : String} {ty : FieldType}, Laid Z a0 C O f d → parseFieldDescriptor d = some ty → Fld Z h' a O f d (defaultValue ty)) → Safe Z EL vm h' a → Z.heap.size ≤ a → CHr Z EL vm h vm h' → WP l Z EL nar own nm bytes maxL ret R Q vm h' ce' sl' n Ls (.ref a :: st)) : WP l Z EL nar own nm bytes maxL ret R Q vm h ce sl pc Ls st := by
  subst hp hce hsl
  refine WP.inv fun _ hE hH => WP.make (P := fun h' => Exa Z h' h.size C ∧ ∀ {O f d : String} {ty : FieldType}, Laid Z a0 C O f d → parseFieldDescriptor d = some ty → Fld Z h' h.size O f d (defaultValue ty)) (fun p e s args below T m meth c L hx hb X hZ hown eT => ?_) fun h' E p hr => k _ h' rfl E p.1 p.2 (Safe.ext E hH (Safe.new (Nat.le_refl _))) hE.1 hr
  obtain ⟨T', h', X', e', E', A', D', -, stp⟩ := newO X hx hZ hown w wi wz eT (g := mkF m pc Ls st) rfl (hb ▸ hd) hc hl
  exact ⟨T', h', X', e', E', ⟨A', D'⟩, stp⟩
theorem WP.putF {R0 O nf d host C : String} {index kk : Nat} {ty : FieldType} {a : Addr} {v old : Value} (hd : decode bytes pc = .ok (.putfield index, 3)) (w : (Cond.fieldLink own index R0 nf d).before a0 Z = true ∨ (Cond.fieldLinkNest own index R0 nf d host).before a0 Z = true) (via : Via Z R0 O nf d) (F : Fld Z h a O nf d old) (E : Exa Z h a C)
    (L' : (Cond.lays C O nf d).before a0 Z = true ∨ ((Cond.laysFinal C O nf d).before a0 Z = true ∧ own = O ∧ nm = "<init>")) (wi : (Cond.instantiable C kk).before a0 Z = true) (hty : parseFieldDescriptor d = some ty) (hn : narrow ty v = v) (hf : fits ty v = true) (ha : Z.heap.size ≤ a) (S : Safe Z EL vm h a) (hp : pc + 3 = n)
    (k : ∀ h', Wr h h' a (Jvm.RoadKit.slotOf Z O nf d) v → CHr Z EL vm h vm h' → WP l Z EL nar own nm bytes maxL ret R Q vm h' ce sl n Ls rest) : WP l Z EL nar own nm bytes maxL ret R Q vm h ce sl pc Ls (v :: .ref a :: rest) := by
  subst hp
  refine WP.write ha (fun _ => S) (fun p e s args below T m meth c L hx hb hnm X hZ hown eT => ?_) k
  exact putF X hx hZ hown w via eT F E (L'.imp id fun q => ⟨q.1, q.2.1, hnm.trans q.2.2⟩) wi hty hn hf (g := mkF m pc Ls (v :: .ref a :: rest)) rfl rfl (hb ▸ hd)
theorem WP.putFE {R0 O nf d host C : String} {index kk : Nat} {ty : FieldType} {a : Addr} {v old : Value} (hd : decode bytes pc = .ok (.putfield index, 3)) (w : (Cond.fieldLink own index R0 nf d).before a0 Z = true ∨ (Cond.fieldLinkNest own index R0 nf d host).before a0 Z = true) (via : Via Z R0 O nf d) (F : Fld Z h a O nf d old) (E : Exa Z h a C)
    (L' : (Cond.lays C O nf d).before a0 Z = true ∨ ((Cond.laysFinal C O nf d).before a0 Z = true ∧ own = O ∧ nm = "<init>")) (wi : (Cond.instantiable C kk).before a0 Z = true) (hty : parseFieldDescriptor d = some ty) (hn : narrow ty v = v) (hf : fits ty v = true) (ha : Z.heap.size ≤ a) (hC : C ≠ "java/lang/String" ∧ C ≠ "[B") (hp : pc + 3 = n)
    (k : ∀ h', Wr h h' a (Jvm.RoadKit.slotOf Z O nf d) v → CHr Z EL vm h vm h' → WP l Z EL nar own nm bytes maxL ret R Q vm h' ce sl n Ls rest) : WP l Z EL nar own nm bytes maxL ret R Q vm h ce sl pc Ls (v :: .ref a :: rest) :=
  WP.inv fun hZ _ _ => WP.putF hd w via F E L' wi hty hn hf ha (Safe.exa hZ.alike E hC.1 hC.2) hp k
theorem WP.newP {aty : ArrayType} {x : Int32} {cap ce' sl' : Nat} {ty : FieldType} (hd : decode bytes pc = .ok (.newarray aty, 2)) (w : (Cond.arrayClass ty).before a0 Z = true) (hty : newarray.typeOf aty = ty) (hx0 : ¬ x < 0) (hcap : x.toNatClampNeg ≤ cap) (hbig : cap * 8 ≤ 536870912) (hce : ce + 1 = ce') (hsl : sl + cap = sl') (hc : ce' ≤ R.cells) (hl : sl' ≤ R.slots) (hp : pc + 2 = n)
    (k : ∀ a h' cA, a = h.size → Ext h h' → Arv Z h' a cA ty x [] (defaultValue ty) → Safe Z EL vm h' a → Z.heap.size ≤ a → CHr Z EL vm h vm h' → WP l Z EL nar own nm bytes maxL ret R Q vm h' ce' sl' n Ls (.ref a :: rest)) : WP l Z EL nar own nm bytes maxL ret R Q vm h ce sl pc Ls (.int x :: rest) := by
  subst hp hce hsl hty
  refine WP.inv fun _ hE hH => WP.make (P := fun h' => ∃ cA, Arv Z h' h.size cA (newarray.typeOf aty) x [] (defaultValue (newarray.typeOf aty))) (fun p e s args below T m meth c L hx hb X hZ hown eT => ?_) fun h' E p hr => by
    obtain ⟨cA, A⟩ := p
    exact k _ h' cA rfl E A (Safe.ext E hH (Safe.new (Nat.le_refl _))) hE.1 hr
  obtain ⟨T', h', cA, X', e', E', A', stp⟩ := newP X hx hZ w eT (g := mkF m pc Ls (.int x :: rest)) rfl (hb ▸ hd) rfl hx0 hcap hbig hc hl
  exact ⟨T', h', X', e', E', ⟨cA, Arv.new A' hx0⟩, stp⟩
theorem WP.stC {a : Addr} {cA : ClassId} {z j x y : Int32} {vs : List Value} {d : Value} {i : Nat} (hd : decode bytes pc = .ok (.castore, 1)) (A : Arv Z h a cA .char z vs d) (hj : ¬ j < 0 ∧ j < z) (hi : j.toNatClampNeg = i) (hlen : i < vs.length) (hy : Jvm.RoadKit.nar .char x = y) (ha : Z.heap.size ≤ a) (S : Safe Z EL vm h a) (hp : pc + 1 = n)
    (k : ∀ h', Wr h h' a j.toNatClampNeg (.int y) → Arv Z h' a cA .char z (vs.set i (.int y)) d → CHr Z EL vm h vm h' → WP l Z EL nar own nm bytes maxL ret R Q vm h' ce sl n Ls rest) : WP l Z EL nar own nm bytes maxL ret R Q vm h ce sl pc Ls (.int x :: .int j :: .ref a :: rest) := by
  subst hp hy
  obtain ⟨cl, A1, q1, S1, M1, H1, G1⟩ := A
  refine WP.write ha (fun _ => S) (fun p e s args below T m meth c L hx hb hnm X hZ hown eT => ?_) fun h' W r => k h' W (Arv.set A1 q1 S1 M1 H1 G1 (fits_nar_char _) W i hi hlen) r
  exact stC X hx hZ eT A1 (inb_of S1 hj) (g := mkF m pc Ls (.int x :: .int j :: .ref a :: rest)) rfl rfl (hb ▸ hd)
theorem WP.stB {a : Addr} {cA : ClassId} {z j x y : Int32} {vs : List Value} {d : Value} {i : Nat} (hd : decode bytes pc = .ok (.bastore, 1)) (A : Arv Z h a cA .byte z vs d) (hj : ¬ j < 0 ∧ j < z) (hi : j.toNatClampNeg = i) (hlen : i < vs.length) (hy : Jvm.RoadKit.nar .byte x = y) (ha : Z.heap.size ≤ a) (S : Safe Z EL vm h a) (hp : pc + 1 = n)
    (k : ∀ h', Wr h h' a j.toNatClampNeg (.int y) → Arv Z h' a cA .byte z (vs.set i (.int y)) d → CHr Z EL vm h vm h' → WP l Z EL nar own nm bytes maxL ret R Q vm h' ce sl n Ls rest) : WP l Z EL nar own nm bytes maxL ret R Q vm h ce sl pc Ls (.int x :: .int j :: .ref a :: rest) := by
  subst hp hy
  obtain ⟨cl, A1, q1, S1, M1, H1, G1⟩ := A
  refine WP.write ha (fun _ => S) (fun p e s args below T m meth c L hx hb hnm X hZ hown eT => ?_) fun h' W r => k h' W (Arv.set A1 q1 S1 M1 H1 G1 (fits_nar_byte _) W i hi hlen) r
  exact stB X hx hZ eT A1 (inb_of S1 hj) (g := mkF m pc Ls (.int x :: .int j :: .ref a :: rest)) rfl rfl (hb ▸ hd)
theorem WP.alen {ty : FieldType} {a : Addr} {cA : ClassId} {z : Int32} {vs : List Value} {d : Value} (hd : decode bytes pc = .ok (.arraylength, 1)) (A : Arv Z h a cA ty z vs d) (hp : pc + 1 = n) (k : WP l Z EL nar own nm bytes maxL ret R Q vm h ce sl n Ls (.int z :: rest)) : WP l Z EL nar own nm bytes maxL ret R Q vm h ce sl pc Ls (.ref a :: rest) := by
  subst hp
  obtain ⟨cl, A1, -, hz, hz0, -⟩ := A
  refine WP.look (Ls' := Ls) (fun p e s args below T m meth c L hx hb X hZ hown eT => ⟨T, X, eT, fun target q => ?_⟩) k
  refine X.arraylength hx (cell := cl) (by rw [eT]; exact A1.1) (State.isArrayOf_alike hZ.alike A1.2.1) (g := mkF m pc Ls (.ref a :: rest)) rfl rfl (hb ▸ hd) _ ?_
  rw [len_of hz hz0]
  exact q
theorem WP.initO {idx : Nat} {a : Addr} {Wd : Nat} (hd : decode bytes pc = .ok (.invokespecial idx, 3)) (w1 : (Cond.methodLink own idx Lib.objectInit).before a0 Z = true) (w2 : (Cond.instanceMethod Lib.objectInit).before a0 Z = true) (w3 : (Cond.code Lib.objectInit ⟨#[0xb1]⟩ 1 none).before a0 Z = true) (hsize : Ls.size = maxL) (hf : 1 ≤ R.frames) (hW : (rest.map fun v => v.category).sum ≤ Wd) (hl : Wd + 12 ≤ R.locals) (hp : pc + 3 = n)
    (k : WP l Z EL nar own nm bytes maxL ret R Q vm h ce sl n Ls rest) : WP l Z EL nar own nm bytes maxL ret R Q vm h ce sl pc Ls (.ref a :: rest) := by
  subst hp
  intro p e s m args below meth c T L cx ⟨X, hS, hZ, hown, eT, N, hE, hC, hW', hEL⟩
  obtain ⟨T', X', e', stp⟩ := initO X cx.1 hZ hown w1 w2 w3 eT (g := mkF m pc Ls (.ref a :: rest)) rfl (by rw [cx.2.2.1]; exact hsize) rfl (cx.2.1 ▸ hd) hf (W := Wd) (by show 2 * 0 + _ ≤ _; omega) hl
  obtain ⟨t, o, h1, r⟩ := k p e s m args below meth c T' L cx ⟨X', hS, hZ, hown, e', N, hE, hC, hW', hEL⟩
  exact ⟨t, o, stp _ h1, r⟩
theorem WP.retV (hd : decode bytes pc = .ok (.return_, 1)) (hr : ret = none) (hc : ce ≤ R.cells) (hsl : sl ≤ R.slots) (hq : Q none h) : WP l Z EL nar own nm bytes maxL ret R Q vm h ce sl pc Ls [] :=
  WP.done (v := none) hc hsl (fun _ => rfl) (fun p e s args below T m meth c L fs hx hb hret X hl => X.returnOut hx (hret.trans hr) (hb ▸ hd) hl) hq
theorem WP.retI {x : Int32} (hd : decode bytes pc = .ok (.ireturn, 1)) (hr : ret = some .int) (hc : ce ≤ R.cells) (hsl : sl ≤ R.slots) (hq : Q (some (.int x)) h) : WP l Z EL nar own nm bytes maxL ret R Q vm h ce sl pc Ls (.int x :: rest) :=
  WP.done (v := some (.int x)) hc hsl (fun q => by rw [hr] at q; cases q) (fun p e s args below T m meth c L fs hx hb hret X hl => retOut X hx (t := .int) (hret.trans hr) rfl (Or.inl ⟨rfl, Or.inl rfl, x, rfl⟩) (hb ▸ hd) hl) hq
theorem WP.retN {t : FieldType} {x z : Int32} (hd : decode bytes pc = .ok (.ireturn, 1)) (hr : ret = some t) (ht : t = .boolean ∨ t = .byte ∨ t = .char ∨ t = .short) (hz : Jvm.RoadKit.nar t x = z) (hc : ce ≤ R.cells) (hsl : sl ≤ R.slots) (hq : Q (some (.int z)) h) : WP l Z EL nar own nm bytes maxL ret R Q vm h ce sl pc Ls (.int x :: rest) := by
  subst hz
  exact WP.done (v := some (.int (Jvm.RoadKit.nar t x))) hc hsl (fun q => by rw [hr] at q; cases q) (fun p e s args below T m meth c L fs hx hb hret X hl => Jvm.RoadKit.retN X hx (hret.trans hr) ht (hb ▸ hd) hl) hq
theorem WP.retA {t : FieldType} {v : Value} (hd : decode bytes pc = .ok (.areturn, 1)) (hr : ret = some t) (ht : t.isReference = true) (hv : v.isRef = true) (hn : narrow t v = v) (hc : ce ≤ R.cells) (hsl : sl ≤ R.slots) (hq : Q (some v) h) : WP l Z EL nar own nm bytes maxL ret R Q vm h ce sl pc Ls (v :: rest) :=
  WP.done (v := some v) hc hsl (fun q => by rw [hr] at q; cases q) (fun p e s args below T m meth c L fs hx hb hret X hl => retOut X hx (t := t) (hret.trans hr) hn (Or.inr (Or.inr (Or.inr (Or.inr ⟨rfl, ht, hv⟩)))) (hb ▸ hd) hl) hq
theorem WP.callS {sf : List Addr} {y : MethodName} {yb : ByteArray} {yl : Nat} {yr : Option FieldType} {rm : Room} {as' : Array Value} {Qy : Option Value → Heap → Prop} {index Wd ce' sl' : Nat} (C : Con l Z EL nar sf y yb yl yr rm as' h Qy) (hd : decode bytes pc = .ok (.invokestatic index, 3)) (w1 : (Cond.methodLink own index y).before a0 Z = true) (w2 : (Cond.static y).before a0 Z = true) (wz : (Cond.initialized y.cls).before a0 Z = true) (wc : (Cond.code y yb yl yr).before a0 Z = true) (hy : y.cls ≠ "java/lang/invoke/MethodHandle" ∧ y.cls ≠ "java/lang/invoke/VarHandle") (hsf : ∀ x ∈ sf, Safe Z EL vm h x ∧ x < h.size) (hf : rm.frames + 1 ≤ R.frames) (hl : Wd + (yl + 11) + rm.locals ≤ R.locals) (hce : ce + rm.cells = ce') (hsl : sl + rm.slots = sl') (hc : ce' ≤ R.cells) (hs : sl' ≤ R.slots) (hsize : Ls.size = maxL) {argsL : List Value} (hargs : argsL.toArray = as') (hlen : ∀ sig, parseMethodDescriptor y.desc = some sig → argsL.length = sig.parameters.length) (hst : st = argsL.reverse ++ rest) (hWd : (rest.map fun v => v.category).sum ≤ Wd) (hp : pc + 3 = n)
    (k : ∀ v vm' h', Qy v h' → CHr Z EL vm h vm' h' → WP l Z EL nar own nm bytes maxL ret R Q vm' h' ce' sl' n Ls (v.toList ++ rest)) : WP l Z EL nar own nm bytes maxL ret R Q vm h ce sl pc Ls st := by
  subst hp hce hsl
  intro p e s m args below meth c T L cx ⟨X, ⟨k0, hS, hk⟩, hZ, hown, eT, N, hE, hC, hW', a1, hEL⟩
  have hB := C.back (R := R) (p := p) (e := e) (below := below) (s := s) (args := args) (len := 3) (Wd := Wd) hEL hZ wc wz hf hl hE hC.1 hsf
  obtain ⟨v, vm₁, ⟨U, L', ke, ks⟩, hw1, X', hS', hg', ⟨Lq, q1, q2, q3, q4, q5, q6, q7, q8⟩, stp⟩ := callSS X cx.1 hown (mvT (s := s.setVm vm) hZ w1) (mvT (s := s.setVm vm) hZ w2) (mvT (s := s.setVm vm) hZ wz) (mvT (s := s.setVm vm) hZ wc) hy hB (g := mkF m pc Ls st) rfl (by rw [cx.2.2.1]; exact hsize) (argsL := argsL) (rest := rest) hlen hst (by show 2 * 0 + _ ≤ _; omega) (cx.2.1 ▸ hd) (fun _ _ => ⟨hargs, eT, hc, hs⟩)
  dsimp only [Pt.U, Pt.locs, Pt.cells, Pt.slots] at X' hS' hg' q1 q2 q4 q5 q6 q7 q8 stp
  subst q4 q5 q6
  obtain ⟨t, o, h1, r⟩ := k v U.vm U.heap q1 q7 p e s m args below meth c U _ cx ⟨X', ⟨_, hS.trans hS' (Nat.le_trans hk (by rw [← eT]; exact hg')), Nat.le_refl _⟩, State.Warmed39.trans (t := s.setVm vm) hZ hS'.1, (hS'.1.alike.findClass _ _).trans hown, rfl, Fr.app N q3, q2, hC.trans q7, fun q => State.WarmedH.trans (t := s.setVm vm) (hW' q) (q8 q), a1, hEL⟩
  exact ⟨t, o, stp.trans h1, r⟩
theorem WP.callP {sf : List Addr} {y : MethodName} {yb : ByteArray} {yl : Nat} {rm : Room} {as' : Array Value} {Qy : Option Value → Heap → Prop} {index Wd ce' sl' : Nat} (C : Con l Z EL nar sf y yb yl none rm as' h Qy) (hd : decode bytes pc = .ok (.invokespecial index, 3)) (hy1 : y.name = "<init>") (w1 : (Cond.methodLink own index y).before a0 Z = true) (w2 : (Cond.instanceMethod y).before a0 Z = true) (wz : (Cond.initialized y.cls).before a0 Z = true) (wc : (Cond.code y yb yl none).before a0 Z = true) (hy : y.cls ≠ "java/lang/invoke/MethodHandle" ∧ y.cls ≠ "java/lang/invoke/VarHandle") (hsf : ∀ x ∈ sf, Safe Z EL vm h x ∧ x < h.size) (hf : rm.frames + 1 ≤ R.frames) (hl : Wd + (yl + 11) + rm.locals ≤ R.locals) (hce : ce + rm.cells = ce') (hsl : sl + rm.slots = sl') (hc : ce' ≤ R.cells) (hs : sl' ≤ R.slots) (hsize : Ls.size = maxL) {a : Addr} {argsL : List Value} (hargs : (Value.ref a :: argsL).toArray = as') (hlen : ∀ sig, parseMethodDescriptor y.desc = some sig → argsL.length = sig.parameters.length) (hst : st = argsL.reverse ++ .ref a :: rest) (hWd : (rest.map fun v => v.category).sum ≤ Wd) (hp : pc + 3 = n)
    (k : ∀ v vm' h', Qy v h' → CHr Z EL vm h vm' h' → WP l Z EL nar own nm bytes maxL ret R Q vm' h' ce' sl' n Ls (v.toList ++ rest)) : WP l Z EL nar own nm bytes maxL ret R Q vm h ce sl pc Ls st := by
  subst hp hce hsl
  intro p e s m args below meth c T L cx ⟨X, ⟨k0, hS, hk⟩, hZ, hown, eT, N, hE, hC, hW', a1, hEL⟩
  have hB := C.back (R := R) (p := p) (e := e) (below := below) (s := s) (args := args) (len := 3) (Wd := Wd) hEL hZ wc wz hf hl hE hC.1 hsf
  obtain ⟨v, vm₁, ⟨U, L', ke, ks⟩, hw1, X', hS', hg', ⟨Lq, q1, q2, q3, q4, q5, q6, q7, q8⟩, stp⟩ := X.specialBackS cx.1 hy1 hown (mvT (s := s.setVm vm) hZ w1) (mvT (s := s.setVm vm) hZ w2) (mvT (s := s.setVm vm) hZ wc) hy hB (g := mkF m pc Ls st) rfl (by rw [cx.2.2.1]; exact hsize) (Steps.refl _) (a := a) (argsL := argsL) (rest := rest) hlen hst (by show 2 * 0 + _ ≤ _; omega) (cx.2.1 ▸ hd) (fun _ _ => ⟨hargs, eT, hc, hs⟩)
  dsimp only [Pt.U, Pt.locs, Pt.cells, Pt.slots] at X' hS' hg' q1 q2 q4 q5 q6 q7 q8 stp
  subst q4 q5 q6
  obtain ⟨t, o, h1, r⟩ := k v U.vm U.heap q1 q7 p e s m args below meth c U _ cx ⟨X', ⟨_, hS.trans hS' (Nat.le_trans hk (by rw [← eT]; exact hg')), Nat.le_refl _⟩, State.Warmed39.trans (t := s.setVm vm) hZ hS'.1, (hS'.1.alike.findClass _ _).trans hown, rfl, Fr.app N q3, q2, hC.trans q7, fun q => State.WarmedH.trans (t := s.setVm vm) (hW' q) (q8 q), a1, hEL⟩
  exact ⟨t, o, stp.trans h1, r⟩
theorem WP.callV {sf : List Addr} {y : MethodName} {yb : ByteArray} {yl : Nat} {yr : Option FieldType} {rm : Room} {as' : Array Value} {Qy : Option Value → Heap → Prop} {index Wd ce' sl' : Nat} {x : MethodName} {Cn : String} {a : Addr} (C : Con l Z EL nar sf y yb yl yr rm as' h Qy) (E : Exa Z h a Cn) (hd : decode bytes pc = .ok (.invokevirtual index, 3)) (w1 : (Cond.methodLink own index x).before a0 Z = true) (w2 : (Cond.declares x).before a0 Z = true) (w3 : (Cond.selects Cn x y).before a0 Z = true) (w4 : (Cond.instanceMethod y).before a0 Z = true) (wz : (Cond.initialized y.cls).before a0 Z = true) (wc : (Cond.code y yb yl yr).before a0 Z = true) (hy : x.cls ≠ "java/lang/invoke/MethodHandle" ∧ x.cls ≠ "java/lang/invoke/VarHandle") (hnf : ∀ s : State, Z.Warmed39 s.vm → NotFace s x) (hsf : ∀ x ∈ sf, Safe Z EL vm h x ∧ x < h.size) (hf : rm.frames + 1 ≤ R.frames) (hl : Wd + (yl + 11) + rm.locals ≤ R.locals) (hce : ce + rm.cells = ce') (hsl : sl + rm.slots = sl') (hc : ce' ≤ R.cells) (hs : sl' ≤ R.slots) (hsize : Ls.size = maxL) {argsL : List Value} (hargs : (Value.ref a :: argsL).toArray = as') (hlen : ∀ sig, parseMethodDescriptor x.desc = some sig → argsL.length = sig.parameters.length) (hst : st = argsL.reverse ++ .ref a :: rest) (hWd : (rest.map fun v => v.category).sum ≤ Wd) (hp : pc + 3 = n)
    (k : ∀ v vm' h', Qy v h' → CHr Z EL vm h vm' h' → WP l Z EL nar own nm bytes maxL ret R Q vm' h' ce' sl' n Ls (v.toList ++ rest)) : WP l Z EL nar own nm bytes maxL ret R Q vm h ce sl pc Ls st := by
  subst hp hce hsl
  intro p e s m args below meth c T L cx ⟨X, ⟨k0, hS, hk⟩, hZ, hown, eT, N, hE, hC, hW', a1, hEL⟩
  have hB := C.back (R := R) (p := p) (e := e) (below := below) (s := s) (args := args) (len := 3) (Wd := Wd) hEL hZ wc wz hf hl hE hC.1 hsf
  obtain ⟨cq, kq, qa, qb, qc⟩ := isOf (s := s.setVm vm) hZ eT E
  obtain ⟨v, vm₁, ⟨U, L', ke, ks⟩, hw1, X', hS', hg', ⟨Lq, q1, q2, q3, q4, q5, q6, q7, q8⟩, stp⟩ := X.virtualBackS cx.1 hown (mvT (s := s.setVm vm) hZ w1) (mvT (s := s.setVm vm) hZ w2) (hnf _ hZ) (mvT (s := s.setVm vm) hZ w3) (mvT (s := s.setVm vm) hZ w4) hy hB qa qc (g := mkF m pc Ls st) rfl (by rw [cx.2.2.1]; exact hsize) (Steps.refl _) (argsL := argsL) (rest := rest) hlen hst (by show 2 * 0 + _ ≤ _; omega) (cx.2.1 ▸ hd) (fun _ _ => ⟨hargs, eT, hc, hs⟩)
  dsimp only [Pt.U, Pt.locs, Pt.cells, Pt.slots] at X' hS' hg' q1 q2 q4 q5 q6 q7 q8 stp
  subst q4 q5 q6
  obtain ⟨t, o, h1, r⟩ := k v U.vm U.heap q1 q7 p e s m args below meth c U _ cx ⟨X', ⟨_, hS.trans hS' (Nat.le_trans hk (by rw [← eT]; exact hg')), Nat.le_refl _⟩, State.Warmed39.trans (t := s.setVm vm) hZ hS'.1, (hS'.1.alike.findClass _ _).trans hown, rfl, Fr.app N q3, q2, hC.trans q7, fun q => State.WarmedH.trans (t := s.setVm vm) (hW' q) (q8 q), a1, hEL⟩
  exact ⟨t, o, stp.trans h1, r⟩
theorem WP.backP {y : MethodName} {as' : Array Value} {Qy : Option Value → Heap → List Loc → Prop} {index Wd kc ks ce' sl' : Nat} {yb : ByteArray} {yl : Nat} (hK : ∀ (p : Program) (e : Env) (below : List Frame) (s : State) (args : Array Value), Z.Warmed39 (s.setVm vm).vm → Back l R p e below (s.setVm vm) args y 3 Wd (fun A a => a = as' ∧ A.U.heap = h ∧ A.cells + kc ≤ R.cells ∧ A.slots + ks ≤ R.slots) (fun A _ v B => ∃ L, Qy v B.U.heap L ∧ B.locs = A.locs ++ L ∧ B.cells = A.cells + kc ∧ B.slots = A.slots + ks)) (hq : ∀ v h' L, Qy v h' L → Fr Z.heap.size L ∧ Ext Z.heap h' ∧ CHr Z EL vm h vm h') (hd : decode bytes pc = .ok (.invokespecial index, 3)) (hy1 : y.name = "<init>") (w1 : (Cond.methodLink own index y).before a0 Z = true) (w2 : (Cond.instanceMethod y).before a0 Z = true) (wc : (Cond.code y yb yl none).before a0 Z = true) (hy : y.cls ≠ "java/lang/invoke/MethodHandle" ∧ y.cls ≠ "java/lang/invoke/VarHandle") (hce : ce + kc = ce') (hsl : sl + ks = sl') (hc : ce' ≤ R.cells) (hs : sl' ≤ R.slots) (hsize : Ls.size = maxL) {a : Addr} {argsL : List Value} (hargs : (Value.ref a :: argsL).toArray = as') (hlen : ∀ sig, parseMethodDescriptor y.desc = some sig → argsL.length = sig.parameters.length) (hst : st = argsL.reverse ++ .ref a :: rest) (hWd : (rest.map fun v => v.category).sum ≤ Wd) (hp : pc + 3 = n)
    (k : ∀ v h' L, Qy v h' L → CHr Z EL vm h vm h' → WP l Z EL nar own nm bytes maxL ret R Q vm h' ce' sl' n Ls (v.toList ++ rest)) : WP l Z EL nar own nm bytes maxL ret R Q vm h ce sl pc Ls st := by
  subst hp hce hsl
  intro p e s m args below meth c T L cx ⟨X, ⟨k0, hS, hk⟩, hZ, hown, eT, N, hE, hC, hW', a1, hEL⟩
  obtain ⟨v, vm₁, ⟨U, L', ke, ks'⟩, hw1, X', ⟨Lq, q1, q4, q5, q6⟩, stp⟩ := X.specialBack cx.1 hy1 hown (mvT (s := s.setVm vm) hZ w1) (mvT (s := s.setVm vm) hZ w2) (mvT (s := s.setVm vm) hZ wc) hy (hK p e below s args hZ) (g := mkF m pc Ls st) rfl (by rw [cx.2.2.1]; exact hsize) (Steps.refl _) (a := a) (argsL := argsL) (rest := rest) hlen hst (by show 2 * 0 + _ ≤ _; omega) (cx.2.1 ▸ hd) (fun _ _ => ⟨hargs, eT, hc, hs⟩)
  dsimp only [Pt.U, Pt.locs, Pt.cells, Pt.slots] at X' q1 q4 q5 q6 stp
  subst q4 q5 q6
  obtain ⟨r1, r2, r3⟩ := hq _ _ _ q1
  obtain ⟨t, o, h1, r⟩ := k v U.heap Lq q1 r3 p e s m args below meth c U _ cx ⟨X', ⟨k0, hS, Nat.le_trans hk r3.2.1⟩, hZ, hown, rfl, Fr.app N r1, r2, hC.trans r3, hW', a1, hEL⟩
  exact ⟨t, o, stp.trans h1, r⟩
theorem WP.backV {y : MethodName} {as' : Array Value} {Qy : Option Value → Heap → List Loc → Prop} {index Wd kc ks ce' sl' : Nat} {x : MethodName} {Cn : String} {a : Addr} (hK : ∀ (p : Program) (e : Env) (below : List Frame) (s : State) (args : Array Value), Z.Warmed39 (s.setVm vm).vm → Back l R p e below (s.setVm vm) args y 3 Wd (fun A a => a = as' ∧ A.U.heap = h ∧ A.cells + kc ≤ R.cells ∧ A.slots + ks ≤ R.slots) (fun A _ v B => ∃ L, Qy v B.U.heap L ∧ B.locs = A.locs ++ L ∧ B.cells = A.cells + kc ∧ B.slots = A.slots + ks)) (hq : ∀ v h' L, Qy v h' L → Fr Z.heap.size L ∧ Ext Z.heap h' ∧ CHr Z EL vm h vm h') (E : Exa Z h a Cn) (hd : decode bytes pc = .ok (.invokevirtual index, 3)) (w1 : (Cond.methodLink own index x).before a0 Z = true) (w2 : (Cond.declares x).before a0 Z = true) (w3 : (Cond.selects Cn x y).before a0 Z = true) (w4 : (Cond.instanceMethod y).before a0 Z = true) (hy : x.cls ≠ "java/lang/invoke/MethodHandle" ∧ x.cls ≠ "java/lang/invoke/VarHandle") (hnf : ∀ s : State, Z.Warmed39 s.vm → NotFace s x) (hce : ce + kc = ce') (hsl : sl + ks = sl') (hc : ce' ≤ R.cells) (hs : sl' ≤ R.slots) (hsize : Ls.size = maxL) {argsL : List Value} (hargs : (Value.ref a :: argsL).toArray = as') (hlen : ∀ sig, parseMethodDescriptor x.desc = some sig → argsL.length = sig.parameters.length) (hst : st = argsL.reverse ++ .ref a :: rest) (hWd : (rest.map fun v => v.category).sum ≤ Wd) (hp : pc + 3 = n)
    (k : ∀ v h' L, Qy v h' L → CHr Z EL vm h vm h' → WP l Z EL nar own nm bytes maxL ret R Q vm h' ce' sl' n Ls (v.toList ++ rest)) : WP l Z EL nar own nm bytes maxL ret R Q vm h ce sl pc Ls st := by
  subst hp hce hsl
  intro p e s m args below meth c T L cx ⟨X, ⟨k0, hS, hk⟩, hZ, hown, eT, N, hE, hC, hW', a1, hEL⟩
  obtain ⟨cq, kq, qa, qb, qc⟩ := isOf (s := s.setVm vm) hZ eT E
  obtain ⟨v, vm₁, ⟨U, L', ke, ks'⟩, hw1, X', ⟨Lq, q1, q4, q5, q6⟩, stp⟩ := X.virtualBack cx.1 hown (mvT (s := s.setVm vm) hZ w1) (mvT (s := s.setVm vm) hZ w2) (hnf _ hZ) (mvT (s := s.setVm vm) hZ w3) (mvT (s := s.setVm vm) hZ w4) hy (hK p e below s args hZ) qa qc (g := mkF m pc Ls st) rfl (by rw [cx.2.2.1]; exact hsize) (Steps.refl _) (argsL := argsL) (rest := rest) hlen hst (by show 2 * 0 + _ ≤ _; omega) (cx.2.1 ▸ hd) (fun _ _ => ⟨hargs, eT, hc, hs⟩)
  dsimp only [Pt.U, Pt.locs, Pt.cells, Pt.slots] at X' q1 q4 q5 q6 stp
  subst q4 q5 q6
  obtain ⟨r1, r2, r3⟩ := hq _ _ _ q1
  obtain ⟨t, o, h1, r⟩ := k v U.heap Lq q1 r3 p e s m args below meth c U _ cx ⟨X', ⟨k0, hS, Nat.le_trans hk r3.2.1⟩, hZ, hown, rfl, Fr.app N r1, r2, hC.trans r3, hW', a1, hEL⟩
  exact ⟨t, o, stp.trans h1, r⟩
theorem WP.ldcO {index : Nat} {text : String} {nn ce' sl' : Nat} (hd : decode bytes pc = .ok (.ldc index, 2)) (hnar : nar = false) (w : (Cond.stringLink own index text).before a0 Z = true) (wS : ∀ a ∈ Bundle.stringAtoms, a.before a0 Z = true) (hn : 4 * text.toList.length ≤ nn) (hbig : nn ≤ 536870912) (hce : ce + 2 = ce') (hsl : sl + (nn + 4) = sl') (hc : ce' ≤ R.cells) (hl : sl' ≤ R.slots) (hEL : EW Z a0 EL) (hp : pc + 2 = n)
    (k : ∀ a vm' h', Ext h h' → CHr Z EL vm h vm' h' → WP l Z EL nar own nm bytes maxL ret R Q vm' h' ce' sl' n Ls (.ref a :: st)) : WP l Z EL nar own nm bytes maxL ret R Q vm h ce sl pc Ls st := by
  subst hp hce hsl
  intro p e s m args below meth c T L cx ⟨X, ⟨k0, hS, hk⟩, hZ, hown, eT, N, hE, hC, hW', hEL'⟩
  obtain ⟨a, T', h', k1, X', e', E', hS', hk', hZ', hown', hr, -, stp⟩ := ldcOH X cx.1 hZ hown w wS eT hS hk hEL hC.1 (g := mkF m pc Ls st) rfl (cx.2.1 ▸ hd) hn hbig hc hl
  obtain ⟨t, o, h1, r⟩ := k a T'.vm h' E' hr p e s m args below meth c T' L cx ⟨X', ⟨k1, hS', hk'⟩, hZ', hown', e', N, ext_trans hE E', hC.trans hr, (fun q => by rw [hnar] at q; cases q), hEL'⟩
  exact ⟨t, o, stp _ h1, r⟩
theorem WP.ldcC {index : Nat} {text : String} {nn ce' sl' : Nat} {vs : List Value} {z : Int32} (hd : decode bytes pc = .ok (.ldc index, 2)) (hnar : nar = false) (w : (Cond.stringLink own index text).before a0 Z = true) (wS : ∀ a ∈ Bundle.stringAtoms, a.before a0 Z = true) (hmem : (own, index) ∈ EL) (ht : (∀ c ∈ text.toList, c.toNat < 256) ∧ text.toList.map (fun c => Value.int (Jvm.Lit.byteI c.toNat.toUInt16)) = vs) (hz : ¬ z < 0) (hzl : z.toNatClampNeg = vs.length) (hn : 4 * text.toList.length ≤ nn) (hbig : nn ≤ 536870912) (hce : ce + 2 = ce') (hsl : sl + (nn + 4) = sl') (hc : ce' ≤ R.cells) (hl : sl' ≤ R.slots) (hEL : EW Z a0 EL) (hp : pc + 2 = n)
    (k : ∀ a b kb vm' h', Ext h h' → CHr Z EL vm h vm' h' → Exa Z h' a "java/lang/String" → Fld Z h' a "java/lang/String" "coder" "B" (.int 0) → Fld Z h' a "java/lang/String" "value" "[B" (.ref b) → Arv Z h' b kb .byte z vs (.int 0) → Lit (Z.setVm vm') own index a → (∀ x, Safe Z EL vm' h' x → x ≠ a ∧ x ≠ b) → WP l Z EL nar own nm bytes maxL ret R Q vm' h' ce' sl' n Ls (.ref a :: st)) : WP l Z EL nar own nm bytes maxL ret R Q vm h ce sl pc Ls st := by
  subst hp hce hsl
  intro p e s m args below meth c T L cx ⟨X, ⟨k0, hS, hk⟩, hZ, hown, eT, N, hE, hC, hW', hEL'⟩
  obtain ⟨a, T', h', k1, b, kb, X', e', E', hS', hk', hZ', hown', f1, f2, f3, f4, -, -, hr, hLi, hNe, stp⟩ := ldcCH X cx.1 hZ hown w wS eT hS hk hEL hmem hC.1 ht hz hzl (g := mkF m pc Ls st) rfl (cx.2.1 ▸ hd) hn hbig hc hl
  obtain ⟨t, o, h1, r⟩ := k a b kb T'.vm h' E' hr f1 f2 f3 f4 hLi hNe p e s m args below meth c T' L cx ⟨X', ⟨k1, hS', hk'⟩, hZ', hown', e', N, ext_trans hE E', hC.trans hr, (fun q => by rw [hnar] at q; cases q), hEL'⟩
  exact ⟨t, o, stp _ h1, r⟩
theorem WP.baload {a : Addr} {cA : ClassId} {z j : Int32} {vs : List Value} {d v : Value} (hd : decode bytes pc = .ok (.baload, 1)) (A : Arv Z h a cA .byte z vs d) (hj : ¬ j < 0 ∧ j < z) (hv : vs.getD j.toNatClampNeg d = v) (hp : pc + 1 = n) (k : WP l Z EL nar own nm bytes maxL ret R Q vm h ce sl n Ls (v :: rest)) : WP l Z EL nar own nm bytes maxL ret R Q vm h ce sl pc Ls (.int j :: .ref a :: rest) := by
  subst hp
  obtain ⟨cl, A1, q1, S1, M1, H1, G1⟩ := A
  refine WP.look (Ls' := Ls) (fun p e s args below T m meth c L hx hb X hZ hown eT => ⟨T, X, eT, fun target q => ?_⟩) k
  exact X.baloadBytes hx (j := j) (v := v) (by rw [eT]; exact A1.1) (State.isArrayOf_alike hZ.alike A1.2.1) A1.2.2 (inb_of S1 hj) (H1.at (inb_of S1 hj) hv) (g := mkF m pc Ls (.int j :: .ref a :: rest)) rfl rfl (hb ▸ hd) _ q
theorem WP.caload {a : Addr} {cA : ClassId} {z j : Int32} {vs : List Value} {d v : Value} (hd : decode bytes pc = .ok (.caload, 1)) (A : Arv Z h a cA .char z vs d) (hj : ¬ j < 0 ∧ j < z) (hv : vs.getD j.toNatClampNeg d = v) (hp : pc + 1 = n) (k : WP l Z EL nar own nm bytes maxL ret R Q vm h ce sl n Ls (v :: rest)) : WP l Z EL nar own nm bytes maxL ret R Q vm h ce sl pc Ls (.int j :: .ref a :: rest) := by
  subst hp
  obtain ⟨cl, A1, q1, S1, M1, H1, G1⟩ := A
  refine WP.look (Ls' := Ls) (fun p e s args below T m meth c L hx hb X hZ hown eT => ⟨T, X, eT, fun target q => ?_⟩) k
  exact X.caload hx (j := j) (v := v) (by rw [eT]; exact A1.1) (State.isArrayOf_alike hZ.alike A1.2.1) A1.2.2 (inb_of S1 hj) (H1.at (inb_of S1 hj) hv) (g := mkF m pc Ls (.int j :: .ref a :: rest)) rfl rfl (hb ▸ hd) _ q
theorem WP.iaload {a : Addr} {cA : ClassId} {z j : Int32} {vs : List Value} {d v : Value} (hd : decode bytes pc = .ok (.iaload, 1)) (A : Arv Z h a cA .int z vs d) (hj : ¬ j < 0 ∧ j < z) (hv : vs.getD j.toNatClampNeg d = v) (hp : pc + 1 = n) (k : WP l Z EL nar own nm bytes maxL ret R Q vm h ce sl n Ls (v :: rest)) : WP l Z EL nar own nm bytes maxL ret R Q vm h ce sl pc Ls (.int j :: .ref a :: rest) := by
  subst hp
  obtain ⟨cl, A1, q1, S1, M1, H1, G1⟩ := A
  refine WP.look (Ls' := Ls) (fun p e s args below T m meth c L hx hb X hZ hown eT => ⟨T, X, eT, fun target q => ?_⟩) k
  exact X.iaload hx (j := j) (v := v) (by rw [eT]; exact A1.1) (State.isArrayOf_alike hZ.alike A1.2.1) A1.2.2 (inb_of S1 hj) (H1.at (inb_of S1 hj) hv) (g := mkF m pc Ls (.int j :: .ref a :: rest)) rfl rfl (hb ▸ hd) _ q
theorem WP.castY {K : String} {index : Nat} {a : Addr} (hd : decode bytes pc = .ok (.checkcast index, 3)) (w : (Cond.classLink own index K).before a0 Z = true) (F : Ins Z h a K true) (hp : pc + 3 = n) (k : WP l Z EL nar own nm bytes maxL ret R Q vm h ce sl n Ls (.ref a :: rest)) : WP l Z EL nar own nm bytes maxL ret R Q vm h ce sl pc Ls (.ref a :: rest) := by
  subst hp
  refine WP.look (fun p e s args below T m meth c L hx hb X hZ hown eT => ?_) k
  exact castY X hx hZ hown w eT F (g := mkF m pc Ls (.ref a :: rest)) rfl rfl (hb ▸ hd)
theorem WP.instY {K : String} {index : Nat} {a : Addr} (hd : decode bytes pc = .ok (.instanceof index, 3)) (w : (Cond.classLink own index K).before a0 Z = true) (F : Ins Z h a K true) (hp : pc + 3 = n) (k : WP l Z EL nar own nm bytes maxL ret R Q vm h ce sl n Ls (.int 1 :: rest)) : WP l Z EL nar own nm bytes maxL ret R Q vm h ce sl pc Ls (.ref a :: rest) := by
  subst hp
  refine WP.look (fun p e s args below T m meth c L hx hb X hZ hown eT => ?_) k
  exact instY X hx hZ hown w eT F (g := mkF m pc Ls (.ref a :: rest)) rfl rfl (hb ▸ hd)
theorem WP.instNo {K C : String} {index : Nat} {a : Addr} (hd : decode bytes pc = .ok (.instanceof index, 3)) (w : (Cond.classLink own index K).before a0 Z = true) (E : Exa Z h a C) (F : ∃ c t, Z.vm.findClass C = some c ∧ Z.vm.findClass K = some t ∧ Z.vm.assignable c t = false) (hp : pc + 3 = n) (k : WP l Z EL nar own nm bytes maxL ret R Q vm h ce sl n Ls (.int 0 :: rest)) : WP l Z EL nar own nm bytes maxL ret R Q vm h ce sl pc Ls (.ref a :: rest) := by
  subst hp
  refine WP.look (fun p e s args below T m meth c L hx hb X hZ hown eT => ?_) k
  exact instNo X hx hZ hown w eT E F (g := mkF m pc Ls (.ref a :: rest)) rfl rfl (hb ▸ hd)
theorem WP.instNull {index : Nat} (hd : decode bytes pc = .ok (.instanceof index, 3)) (hp : pc + 3 = n) (k : WP l Z EL nar own nm bytes maxL ret R Q vm h ce sl n Ls (.int 0 :: rest)) : WP l Z EL nar own nm bytes maxL ret R Q vm h ce sl pc Ls (.null :: rest) := by
  subst hp
  refine WP.look (Ls' := Ls) (fun p e s args below T m meth c L hx hb X hZ hown eT => ⟨T, X, eT, fun target q => ?_⟩) k
  exact X.instanceofNull hx (g := mkF m pc Ls (.null :: rest)) rfl rfl (hb ▸ hd) _ q
theorem WP.castNull {index : Nat} (hd : decode bytes pc = .ok (.checkcast index, 3)) (hp : pc + 3 = n) (k : WP l Z EL nar own nm bytes maxL ret R Q vm h ce sl n Ls (.null :: rest)) : WP l Z EL nar own nm bytes maxL ret R Q vm h ce sl pc Ls (.null :: rest) := by
  subst hp
  refine WP.look (Ls' := Ls) (fun p e s args below T m meth c L hx hb X hZ hown eT => ⟨T, X, eT, fun target q => ?_⟩) k
  exact X.checkcastNull hx (g := mkF m pc Ls (.null :: rest)) rfl rfl (hb ▸ hd) _ q
theorem WP.ldcA {index : Nat} {text : String} {a : Addr} (hd : decode bytes pc = .ok (.ldc index, 2)) (w : (Cond.stringLink own index text).before a0 Z = true) (Li : Lit (Z.setVm vm) own index a) (hp : pc + 2 = n) (k : WP l Z EL nar own nm bytes maxL ret R Q vm h ce sl n Ls (.ref a :: st)) : WP l Z EL nar own nm bytes maxL ret R Q vm h ce sl pc Ls st := by
  subst hp
  refine WP.look (Ls' := Ls) (fun p e s args below T m meth c L hx hb X hZ hown eT => ⟨T, X, eT, fun target q => ?_⟩) k
  exact ldcAgain X hx hZ hown w Li (g := mkF m pc Ls st) rfl (hb ▸ hd) _ q
theorem WP.backS {y : MethodName} {as' : Array Value} {Qy : Option Value → Heap → List Loc → Prop} {index Wd kc ks ce' sl' : Nat} {yb : ByteArray} {yl : Nat} {yr : Option FieldType} (hK : ∀ (p : Program) (e : Env) (below : List Frame) (s : State) (args : Array Value), Z.Warmed39 (s.setVm vm).vm → Back l R p e below (s.setVm vm) args y 3 Wd (fun A a => a = as' ∧ A.U.heap = h ∧ A.cells + kc ≤ R.cells ∧ A.slots + ks ≤ R.slots) (fun A _ v B => ∃ L, Qy v B.U.heap L ∧ B.locs = A.locs ++ L ∧ B.cells = A.cells + kc ∧ B.slots = A.slots + ks)) (hq : ∀ v h' L, Qy v h' L → Fr Z.heap.size L ∧ Ext Z.heap h' ∧ CHr Z EL vm h vm h') (hd : decode bytes pc = .ok (.invokestatic index, 3)) (w1 : (Cond.methodLink own index y).before a0 Z = true) (w2 : (Cond.static y).before a0 Z = true) (wz : (Cond.initialized y.cls).before a0 Z = true) (wc : (Cond.code y yb yl yr).before a0 Z = true) (hy : y.cls ≠ "java/lang/invoke/MethodHandle" ∧ y.cls ≠ "java/lang/invoke/VarHandle") (hce : ce + kc = ce') (hsl : sl + ks = sl') (hc : ce' ≤ R.cells) (hs : sl' ≤ R.slots) (hsize : Ls.size = maxL) {argsL : List Value} (hargs : argsL.toArray = as') (hlen : ∀ sig, parseMethodDescriptor y.desc = some sig → argsL.length = sig.parameters.length) (hst : st = argsL.reverse ++ rest) (hWd : (rest.map fun v => v.category).sum ≤ Wd) (hp : pc + 3 = n)
    (k : ∀ v h' L, Qy v h' L → CHr Z EL vm h vm h' → WP l Z EL nar own nm bytes maxL ret R Q vm h' ce' sl' n Ls (v.toList ++ rest)) : WP l Z EL nar own nm bytes maxL ret R Q vm h ce sl pc Ls st := by
  subst hp hce hsl
  intro p e s m args below meth c T L cx ⟨X, ⟨k0, hS, hk⟩, hZ, hown, eT, N, hE, hC, hW', a1, hEL⟩
  obtain ⟨v, vm₁, ⟨U, L', ke, ks'⟩, hw1, X', ⟨Lq, q1, q4, q5, q6⟩, stp⟩ := Jvm.LawKit.callS X cx.1 hown (mvT (s := s.setVm vm) hZ w1) (mvT (s := s.setVm vm) hZ w2) (mvT (s := s.setVm vm) hZ wz) (mvT (s := s.setVm vm) hZ wc) hy (hK p e below s args hZ) (g := mkF m pc Ls st) rfl (by rw [cx.2.2.1]; exact hsize) (argsL := argsL) (rest := rest) hlen hst (by show 2 * 0 + _ ≤ _; omega) (cx.2.1 ▸ hd) (fun _ _ => ⟨hargs, eT, hc, hs⟩)
  dsimp only [Pt.U, Pt.locs, Pt.cells, Pt.slots] at X' q1 q4 q5 q6 stp
  subst q4 q5 q6
  obtain ⟨r1, r2, r3⟩ := hq _ _ _ q1
  obtain ⟨t, o, h1, r⟩ := k v U.heap Lq q1 r3 p e s m args below meth c U _ cx ⟨X', ⟨k0, hS, Nat.le_trans hk r3.2.1⟩, hZ, hown, rfl, Fr.app N r1, r2, hC.trans r3, hW', a1, hEL⟩
  exact ⟨t, o, stp _ h1, r⟩
theorem WP.ldcI {index : Nat} {v : Int32} (hd : decode bytes pc = .ok (.ldc index, 2)) (w : (Cond.constant own index v).before a0 Z = true) (hp : pc + 2 = n) (k : WP l Z EL nar own nm bytes maxL ret R Q vm h ce sl n Ls (.int v :: st)) : WP l Z EL nar own nm bytes maxL ret R Q vm h ce sl pc Ls st := by
  subst hp
  refine WP.look (Ls' := Ls) (fun p e s args below T m meth c L hx hb X hZ hown eT => ⟨T, X, eT, fun target q => ?_⟩) k
  exact X.ldcInt hx hown (mvT (s := s.setVm vm) hZ w) (g := mkF m pc Ls st) rfl (hb ▸ hd) _ q
end Steps
end Jvm.OwnW
namespace Jvm.Pilot.@@N@@
open Jvm Jvm.ClassFile Sem Op Lib Jvm.Free Jvm.Stand Jvm.LawKit Jvm.RoadKit Bundle Jvm.OwnW Jvm.Pilot.@@N@@.Jvm.D
theorem own_pn0 : plainName "java/lang/StringLatin1" = true := by first | (simp [plainName, overriddenIn]; done) | decide +kernel
theorem own_pn1 : plainName "java/lang/String" = true := by first | (simp [plainName, overriddenIn]; done) | decide +kernel
theorem own_pn2 : plainName "java/util/Objects" = true := by first | (simp [plainName, overriddenIn]; done) | decide +kernel
theorem own_pn3 : plainName "com/example/esteem/esteem/core/analysis/TokenEqualsPinLaw" = true := by first | (simp [plainName, overriddenIn]; done) | decide +kernel
theorem own_pn4 : plainName "com/example/esteem/esteem/core/analysis/Token" = true := by first | (simp [plainName, overriddenIn]; done) | decide +kernel
theorem own_pd0 : parseMethodDescriptor "([B[B)Z" = some ⟨[(.array .byte), (.array .byte)], some .boolean⟩ := by decide +kernel
theorem own_pd1 : parseMethodDescriptor "([CIILjava/lang/Void;)V" = some ⟨[(.array .char), .int, .int, (.object "java/lang/Void")], none⟩ := by decide +kernel
theorem own_pd2 : parseMethodDescriptor "(C)Z" = some ⟨[.char], some .boolean⟩ := by decide +kernel
theorem own_pd3 : parseMethodDescriptor "(C)[B" = some ⟨[.char], some (.array .byte)⟩ := by decide +kernel
theorem own_pd4 : parseMethodDescriptor "([BB)V" = some ⟨[(.array .byte), .byte], none⟩ := by decide +kernel
theorem own_pd5 : parseMethodDescriptor "([C)V" = some ⟨[(.array .char)], none⟩ := by decide +kernel
theorem own_pd6 : parseMethodDescriptor "(C)Ljava/lang/String;" = some ⟨[.char], some (.object "java/lang/String")⟩ := by decide +kernel
theorem own_pd7 : parseMethodDescriptor "(Ljava/lang/Object;Ljava/lang/String;)Ljava/lang/Object;" = some ⟨[(.object "java/lang/Object"), (.object "java/lang/String")], some (.object "java/lang/Object")⟩ := by decide +kernel
theorem own_pd8 : parseMethodDescriptor "(Ljava/lang/Object;)Z" = some ⟨[(.object "java/lang/Object")], some .boolean⟩ := by decide +kernel
theorem own_pd9 : parseMethodDescriptor "(II)I" = some ⟨[.int, .int], some .int⟩ := by decide +kernel
theorem own_pd10 : parseMethodDescriptor "(ICC)Ljava/lang/String;" = some ⟨[.int, .char, .char], some (.object "java/lang/String")⟩ := by decide +kernel
theorem own_pd11 : parseMethodDescriptor "(Ljava/lang/String;IILjava/lang/String;I)V" = some ⟨[(.object "java/lang/String"), .int, .int, (.object "java/lang/String"), .int], none⟩ := by decide +kernel
theorem own_pd12 : parseMethodDescriptor "(ICCICC)Z" = some ⟨[.int, .char, .char, .int, .char, .char], some .boolean⟩ := by decide +kernel
theorem own_pd13 : parseMethodDescriptor "()Ljava/lang/String;" = some ⟨[], some (.object "java/lang/String")⟩ := by decide +kernel
/-- a String that spells bs (its bytes) -/
def Str (Z : State) (h : Heap) (a : Addr) (bs : List Int32) : Prop := Exa Z h a "java/lang/String" ∧ Fld Z h a "java/lang/String" "coder" "B" (.int 0) ∧ ∃ (b : Addr) (kb : ClassId) (z : Int32), Fld Z h a "java/lang/String" "value" "[B" (.ref b) ∧ Arv Z h b kb .byte z (bs.map Value.int) (.int 0) ∧ z.toNatClampNeg = bs.length
theorem Str.ext {Z : State} {h h' : Heap} {a : Addr} {bs : List Int32} (F : Str Z h a bs) (E : Ext h h') : Str Z h' a bs := by
  obtain ⟨f1, f2, b, kb, z, f3, f4, f5⟩ := F
  exact ⟨f1.ext E, f2.ext E, b, kb, z, f3.ext E, f4.ext E, f5⟩
theorem Str.lt {Z : State} {h : Heap} {a : Addr} {bs : List Int32} (F : Str Z h a bs) : a < h.size := F.1.lt
theorem own_fld_inj {Z : State} {h : Heap} {a : Addr} {C n d : String} {v w : Value} (F : Fld Z h a C n d v) (G : Fld Z h a C n d w) : v = w := by
  obtain ⟨c1, cf1, k1, i1, f1, e1, e2, -, -, -, -, e7⟩ := F
  obtain ⟨c2, cf2, k2, i2, f2, g1, g2, -, -, -, -, g7⟩ := G
  cases e1.symm.trans g1
  cases e2.symm.trans g2
  exact Option.some.inj (e7.symm.trans g7)
theorem own_arv_inj {Z : State} {h : Heap} {a : Addr} {k k' : ClassId} {ty : FieldType} {z z' : Int32} {vs ws : List Value} {d : Value} (F : Arv Z h a k ty z vs d) (G : Arv Z h a k' ty z' ws d) (hv : z.toNatClampNeg = vs.length) (hw : z'.toNatClampNeg = ws.length) : vs = ws := by
  obtain ⟨c1, A1, -, s1, -, H1, -⟩ := F
  obtain ⟨c2, A2, -, s2, -, H2, -⟩ := G
  cases A1.1.symm.trans A2.1
  have e : vs.length = ws.length := by omega
  refine List.ext_getElem e fun i h1 h2 => ?_
  have q1 := H1 i (by omega)
  have q2 := H2 i (by omega)
  have q := q1.symm.trans q2
  simpa [List.getD_eq_getElem?_getD, h1, h2] using q
theorem own_map_inj {bs ds : List Int32} (h : bs.map Value.int = ds.map Value.int) : bs = ds :=
  (List.map_inj_right (fun x y e => by injection e)).mp h
theorem Str.inj {Z : State} {h : Heap} {a : Addr} {bs ds : List Int32} (F : Str Z h a bs) (G : Str Z h a ds) : bs = ds := by
  obtain ⟨-, -, b, kb, z, f3, f4, f5⟩ := F
  obtain ⟨-, -, b', kb', z', g3, g4, g5⟩ := G
  have e := own_fld_inj f3 g3
  injection e with e
  subst e
  exact own_map_inj (own_arv_inj f4 g4 (by simpa using f5) (by simpa using g5))
theorem own_n32 {k : Nat} (h : k < 2147483648) : (Int32.ofNat k).toInt = k := by
  rw [Int32.toInt_ofNat', show Int32.size = 4294967296 from rfl]; simp only [Int.bmod]; omega
theorem own_cat {d : Value} (h : d.isRef = true) : d.category = 1 := by rcases ref_cases h with rfl | ⟨a, rfl⟩ <;> rfl
theorem own_ne_t {x y : Value} (h : x ≠ y) : XT.acmp .ne x y = true := decide_eq_true h
theorem own_ne_f {x y : Value} (h : x = y) : XT.acmp .ne x y = false := decide_eq_false (fun q => q h)
theorem own_eq_t {x y : Value} (h : x = y) : XT.acmp .eq x y = true := decide_eq_true h
theorem own_eq_f {x y : Value} (h : x ≠ y) : XT.acmp .eq x y = false := decide_eq_false h
theorem own_clamp {k : Nat} (h : k < 2147483648) : (Int32.ofNat k).toNatClampNeg = k := by
  simp only [Int32.toNatClampNeg, own_n32 h]; rfl
theorem own_z {z : Int32} (h0 : ¬ z < 0) : z = Int32.ofNat z.toNatClampNeg ∧ z.toNatClampNeg < 2147483648 := by
  have q := back32 h0
  exact ⟨q.1.symm, q.2⟩
theorem own_ltN {k m : Nat} (hk : k < 2147483648) (hm : m < 2147483648) : (Int32.ofNat k < Int32.ofNat m) ↔ k < m := by
  rw [Int32.lt_iff_toInt_lt, own_n32 hk, own_n32 hm]; omega
theorem own_nn {k : Nat} (hk : k < 2147483648) : ¬ (Int32.ofNat k < 0) := by
  rw [Int32.lt_iff_toInt_lt, own_n32 hk]
  have e0 : (0 : Int32).toInt = 0 := rfl
  omega
theorem own_inc {k : Nat} (hk : k + 1 < 2147483648) : Int32.ofNat k + Int32.ofInt 1 = Int32.ofNat (k + 1) := by
  rw [← Int32.toInt_inj, Int32.toInt_add, own_n32 (by omega), own_n32 hk]
  have e0 : (Int32.ofInt 1).toInt = 1 := rfl
  rw [e0]; simp only [Int.bmod]; omega
theorem own_rng_nil : ∀ c ∈ ([] : List Int32), ¬ c < 0 ∧ ¬ (255 : Int32) < c := fun _ q => nomatch q
theorem own_rng_cons {x : Int32} {xs : List Int32} (h : ¬ x < 0 ∧ ¬ (255 : Int32) < x) (t : ∀ c ∈ xs, ¬ c < 0 ∧ ¬ (255 : Int32) < c) : ∀ c ∈ x :: xs, ¬ c < 0 ∧ ¬ (255 : Int32) < c := fun c hc => by
  rcases List.mem_cons.mp hc with rfl | hc
  · exact h
  · exact t c hc
theorem own_c8r (x : Int32) : ¬ (x &&& 255) < 0 ∧ ¬ (255 : Int32) < (x &&& 255) := by
  have h1 := c_mask x 255 8 (by decide) (by decide)
  rw [Int32.lt_iff_toInt_lt, Int32.lt_iff_toInt_lt]
  have e0 : (0 : Int32).toInt = 0 := rfl
  have e1 : (255 : Int32).toInt = 255 := rfl
  omega
theorem own_rng {k : Int32} (h : ¬ k < 0 ∧ ¬ (255 : Int32) < k) : 0 ≤ k.toInt ∧ k.toInt ≤ 255 := by
  rw [Int32.lt_iff_toInt_lt, Int32.lt_iff_toInt_lt] at h
  have e0 : (0 : Int32).toInt = 0 := rfl
  have e1 : (255 : Int32).toInt = 255 := rfl
  omega
theorem own_c16 {k : Int32} (h : ¬ k < 0 ∧ ¬ (255 : Int32) < k) : k.toUInt32.toUInt16.toUInt32.toInt32 = k := by
  have a := own_rng h
  have b := c_i2c k
  rw [← Int32.toInt_inj]; omega
theorem own_inj8 {k m : Int32} (h : ¬ k < 0 ∧ ¬ (255 : Int32) < k) (h' : ¬ m < 0 ∧ ¬ (255 : Int32) < m) (e : k.toInt8.toInt32 = m.toInt8.toInt32) : k = m := by
  have a := own_rng h
  have b := own_rng h'
  have c1 := c_i2b k
  have c2 := c_i2b m
  rw [e] at c1
  rw [← Int32.toInt_inj]; omega
theorem own_skeep {Z : State} {h h' : Heap} {a b : Addr} {bs : List Int32} {C : String} {n : Nat} {a0 : Array Value} (F : Str Z h a bs) (A : Exa Z h b C) (K : Keep h h' [b]) (hC : C ≠ "java/lang/String") (wi : (Cond.instantiable C n).before a0 Z = true) : Str Z h' a bs := by
  obtain ⟨f1, f2, c, kc, z, f3, f4, f5⟩ := F
  have n1 : a ≠ b := fun e => ne_exa A f1 hC e.symm
  have n2 : b ≠ c := Exa.neArv A f4 wi
  have m1 : a ∉ [b] := fun q => n1 (List.mem_singleton.mp q)
  have m2 : c ∉ [b] := fun q => n2 (List.mem_singleton.mp q).symm
  exact ⟨f1.keep K, f2.keep K m1, c, kc, z, f3.keep K m1, f4.keep K m2, f5⟩
theorem own_noinst {Z : State} {a0 : Array Value} {C S K : String} {n : Nat} (w : (Cond.superclass C S).before a0 Z = true) (wr : (Cond.noSuperclass S).before a0 Z = true) (wi : (Cond.instantiable K n).before a0 Z = true) (h1 : C ≠ K) (h2 : S ≠ K) : ∃ c t, Z.vm.findClass C = some c ∧ Z.vm.findClass K = some t ∧ Z.vm.assignable c t = false := by
  obtain ⟨c, k, hc, hk, hs, hkd, hif⟩ := Cond.noSuperclass_spec wr
  obtain ⟨t, kt, ht, hkt, hkk, hni, -⟩ := Cond.instantiable_spec wi
  obtain ⟨c0, hc0⟩ := found_sup w
  obtain ⟨p, k0, kp, q1, q2, q3, q4, q5, q6, q7⟩ := Cond.superclass_spec hc0 w
  cases hc.symm.trans q1
  cases hk.symm.trans q3
  have n1 := ids_ne hc0 ht h1
  have n2 := ids_ne hc ht h2
  have hni' : kt.isInterface = false := by
    cases hq : kt.isInterface with
    | false => rfl
    | true => rw [hq] at hni; simp at hni
  refine ⟨c0, t, hc0, ht, ?_⟩
  have key : ∀ fuel, Z.vm.isSubclassAux fuel c t = false := fun fuel => by
    cases fuel with
    | zero => rfl
    | succ f => simp [Vm.isSubclassAux, n2, hk, hs]
  have key2 : ∀ fuel, Z.vm.isSubclassAux fuel c0 t = false := fun fuel => by
    cases fuel with
    | zero => rfl
    | succ f => simp [Vm.isSubclassAux, n1, q2, q4, key]
  show Z.vm.assignableAux (255 + 1) c0 t = false
  simp [Vm.assignableAux, n1, q2, hkt, q5, hkk, hni', Vm.isSubclass, key2]

theorem dLE_0 : decode jdk_43_method_13_code 0 = .ok (.aload_n 0, 1) := by decide +kernel
theorem dLE_1 : decode jdk_43_method_13_code 1 = .ok (.arraylength, 1) := by decide +kernel
theorem dLE_2 : decode jdk_43_method_13_code 2 = .ok (.aload_n 1, 1) := by decide +kernel
theorem dLE_3 : decode jdk_43_method_13_code 3 = .ok (.arraylength, 1) := by decide +kernel
theorem dLE_4 : decode jdk_43_method_13_code 4 = .ok (.if_icmp .ne 30, 3) := by decide +kernel
theorem dLE_7 : decode jdk_43_method_13_code 7 = .ok (.iconst 0, 1) := by decide +kernel
theorem dLE_8 : decode jdk_43_method_13_code 8 = .ok (.istore_n 2, 1) := by decide +kernel
theorem dLE_9 : decode jdk_43_method_13_code 9 = .ok (.iload_n 2, 1) := by decide +kernel
theorem dLE_10 : decode jdk_43_method_13_code 10 = .ok (.aload_n 0, 1) := by decide +kernel
theorem dLE_11 : decode jdk_43_method_13_code 11 = .ok (.arraylength, 1) := by decide +kernel
theorem dLE_12 : decode jdk_43_method_13_code 12 = .ok (.if_icmp .ge 20, 3) := by decide +kernel
theorem dLE_15 : decode jdk_43_method_13_code 15 = .ok (.aload_n 0, 1) := by decide +kernel
theorem dLE_16 : decode jdk_43_method_13_code 16 = .ok (.iload_n 2, 1) := by decide +kernel
theorem dLE_17 : decode jdk_43_method_13_code 17 = .ok (.baload, 1) := by decide +kernel
theorem dLE_18 : decode jdk_43_method_13_code 18 = .ok (.aload_n 1, 1) := by decide +kernel
theorem dLE_19 : decode jdk_43_method_13_code 19 = .ok (.iload_n 2, 1) := by decide +kernel
theorem dLE_20 : decode jdk_43_method_13_code 20 = .ok (.baload, 1) := by decide +kernel
theorem dLE_21 : decode jdk_43_method_13_code 21 = .ok (.if_icmp .eq 5, 3) := by decide +kernel
theorem dLE_24 : decode jdk_43_method_13_code 24 = .ok (.iconst 0, 1) := by decide +kernel
theorem dLE_25 : decode jdk_43_method_13_code 25 = .ok (.ireturn, 1) := by decide +kernel
theorem dLE_26 : decode jdk_43_method_13_code 26 = .ok (.iinc 2 1, 3) := by decide +kernel
theorem dLE_29 : decode jdk_43_method_13_code 29 = .ok (.goto (-20), 3) := by decide +kernel
theorem dLE_32 : decode jdk_43_method_13_code 32 = .ok (.iconst 1, 1) := by decide +kernel
theorem dLE_33 : decode jdk_43_method_13_code 33 = .ok (.ireturn, 1) := by decide +kernel
theorem dLE_34 : decode jdk_43_method_13_code 34 = .ok (.iconst 0, 1) := by decide +kernel
theorem dLE_35 : decode jdk_43_method_13_code 35 = .ok (.ireturn, 1) := by decide +kernel
set_option maxRecDepth 65536 in
set_option maxHeartbeats 40000000 in
theorem own_leq (l : Launch) (Z : State) (a0 : Array Value) (hw : ∀ d ∈ tables_1, d.before a0 Z = true) (EL : List (String × Nat)) (hEL : EW Z a0 EL) (h0 : Heap) (b c : Addr) (kb kc : ClassId) (z z' : Int32) (bs ds : List Int32) (A : Arv Z h0 b kb .byte z (bs.map Value.int) (.int 0)) (B : Arv Z h0 c kc .byte z' (ds.map Value.int) (.int 0)) (hz0 : ¬ z < 0) (hz : z.toNatClampNeg = bs.length) (hz0' : ¬ z' < 0) (hz' : z'.toNatClampNeg = ds.length) :
    Con l Z EL false [] (⟨"java/lang/StringLatin1", "equals", "([B[B)Z"⟩ : MethodName) jdk_43_method_13_code 3 (some .boolean) ({ frames := 0, cells := 0, slots := 0, locals := 0 } : Room) #[(.ref b), (.ref c)] h0 (fun v h' => v = some (.int (if bs = ds then 1 else 0)) ∧ h0 = h') := by
  refine Con.of (Ls := #[.val (.ref b), .val (.ref c), .unset]) (plainFor_of_name own_pn0) hEL (fun m => by first | (simp [entryFrame, mkF, argsToLocals, Value.category]; done) | rfl) ?_
  intro vm0 hZ0 hE0 hC0 hS0
  obtain ⟨z1, z2⟩ := own_z hz0
  obtain ⟨z1', z2'⟩ := own_z hz0'
  rw [hz] at z1 z2
  rw [hz'] at z1' z2'
  have loop : bs.length = ds.length → ∀ r k, k + r = bs.length → bs.take k = ds.take k → WP l Z EL false "java/lang/StringLatin1" "equals" jdk_43_method_13_code 3 (some .boolean) ({ frames := 0, cells := 0, slots := 0, locals := 0 } : Room) (fun v h' => v = some (.int (if bs = ds then 1 else 0)) ∧ h0 = h') vm0 h0 0 0 9 #[.val (.ref b), .val (.ref c), .val (.int (Int32.ofNat k))] [] := by
    intro hlen r
    induction r with
    | zero =>
      intro k hk ht
      refine WP.iloadN (n := 10) dLE_9 rfl rfl ?_
      refine WP.aloadN (n := 11) dLE_10 rfl rfl rfl ?_
      refine WP.alen (n := 12) dLE_11 A rfl ?_
      refine WP.icmpY (n := 32) dLE_12 (flt (by rw [z1]; rw [own_ltN (by omega) (by omega)]; omega)).2.1 (by decide) (by decide) ?_
      refine WP.iconst (n := 33) (z := (1 : Int32)) dLE_32 rfl rfl ?_
      refine WP.retN dLE_33 rfl (Or.inl rfl) (by decide : nar .boolean 1 = 1) (by decide) (by decide) ⟨?_, rfl⟩
      rw [if_pos]
      have e : k = bs.length := by omega
      rw [e, List.take_length, hlen, List.take_length] at ht
      exact ht
    | succ r ih =>
      intro k hk ht
      have kb : k < bs.length := by omega
      have kd : k < ds.length := by omega
      refine WP.iloadN (n := 10) dLE_9 rfl rfl ?_
      refine WP.aloadN (n := 11) dLE_10 rfl rfl rfl ?_
      refine WP.alen (n := 12) dLE_11 A rfl ?_
      refine WP.icmpN (n' := 15) dLE_12 (tlt (by rw [z1]; rw [own_ltN (by omega) (by omega)]; omega)).2.1 rfl ?_
      refine WP.aloadN (n := 16) dLE_15 rfl rfl rfl ?_
      refine WP.iloadN (n := 17) dLE_16 rfl rfl ?_
      refine WP.baload (n := 18) (v := .int bs[k]) dLE_17 A ⟨own_nn (by omega), by rw [z1, own_ltN (by omega) (by omega)]; omega⟩ (by rw [own_clamp (by omega)]; simp [List.getD_eq_getElem?_getD, kb]) rfl ?_
      refine WP.aloadN (n := 19) dLE_18 rfl rfl rfl ?_
      refine WP.iloadN (n := 20) dLE_19 rfl rfl ?_
      refine WP.baload (n := 21) (v := .int ds[k]) dLE_20 B ⟨own_nn (by omega), by rw [z1', own_ltN (by omega) (by omega)]; omega⟩ (by rw [own_clamp (by omega)]; simp [List.getD_eq_getElem?_getD, kd]) rfl ?_
      refine WP.icmp_eq (n := 26) (n' := 24) dLE_21 (by decide) (by decide) rfl (fun b1 => ?_) (fun b1 => ?_)
      · refine WP.iinc (n := 29) (z := Int32.ofNat (k + 1)) (Ls' := #[.val (.ref b), .val (.ref c), .val (.int (Int32.ofNat (k + 1)))]) dLE_26 rfl (own_inc (by omega)) rfl rfl ?_
        refine WP.goto (n := 9) dLE_29 (by decide) (by decide) ?_
        refine ih (k + 1) (by omega) ?_
        rw [List.take_succ_eq_append_getElem kb, List.take_succ_eq_append_getElem kd, ht, b1]
      · refine WP.iconst (n := 25) (z := (0 : Int32)) dLE_24 rfl rfl ?_
        refine WP.retN dLE_25 rfl (Or.inl rfl) (by decide : nar .boolean 0 = 0) (by decide) (by decide) ⟨?_, rfl⟩
        rw [if_neg]
        intro e
        subst e
        exact b1 rfl
  refine WP.aloadN (n := 1) dLE_0 rfl rfl rfl ?_
  refine WP.alen (n := 2) dLE_1 A rfl ?_
  refine WP.aloadN (n := 3) dLE_2 rfl rfl rfl ?_
  refine WP.alen (n := 4) dLE_3 B rfl ?_
  refine WP.icmp_ne (n := 34) (n' := 7) dLE_4 (by decide) (by decide) rfl (fun b2 => ?_) (fun b2 => ?_)
  · refine WP.iconst (n := 35) (z := (0 : Int32)) dLE_34 rfl rfl ?_
    refine WP.retN dLE_35 rfl (Or.inl rfl) (by decide : nar .boolean 0 = 0) (by decide) (by decide) ⟨?_, rfl⟩
    rw [if_neg]
    intro e
    subst e
    exact b2 (z1.trans z1'.symm)
  · refine WP.iconst (n := 8) (z := (0 : Int32)) dLE_7 rfl rfl ?_
    refine WP.istoreN (n := 9) (Ls' := #[.val (.ref b), .val (.ref c), .val (.int (0 : Int32))]) dLE_8 rfl rfl ?_
    exact loop (by rw [← hz, ← hz', b2]) bs.length 0 (by omega) rfl
theorem dSE_0 : decode jdk_42_method_66_code 0 = .ok (.aload_n 0, 1) := by decide +kernel
theorem dSE_1 : decode jdk_42_method_66_code 1 = .ok (.aload_n 1, 1) := by decide +kernel
theorem dSE_2 : decode jdk_42_method_66_code 2 = .ok (.if_acmp .ne 5, 3) := by decide +kernel
theorem dSE_5 : decode jdk_42_method_66_code 5 = .ok (.iconst 1, 1) := by decide +kernel
theorem dSE_6 : decode jdk_42_method_66_code 6 = .ok (.ireturn, 1) := by decide +kernel
theorem dSE_7 : decode jdk_42_method_66_code 7 = .ok (.aload_n 1, 1) := by decide +kernel
theorem dSE_8 : decode jdk_42_method_66_code 8 = .ok (.instanceof 10, 3) := by decide +kernel
theorem dSE_11 : decode jdk_42_method_66_code 11 = .ok (.ifCond .eq 43, 3) := by decide +kernel
theorem dSE_14 : decode jdk_42_method_66_code 14 = .ok (.aload_n 1, 1) := by decide +kernel
theorem dSE_15 : decode jdk_42_method_66_code 15 = .ok (.checkcast 10, 3) := by decide +kernel
theorem dSE_18 : decode jdk_42_method_66_code 18 = .ok (.astore_n 2, 1) := by decide +kernel
theorem dSE_19 : decode jdk_42_method_66_code 19 = .ok (.getstatic 38, 3) := by decide +kernel
theorem dSE_22 : decode jdk_42_method_66_code 22 = .ok (.ifCond .eq 14, 3) := by decide +kernel
theorem dSE_25 : decode jdk_42_method_66_code 25 = .ok (.aload_n 0, 1) := by decide +kernel
theorem dSE_26 : decode jdk_42_method_66_code 26 = .ok (.getfield 15, 3) := by decide +kernel
theorem dSE_29 : decode jdk_42_method_66_code 29 = .ok (.aload_n 2, 1) := by decide +kernel
theorem dSE_30 : decode jdk_42_method_66_code 30 = .ok (.getfield 15, 3) := by decide +kernel
theorem dSE_33 : decode jdk_42_method_66_code 33 = .ok (.if_icmp .ne 21, 3) := by decide +kernel
theorem dSE_36 : decode jdk_42_method_66_code 36 = .ok (.aload_n 0, 1) := by decide +kernel
theorem dSE_37 : decode jdk_42_method_66_code 37 = .ok (.getfield 9, 3) := by decide +kernel
theorem dSE_40 : decode jdk_42_method_66_code 40 = .ok (.aload_n 2, 1) := by decide +kernel
theorem dSE_41 : decode jdk_42_method_66_code 41 = .ok (.getfield 9, 3) := by decide +kernel
theorem dSE_44 : decode jdk_42_method_66_code 44 = .ok (.invokestatic 541, 3) := by decide +kernel
theorem dSE_47 : decode jdk_42_method_66_code 47 = .ok (.ifCond .eq 7, 3) := by decide +kernel
theorem dSE_50 : decode jdk_42_method_66_code 50 = .ok (.iconst 1, 1) := by decide +kernel
theorem dSE_51 : decode jdk_42_method_66_code 51 = .ok (.goto 4, 3) := by decide +kernel
theorem dSE_54 : decode jdk_42_method_66_code 54 = .ok (.iconst 0, 1) := by decide +kernel
theorem dSE_55 : decode jdk_42_method_66_code 55 = .ok (.ireturn, 1) := by decide +kernel
set_option maxRecDepth 65536 in
set_option maxHeartbeats 40000000 in
theorem own_seq (l : Launch) (Z : State) (a0 : Array Value) (hw : ∀ d ∈ tables_1, d.before a0 Z = true) (EL : List (String × Nat)) (hEL : EW Z a0 EL) (h0 : Heap) (a b : Addr) (bs ds : List Int32) (A : Str Z h0 a bs) (B : Str Z h0 b ds) (cz : Int32) (O : Sta Z Z.heap "java/lang/String" "COMPACT_STRINGS" "Z" (.int cz)) (hO : ¬ cz = 0) :
    Con l Z EL false [] (⟨"java/lang/String", "equals", "(Ljava/lang/Object;)Z"⟩ : MethodName) jdk_42_method_66_code 3 (some .boolean) ({ frames := 1, cells := 0, slots := 0, locals := 14 } : Room) #[(.ref a), (.ref b)] h0 (fun v h' => v = some (.int (if bs = ds then 1 else 0)) ∧ h0 = h') := by
  refine Con.of (Ls := #[.val (.ref a), .val (.ref b), .unset]) (plainFor_of_name own_pn1) hEL (fun m => by first | (simp [entryFrame, mkF, argsToLocals, Value.category]; done) | rfl) ?_
  intro vm0 hZ0 hE0 hC0 hS0
  obtain ⟨f1, f2, ba, ka, za, f3, f4, f5⟩ := id A
  obtain ⟨g1, g2, bb, kb, zb, g3, g4, g5⟩ := id B
  have hza : ¬ za < 0 := by obtain ⟨_, _, _, _, q, _⟩ := f4; exact q
  have hzb : ¬ zb < 0 := by obtain ⟨_, _, _, _, q, _⟩ := g4; exact q
  refine WP.aloadN (n := 1) dSE_0 rfl rfl rfl ?_
  refine WP.aloadN (n := 2) dSE_1 rfl rfl rfl ?_
  by_cases hab : a = b
  · refine WP.acmpN (n' := 5) dSE_2 rfl rfl (own_ne_f (by rw [hab])) rfl ?_
    refine WP.iconst (n := 6) (z := (1 : Int32)) dSE_5 rfl rfl ?_
    exact WP.retN dSE_6 rfl (Or.inl rfl) (by decide : nar .boolean 1 = 1) (by decide) (by decide) ⟨by subst hab; rw [if_pos (A.inj B)], rfl⟩
  · refine WP.acmpY (n := 7) dSE_2 rfl rfl (own_ne_t (fun h => hab (by injection h))) (by decide) (by decide) ?_
    refine WP.aloadN (n := 8) dSE_7 rfl rfl rfl ?_
    refine WP.instY (n := 11) dSE_8 (hw _ (List.mem_of_getElem? (i := 84) rfl)) (Ins.self g1) rfl ?_
    refine WP.ifcN (n' := 14) dSE_11 (by decide) rfl ?_
    refine WP.aloadN (n := 15) dSE_14 rfl rfl rfl ?_
    refine WP.castY (n := 18) dSE_15 (hw _ (List.mem_of_getElem? (i := 84) rfl)) (Ins.self g1) rfl ?_
    refine WP.astoreN (n := 19) (Ls' := #[.val (.ref a), .val (.ref b), .val (.ref b)]) dSE_18 rfl rfl rfl ?_
    refine WP.getSZ (n := 22) dSE_19 (hw _ (List.mem_of_getElem? (i := 29) rfl)) Via.refl O rfl ?_
    refine WP.ifcN (n' := 25) dSE_22 ((if0 _ _).trans (feq hO).1) rfl ?_
    refine WP.aloadN (n := 26) dSE_25 rfl rfl rfl ?_
    refine WP.getF (n := 29) (host := "") dSE_26 (Or.inl (hw _ (List.mem_of_getElem? (i := 41) rfl))) Via.refl f2 rfl ?_
    refine WP.aloadN (n := 30) dSE_29 rfl rfl rfl ?_
    refine WP.getF (n := 33) (host := "") dSE_30 (Or.inl (hw _ (List.mem_of_getElem? (i := 41) rfl))) Via.refl g2 rfl ?_
    refine WP.icmpN (n' := 36) dSE_33 (by decide) rfl ?_
    refine WP.aloadN (n := 37) dSE_36 rfl rfl rfl ?_
    refine WP.getF (n := 40) (host := "") dSE_37 (Or.inl (hw _ (List.mem_of_getElem? (i := 43) rfl))) Via.refl f3 rfl ?_
    refine WP.aloadN (n := 41) dSE_40 rfl rfl rfl ?_
    refine WP.getF (n := 44) (host := "") dSE_41 (Or.inl (hw _ (List.mem_of_getElem? (i := 43) rfl))) Via.refl g3 rfl ?_
    refine WP.callS (n := 47) (ce' := 0) (sl' := 0) (Wd := 0) (argsL := [(.ref ba), (.ref bb)]) (rest := []) (own_leq l Z a0 hw EL hEL h0 ba bb ka kb za zb bs ds f4 g4 hza f5 hzb g5) dSE_44 (hw _ (List.mem_of_getElem? (i := 85) rfl)) (hw _ (List.mem_of_getElem? (i := 86) rfl)) (hw _ (List.mem_of_getElem? (i := 87) rfl)) (hw _ (List.mem_of_getElem? (i := 88) rfl)) (by decide) (fun _ q => nomatch q) (by decide) (by decide) rfl rfl (by decide) (by decide) rfl rfl (lenOf own_pd0 rfl) rfl (Nat.le_of_eq rfl) rfl (fun v3 vm3 h3 q3 r3 => ?_)
    obtain ⟨rfl, rfl⟩ := q3
    by_cases hbd : bs = ds
    · rw [if_pos hbd]
      refine WP.ifcN (n' := 50) dSE_47 (by decide) rfl ?_
      refine WP.iconst (n := 51) (z := (1 : Int32)) dSE_50 rfl rfl ?_
      refine WP.goto (n := 55) dSE_51 (by decide) (by decide) ?_
      exact WP.retN dSE_55 rfl (Or.inl rfl) (by decide : nar .boolean 1 = 1) (by decide) (by decide) ⟨by first | rfl | rw [if_pos hbd], rfl⟩
    · rw [if_neg hbd]
      refine WP.ifcY (n := 54) dSE_47 (by decide) (by decide) (by decide) ?_
      refine WP.iconst (n := 55) (z := (0 : Int32)) dSE_54 rfl rfl ?_
      exact WP.retN dSE_55 rfl (Or.inl rfl) (by decide : nar .boolean 0 = 0) (by decide) (by decide) ⟨by first | rfl | rw [if_neg hbd], rfl⟩
theorem dS4_0 : decode jdk_42_method_149_code 0 = .ok (.aload_n 0, 1) := by decide +kernel
theorem dS4_1 : decode jdk_42_method_149_code 1 = .ok (.invokespecial 1, 3) := by decide +kernel
theorem dS4_4 : decode jdk_42_method_149_code 4 = .ok (.iload_n 3, 1) := by decide +kernel
theorem dS4_5 : decode jdk_42_method_149_code 5 = .ok (.ifCond .ne 22, 3) := by decide +kernel
theorem dS4_8 : decode jdk_42_method_149_code 8 = .ok (.aload_n 0, 1) := by decide +kernel
theorem dS4_9 : decode jdk_42_method_149_code 9 = .ok (.ldc 7, 2) := by decide +kernel
theorem dS4_11 : decode jdk_42_method_149_code 11 = .ok (.getfield 9, 3) := by decide +kernel
theorem dS4_14 : decode jdk_42_method_149_code 14 = .ok (.putfield 9, 3) := by decide +kernel
theorem dS4_17 : decode jdk_42_method_149_code 17 = .ok (.aload_n 0, 1) := by decide +kernel
theorem dS4_18 : decode jdk_42_method_149_code 18 = .ok (.ldc 7, 2) := by decide +kernel
theorem dS4_20 : decode jdk_42_method_149_code 20 = .ok (.getfield 15, 3) := by decide +kernel
theorem dS4_23 : decode jdk_42_method_149_code 23 = .ok (.putfield 15, 3) := by decide +kernel
theorem dS4_26 : decode jdk_42_method_149_code 26 = .ok (.return_, 1) := by decide +kernel
theorem dS4_27 : decode jdk_42_method_149_code 27 = .ok (.getstatic 38, 3) := by decide +kernel
theorem dS4_30 : decode jdk_42_method_149_code 30 = .ok (.ifCond .eq 28, 3) := by decide +kernel
theorem dS4_33 : decode jdk_42_method_149_code 33 = .ok (.aload_n 1, 1) := by decide +kernel
theorem dS4_34 : decode jdk_42_method_149_code 34 = .ok (.iload_n 2, 1) := by decide +kernel
theorem dS4_35 : decode jdk_42_method_149_code 35 = .ok (.iload_n 3, 1) := by decide +kernel
theorem dS4_36 : decode jdk_42_method_149_code 36 = .ok (.invokestatic 177, 3) := by decide +kernel
theorem dS4_39 : decode jdk_42_method_149_code 39 = .ok (.astore 5, 2) := by decide +kernel
theorem dS4_41 : decode jdk_42_method_149_code 41 = .ok (.aload_n 0, 1) := by decide +kernel
theorem dS4_42 : decode jdk_42_method_149_code 42 = .ok (.aload 5, 2) := by decide +kernel
theorem dS4_44 : decode jdk_42_method_149_code 44 = .ok (.iload_n 3, 1) := by decide +kernel
theorem dS4_45 : decode jdk_42_method_149_code 45 = .ok (.invokestatic 47, 3) := by decide +kernel
theorem dS4_48 : decode jdk_42_method_149_code 48 = .ok (.putfield 15, 3) := by decide +kernel
theorem dS4_51 : decode jdk_42_method_149_code 51 = .ok (.aload_n 0, 1) := by decide +kernel
theorem dS4_52 : decode jdk_42_method_149_code 52 = .ok (.aload 5, 2) := by decide +kernel
theorem dS4_54 : decode jdk_42_method_149_code 54 = .ok (.putfield 9, 3) := by decide +kernel
theorem dS4_57 : decode jdk_42_method_149_code 57 = .ok (.return_, 1) := by decide +kernel
theorem dS4_58 : decode jdk_42_method_149_code 58 = .ok (.aload_n 0, 1) := by decide +kernel
theorem dS4_59 : decode jdk_42_method_149_code 59 = .ok (.iconst 1, 1) := by decide +kernel
theorem dS4_60 : decode jdk_42_method_149_code 60 = .ok (.putfield 15, 3) := by decide +kernel
theorem dS4_63 : decode jdk_42_method_149_code 63 = .ok (.aload_n 0, 1) := by decide +kernel
theorem dS4_64 : decode jdk_42_method_149_code 64 = .ok (.aload_n 1, 1) := by decide +kernel
theorem dS4_65 : decode jdk_42_method_149_code 65 = .ok (.iload_n 2, 1) := by decide +kernel
theorem dS4_66 : decode jdk_42_method_149_code 66 = .ok (.iload_n 3, 1) := by decide +kernel
theorem dS4_67 : decode jdk_42_method_149_code 67 = .ok (.invokestatic 180, 3) := by decide +kernel
theorem dS4_70 : decode jdk_42_method_149_code 70 = .ok (.putfield 9, 3) := by decide +kernel
theorem dS4_73 : decode jdk_42_method_149_code 73 = .ok (.return_, 1) := by decide +kernel
set_option maxRecDepth 65536 in
set_option maxHeartbeats 40000000 in
theorem own_si4 (l : Launch) (Z : State) (a0 : Array Value) (hw : ∀ d ∈ tables_1, d.before a0 Z = true) (EL : List (String × Nat)) (hEL : EW Z a0 EL) (h0 : Heap) (a b : Addr) (v0 c0 : Value) (hN : Z.heap.size ≤ a) (hA : Exa Z h0 a "java/lang/String") (hV : Fld Z h0 a "java/lang/String" "value" "[B" v0) (hK : Fld Z h0 a "java/lang/String" "coder" "B" c0) (hm : ("java/lang/String", 7) ∈ EL) :
    Con l Z EL false [a] (⟨"java/lang/String", "<init>", "([CIILjava/lang/Void;)V"⟩ : MethodName) jdk_42_method_149_code 6 none ({ frames := 1, cells := 2, slots := 4, locals := 12 } : Room) #[(.ref a), (.ref b), (.int (0 : Int32)), (.int (0 : Int32)), .null] h0 (fun v h' => v = none ∧ Keep h0 h' [a] ∧ Str Z h' a []) := by
  have wS : ∀ a ∈ Bundle.stringAtoms, a.before a0 Z = true := fun d hd => hw d ((by decide +kernel : ∀ d ∈ Bundle.stringAtoms, d ∈ tables_1) d hd)
  refine Con.of (Ls := #[.val (.ref a), .val (.ref b), .val (.int (0 : Int32)), .val (.int (0 : Int32)), .val .null, .unset]) (plainFor_of_name own_pn1) hEL (fun m => by first | (simp [entryFrame, mkF, argsToLocals, Value.category]; done) | rfl) ?_
  intro vm0 hZ0 hE0 hC0 hS0
  refine WP.aloadN (n := 1) dS4_0 rfl rfl rfl ?_
  refine WP.initO (n := 4) (Wd := 0) dS4_1 (hw _ (List.mem_of_getElem? (i := 26) rfl)) (hw _ (List.mem_of_getElem? (i := 27) rfl)) (hw _ (List.mem_of_getElem? (i := 28) rfl)) rfl (by decide) (Nat.le_of_eq rfl) (by decide) rfl ?_
  refine WP.iloadN (n := 5) dS4_4 rfl rfl ?_
  refine WP.ifcN (n' := 8) dS4_5 (by decide) rfl ?_
  refine WP.aloadN (n := 9) dS4_8 rfl rfl rfl ?_
  refine WP.ldcC (n := 11) (nn := 0) (ce' := 2) (sl' := 4) (vs := []) (z := 0) dS4_9 rfl (hw _ (List.mem_of_getElem? (i := 45) rfl)) wS hm ⟨by decide, rfl⟩ (by decide) rfl (by decide) (by decide) rfl rfl (by decide) (by decide) hEL rfl (fun a4 b4 k4 vm4 h4 E4 r4 X4 C4 V4 B4 L4 N4 => ?_)
  have S4 := r4.safe hA.lt (hS0 a (List.mem_cons_self ..))
  refine WP.getF (n := 14) (host := "") dS4_11 (Or.inl (hw _ (List.mem_of_getElem? (i := 43) rfl))) Via.refl V4 rfl ?_
  refine WP.putF (n := 17) (host := "") (ty := (.array .byte)) dS4_14 (Or.inl (hw _ (List.mem_of_getElem? (i := 43) rfl))) Via.refl (hV.ext E4) (hA.ext E4) (Or.inr ⟨(hw _ (List.mem_of_getElem? (i := 44) rfl)), rfl, rfl⟩) (hw _ (List.mem_of_getElem? (i := 16) rfl)) (by decide) rfl rfl hN S4 rfl (fun h5 W5 r5 => ?_)
  have A5 := (hA.ext E4).wr W5
  have K5 := ((Keep.refl h0 [a]).ext E4).wr W5 (Or.inl (List.mem_cons_self ..))
  have F5_value := (hV.ext E4).same W5
  have F5_coder := (hK.ext E4).other W5 (Or.inr (slot_ne (t := .byte) (t' := (.array .byte)) (Or.inr (hw _ (List.mem_of_getElem? (i := 42) rfl))) (Or.inr (hw _ (List.mem_of_getElem? (i := 44) rfl))) (by decide) (by decide) (by decide)))
  have C5 := C4.other W5 (Or.inl (Ne.symm (N4 a S4).1))
  have B5 := B4.other W5 (Ne.symm (N4 a S4).2)
  refine WP.inv fun hZ5 hE5 hC5 => ?_
  have S5 := r5.safe (Nat.lt_of_lt_of_le hA.lt r4.2.1) S4
  refine WP.aloadN (n := 18) dS4_17 rfl rfl rfl ?_
  refine WP.ldcA (n := 20) dS4_18 (hw _ (List.mem_of_getElem? (i := 45) rfl)) L4 rfl ?_
  refine WP.getF (n := 23) (host := "") dS4_20 (Or.inl (hw _ (List.mem_of_getElem? (i := 41) rfl))) Via.refl C5 rfl ?_
  refine WP.putF (n := 26) (host := "") (ty := .byte) dS4_23 (Or.inl (hw _ (List.mem_of_getElem? (i := 41) rfl))) Via.refl F5_coder A5 (Or.inr ⟨(hw _ (List.mem_of_getElem? (i := 42) rfl)), rfl, rfl⟩) (hw _ (List.mem_of_getElem? (i := 16) rfl)) (by decide) rfl (by decide) hN S5 rfl (fun h6 W6 r6 => ?_)
  have A6 := A5.wr W6
  have K6 := K5.wr W6 (Or.inl (List.mem_cons_self ..))
  have F6_coder := F5_coder.same W6
  have F6_value := F5_value.other W6 (Or.inr (slot_ne (t := (.array .byte)) (t' := .byte) (Or.inr (hw _ (List.mem_of_getElem? (i := 44) rfl))) (Or.inr (hw _ (List.mem_of_getElem? (i := 42) rfl))) (by decide) (by decide) (by decide)))
  have B6 := B5.other W6 (Ne.symm (N4 a S4).2)
  refine WP.retV dS4_26 rfl (by decide) (by decide) ?_
  exact ⟨rfl, K6, A6, F6_coder, b4, k4, 0, F6_value, B6, rfl⟩
theorem dS1_0 : decode jdk_42_method_3_code 0 = .ok (.aload_n 0, 1) := by decide +kernel
theorem dS1_1 : decode jdk_42_method_3_code 1 = .ok (.aload_n 1, 1) := by decide +kernel
theorem dS1_2 : decode jdk_42_method_3_code 2 = .ok (.iconst 0, 1) := by decide +kernel
theorem dS1_3 : decode jdk_42_method_3_code 3 = .ok (.aload_n 1, 1) := by decide +kernel
theorem dS1_4 : decode jdk_42_method_3_code 4 = .ok (.arraylength, 1) := by decide +kernel
theorem dS1_5 : decode jdk_42_method_3_code 5 = .ok (.aconst_null, 1) := by decide +kernel
theorem dS1_6 : decode jdk_42_method_3_code 6 = .ok (.invokespecial 27, 3) := by decide +kernel
theorem dS1_9 : decode jdk_42_method_3_code 9 = .ok (.return_, 1) := by decide +kernel
set_option maxRecDepth 65536 in
set_option maxHeartbeats 40000000 in
theorem own_si1 (l : Launch) (Z : State) (a0 : Array Value) (hw : ∀ d ∈ tables_1, d.before a0 Z = true) (EL : List (String × Nat)) (hEL : EW Z a0 EL) (h0 : Heap) (a b : Addr) (v0 c0 : Value) (hN : Z.heap.size ≤ a) (hA : Exa Z h0 a "java/lang/String") (hV : Fld Z h0 a "java/lang/String" "value" "[B" v0) (hK : Fld Z h0 a "java/lang/String" "coder" "B" c0) (kb : ClassId) (dv : Value) (hB : Arv Z h0 b kb .char 0 [] dv) (hm : ("java/lang/String", 7) ∈ EL) :
    Con l Z EL false [a] (⟨"java/lang/String", "<init>", "([C)V"⟩ : MethodName) jdk_42_method_3_code 2 none ({ frames := 2, cells := 2, slots := 4, locals := 29 } : Room) #[(.ref a), (.ref b)] h0 (fun v h' => v = none ∧ Keep h0 h' [a] ∧ Str Z h' a []) := by
  refine Con.of (Ls := #[.val (.ref a), .val (.ref b)]) (plainFor_of_name own_pn1) hEL (fun m => by first | (simp [entryFrame, mkF, argsToLocals, Value.category]; done) | rfl) ?_
  intro vm0 hZ0 hE0 hC0 hS0
  refine WP.aloadN (n := 1) dS1_0 rfl rfl rfl ?_
  refine WP.aloadN (n := 2) dS1_1 rfl rfl rfl ?_
  refine WP.iconst (n := 3) (z := (0 : Int32)) dS1_2 rfl rfl ?_
  refine WP.aloadN (n := 4) dS1_3 rfl rfl rfl ?_
  refine WP.alen (n := 5) dS1_4 hB rfl ?_
  refine WP.aconstNull (n := 6) dS1_5  rfl ?_
  refine WP.callP (n := 9) (ce' := 2) (sl' := 4) (Wd := 0) (a := a) (argsL := [(.ref b), (.int (0 : Int32)), (.int (0 : Int32)), .null]) (rest := []) (own_si4 l Z a0 hw EL hEL h0 a b v0 c0 hN hA hV hK hm) dS1_6 rfl (hw _ (List.mem_of_getElem? (i := 22) rfl)) (hw _ (List.mem_of_getElem? (i := 23) rfl)) (hw _ (List.mem_of_getElem? (i := 17) rfl)) (hw _ (List.mem_of_getElem? (i := 25) rfl)) (by decide) (fun y q => by cases List.mem_singleton.mp q; exact ⟨hS0 a (List.mem_cons_self ..), hA.lt⟩) (by decide) (by decide) rfl rfl (by decide) (by decide) rfl rfl (lenOf own_pd1 rfl) rfl (Nat.le_of_eq rfl) rfl (fun v7 vm7 h7 q7 r7 => ?_)
  obtain ⟨rfl, K7, F7⟩ := q7
  refine WP.retV dS1_9 rfl (by decide) (by decide) ?_
  exact ⟨rfl, K7, F7⟩
theorem dCE_0 : decode jdk_43_method_3_code 0 = .ok (.iload_n 0, 1) := by decide +kernel
theorem dCE_1 : decode jdk_43_method_3_code 1 = .ok (.sipush 255, 3) := by decide +kernel
theorem dCE_4 : decode jdk_43_method_3_code 4 = .ok (.if_icmp .gt 7, 3) := by decide +kernel
theorem dCE_7 : decode jdk_43_method_3_code 7 = .ok (.iconst 1, 1) := by decide +kernel
theorem dCE_8 : decode jdk_43_method_3_code 8 = .ok (.goto 4, 3) := by decide +kernel
theorem dCE_11 : decode jdk_43_method_3_code 11 = .ok (.iconst 0, 1) := by decide +kernel
theorem dCE_12 : decode jdk_43_method_3_code 12 = .ok (.ireturn, 1) := by decide +kernel
set_option maxRecDepth 65536 in
set_option maxHeartbeats 40000000 in
theorem own_ce (l : Launch) (Z : State) (a0 : Array Value) (hw : ∀ d ∈ tables_1, d.before a0 Z = true) (EL : List (String × Nat)) (hEL : EW Z a0 EL) (h0 : Heap) (c : Int32) (hc : ¬ (255 : Int32) < c) :
    Con l Z EL false [] (⟨"java/lang/StringLatin1", "canEncode", "(C)Z"⟩ : MethodName) jdk_43_method_3_code 1 (some .boolean) ({ frames := 0, cells := 0, slots := 0, locals := 0 } : Room) #[(.int c)] h0 (fun v h' => v = some (.int 1) ∧ h0 = h') := by
  refine Con.of (Ls := #[.val (.int c)]) (plainFor_of_name own_pn0) hEL (fun m => by first | (simp [entryFrame, mkF, argsToLocals, Value.category]; done) | rfl) ?_
  intro vm0 hZ0 hE0 hC0 hS0
  refine WP.iloadN (n := 1) dCE_0 rfl rfl ?_
  refine WP.sipush (n := 4) (z := (255 : Int32)) dCE_1 (by decide) rfl ?_
  refine WP.icmp_gt (n := 11) (n' := 7) dCE_4 (by decide) (by decide) rfl (fun b8 => ?_) (fun b8 => ?_)
  · exact absurd b8 hc
  · refine WP.iconst (n := 8) (z := (1 : Int32)) dCE_7 rfl rfl ?_
    refine WP.goto (n := 12) dCE_8 (by decide) (by decide) ?_
    exact WP.retN dCE_12 rfl (Or.inl rfl) (by decide : nar .boolean 1 = 1) (by decide) (by decide) ⟨rfl, rfl⟩
theorem own_b8 (c : Int32) : nar .byte c.toInt8.toInt32 = c.toInt8.toInt32 := by
  show c.toInt8.toInt32.toInt8.toInt32 = c.toInt8.toInt32
  have h1 := c_i2b c
  have h2 := c_i2b c.toInt8.toInt32
  rw [← Int32.toInt_inj]; omega
theorem dTB_0 : decode jdk_43_method_46_code 0 = .ok (.iconst 1, 1) := by decide +kernel
theorem dTB_1 : decode jdk_43_method_46_code 1 = .ok (.newarray .byte, 2) := by decide +kernel
theorem dTB_3 : decode jdk_43_method_46_code 3 = .ok (.dup, 1) := by decide +kernel
theorem dTB_4 : decode jdk_43_method_46_code 4 = .ok (.iconst 0, 1) := by decide +kernel
theorem dTB_5 : decode jdk_43_method_46_code 5 = .ok (.iload_n 0, 1) := by decide +kernel
theorem dTB_6 : decode jdk_43_method_46_code 6 = .ok (.i2b, 1) := by decide +kernel
theorem dTB_7 : decode jdk_43_method_46_code 7 = .ok (.bastore, 1) := by decide +kernel
theorem dTB_8 : decode jdk_43_method_46_code 8 = .ok (.areturn, 1) := by decide +kernel
set_option maxRecDepth 65536 in
set_option maxHeartbeats 40000000 in
theorem own_tb (l : Launch) (Z : State) (a0 : Array Value) (hw : ∀ d ∈ tables_1, d.before a0 Z = true) (EL : List (String × Nat)) (hEL : EW Z a0 EL) (h0 : Heap) (c : Int32) :
    Con l Z EL false [] (⟨"java/lang/StringLatin1", "toBytes", "(C)[B"⟩ : MethodName) jdk_43_method_46_code 1 (some (.array .byte)) ({ frames := 0, cells := 1, slots := 1, locals := 0 } : Room) #[(.int c)] h0 (fun v h' => ∃ b kb, v = some (.ref b) ∧ Arv Z h' b kb .byte 1 [.int c.toInt8.toInt32] (.int 0) ∧ Ext h0 h') := by
  refine Con.of (Ls := #[.val (.int c)]) (plainFor_of_name own_pn0) hEL (fun m => by first | (simp [entryFrame, mkF, argsToLocals, Value.category]; done) | rfl) ?_
  intro vm0 hZ0 hE0 hC0 hS0
  refine WP.iconst (n := 1) (z := (1 : Int32)) dTB_0 rfl rfl ?_
  refine WP.newP (n := 3) (ce' := 1) (sl' := 1) (cap := 1) (ty := .byte) dTB_1 (hw _ (List.mem_of_getElem? (i := 34) rfl)) rfl (by decide) (by decide) (by decide) rfl rfl (by decide) (by decide) rfl (fun a9 h9 k9 g9 E9 V9 S9 N9 r9 => ?_)
  have V9' : Arv Z h9 a9 k9 .byte (1 : Int32) [.int 0] (.int 0) := V9.pad (pad_rep [] (.int 0) 1)
  refine WP.dup (n := 4) dTB_3 rfl rfl ?_
  refine WP.iconst (n := 5) (z := (0 : Int32)) dTB_4 rfl rfl ?_
  refine WP.iloadN (n := 6) dTB_5 rfl rfl ?_
  refine WP.i2b (n := 7) dTB_6  rfl ?_
  refine WP.stB (n := 8) (i := 0) (y := c.toInt8.toInt32) dTB_7 V9' (by decide) rfl (by decide) (own_b8 c) N9 S9 rfl (fun h10 W10 V10 r10 => ?_)
  exact WP.retA dTB_8 rfl rfl rfl rfl (by decide) (by decide) ⟨_, _, rfl, V10, (ext_wr E9 W10 (Nat.le_of_eq g9.symm))⟩
theorem dSB_0 : decode jdk_42_method_151_code 0 = .ok (.aload_n 0, 1) := by decide +kernel
theorem dSB_1 : decode jdk_42_method_151_code 1 = .ok (.invokespecial 1, 3) := by decide +kernel
theorem dSB_4 : decode jdk_42_method_151_code 4 = .ok (.aload_n 0, 1) := by decide +kernel
theorem dSB_5 : decode jdk_42_method_151_code 5 = .ok (.aload_n 1, 1) := by decide +kernel
theorem dSB_6 : decode jdk_42_method_151_code 6 = .ok (.putfield 9, 3) := by decide +kernel
theorem dSB_9 : decode jdk_42_method_151_code 9 = .ok (.aload_n 0, 1) := by decide +kernel
theorem dSB_10 : decode jdk_42_method_151_code 10 = .ok (.iload_n 2, 1) := by decide +kernel
theorem dSB_11 : decode jdk_42_method_151_code 11 = .ok (.putfield 15, 3) := by decide +kernel
theorem dSB_14 : decode jdk_42_method_151_code 14 = .ok (.return_, 1) := by decide +kernel
set_option maxRecDepth 65536 in
set_option maxHeartbeats 40000000 in
theorem own_sb (l : Launch) (Z : State) (a0 : Array Value) (hw : ∀ d ∈ tables_1, d.before a0 Z = true) (EL : List (String × Nat)) (hEL : EW Z a0 EL) (h0 : Heap) (a b : Addr) (v0 c0 : Value) (hN : Z.heap.size ≤ a) (hA : Exa Z h0 a "java/lang/String") (hV : Fld Z h0 a "java/lang/String" "value" "[B" v0) (hK : Fld Z h0 a "java/lang/String" "coder" "B" c0) :
    Con l Z EL false [a] (⟨"java/lang/String", "<init>", "([BB)V"⟩ : MethodName) jdk_42_method_151_code 3 none ({ frames := 1, cells := 0, slots := 0, locals := 12 } : Room) #[(.ref a), (.ref b), (.int (0 : Int32))] h0 (fun v h' => v = none ∧ Keep h0 h' [a] ∧ Exa Z h' a "java/lang/String" ∧ Fld Z h' a "java/lang/String" "value" "[B" (.ref b) ∧ Fld Z h' a "java/lang/String" "coder" "B" (.int 0)) := by
  refine Con.of (Ls := #[.val (.ref a), .val (.ref b), .val (.int (0 : Int32))]) (plainFor_of_name own_pn1) hEL (fun m => by first | (simp [entryFrame, mkF, argsToLocals, Value.category]; done) | rfl) ?_
  intro vm0 hZ0 hE0 hC0 hS0
  refine WP.aloadN (n := 1) dSB_0 rfl rfl rfl ?_
  refine WP.initO (n := 4) (Wd := 0) dSB_1 (hw _ (List.mem_of_getElem? (i := 26) rfl)) (hw _ (List.mem_of_getElem? (i := 27) rfl)) (hw _ (List.mem_of_getElem? (i := 28) rfl)) rfl (by decide) (Nat.le_of_eq rfl) (by decide) rfl ?_
  refine WP.aloadN (n := 5) dSB_4 rfl rfl rfl ?_
  refine WP.aloadN (n := 6) dSB_5 rfl rfl rfl ?_
  refine WP.putF (n := 9) (host := "") (ty := (.array .byte)) dSB_6 (Or.inl (hw _ (List.mem_of_getElem? (i := 43) rfl))) Via.refl hV hA (Or.inr ⟨(hw _ (List.mem_of_getElem? (i := 44) rfl)), rfl, rfl⟩) (hw _ (List.mem_of_getElem? (i := 16) rfl)) (by decide) rfl rfl hN (hS0 a (List.mem_cons_self ..)) rfl (fun h11 W11 r11 => ?_)
  have A11 := hA.wr W11
  have K11 := (Keep.refl h0 [a]).wr W11 (Or.inl (List.mem_cons_self ..))
  have F11_value := hV.same W11
  have F11_coder := hK.other W11 (Or.inr (slot_ne (t := .byte) (t' := (.array .byte)) (Or.inr (hw _ (List.mem_of_getElem? (i := 42) rfl))) (Or.inr (hw _ (List.mem_of_getElem? (i := 44) rfl))) (by decide) (by decide) (by decide)))
  have S11 := r11.safe hA.lt (hS0 a (List.mem_cons_self ..))
  refine WP.aloadN (n := 10) dSB_9 rfl rfl rfl ?_
  refine WP.iloadN (n := 11) dSB_10 rfl rfl ?_
  refine WP.putF (n := 14) (host := "") (ty := .byte) dSB_11 (Or.inl (hw _ (List.mem_of_getElem? (i := 41) rfl))) Via.refl F11_coder A11 (Or.inr ⟨(hw _ (List.mem_of_getElem? (i := 42) rfl)), rfl, rfl⟩) (hw _ (List.mem_of_getElem? (i := 16) rfl)) (by decide) rfl (by decide) hN S11 rfl (fun h12 W12 r12 => ?_)
  have A12 := A11.wr W12
  have K12 := K11.wr W12 (Or.inl (List.mem_cons_self ..))
  have F12_coder := F11_coder.same W12
  have F12_value := F11_value.other W12 (Or.inr (slot_ne (t := (.array .byte)) (t' := .byte) (Or.inr (hw _ (List.mem_of_getElem? (i := 44) rfl))) (Or.inr (hw _ (List.mem_of_getElem? (i := 42) rfl))) (by decide) (by decide) (by decide)))
  refine WP.retV dSB_14 rfl (by decide) (by decide) ?_
  exact ⟨rfl, K12, A12, F12_value, F12_coder⟩
theorem dVO_0 : decode jdk_42_method_139_code 0 = .ok (.getstatic 38, 3) := by decide +kernel
theorem dVO_3 : decode jdk_42_method_139_code 3 = .ok (.ifCond .eq 23, 3) := by decide +kernel
theorem dVO_6 : decode jdk_42_method_139_code 6 = .ok (.iload_n 0, 1) := by decide +kernel
theorem dVO_7 : decode jdk_42_method_139_code 7 = .ok (.invokestatic 1015, 3) := by decide +kernel
theorem dVO_10 : decode jdk_42_method_139_code 10 = .ok (.ifCond .eq 16, 3) := by decide +kernel
theorem dVO_13 : decode jdk_42_method_139_code 13 = .ok (.new 10, 3) := by decide +kernel
theorem dVO_16 : decode jdk_42_method_139_code 16 = .ok (.dup, 1) := by decide +kernel
theorem dVO_17 : decode jdk_42_method_139_code 17 = .ok (.iload_n 0, 1) := by decide +kernel
theorem dVO_18 : decode jdk_42_method_139_code 18 = .ok (.invokestatic 1018, 3) := by decide +kernel
theorem dVO_21 : decode jdk_42_method_139_code 21 = .ok (.iconst 0, 1) := by decide +kernel
theorem dVO_22 : decode jdk_42_method_139_code 22 = .ok (.invokespecial 209, 3) := by decide +kernel
theorem dVO_25 : decode jdk_42_method_139_code 25 = .ok (.areturn, 1) := by decide +kernel
theorem dVO_26 : decode jdk_42_method_139_code 26 = .ok (.new 10, 3) := by decide +kernel
theorem dVO_29 : decode jdk_42_method_139_code 29 = .ok (.dup, 1) := by decide +kernel
theorem dVO_30 : decode jdk_42_method_139_code 30 = .ok (.iload_n 0, 1) := by decide +kernel
theorem dVO_31 : decode jdk_42_method_139_code 31 = .ok (.invokestatic 1021, 3) := by decide +kernel
theorem dVO_34 : decode jdk_42_method_139_code 34 = .ok (.iconst 1, 1) := by decide +kernel
theorem dVO_35 : decode jdk_42_method_139_code 35 = .ok (.invokespecial 209, 3) := by decide +kernel
theorem dVO_38 : decode jdk_42_method_139_code 38 = .ok (.areturn, 1) := by decide +kernel
set_option maxRecDepth 65536 in
set_option maxHeartbeats 40000000 in
theorem own_vo (l : Launch) (Z : State) (a0 : Array Value) (hw : ∀ d ∈ tables_1, d.before a0 Z = true) (EL : List (String × Nat)) (hEL : EW Z a0 EL) (h0 : Heap) (c : Int32) (hc : ¬ (255 : Int32) < c) (cz : Int32) (O : Sta Z Z.heap "java/lang/String" "COMPACT_STRINGS" "Z" (.int cz)) (hO : ¬ cz = 0) :
    Con l Z EL false [] (⟨"java/lang/String", "valueOf", "(C)Ljava/lang/String;"⟩ : MethodName) jdk_42_method_139_code 1 (some (.object "java/lang/String")) ({ frames := 2, cells := 2, slots := 5, locals := 27 } : Room) #[(.int c)] h0 (fun v h' => ∃ a, v = some (.ref a) ∧ Str Z h' a [c.toInt8.toInt32] ∧ Ext h0 h') := by
  refine Con.of (Ls := #[.val (.int c)]) (plainFor_of_name own_pn1) hEL (fun m => by first | (simp [entryFrame, mkF, argsToLocals, Value.category]; done) | rfl) ?_
  intro vm0 hZ0 hE0 hC0 hS0
  refine WP.getSZ (n := 3) dVO_0 (hw _ (List.mem_of_getElem? (i := 29) rfl)) Via.refl O rfl ?_
  refine WP.ifcN (n' := 6) dVO_3 ((if0 _ _).trans (feq hO).1) rfl ?_
  refine WP.iloadN (n := 7) dVO_6 rfl rfl ?_
  refine WP.callS (n := 10) (ce' := 0) (sl' := 0) (Wd := 0) (argsL := [(.int c)]) (rest := []) (own_ce l Z a0 hw EL hEL h0 c hc) dVO_7 (hw _ (List.mem_of_getElem? (i := 92) rfl)) (hw _ (List.mem_of_getElem? (i := 93) rfl)) (hw _ (List.mem_of_getElem? (i := 87) rfl)) (hw _ (List.mem_of_getElem? (i := 94) rfl)) (by decide) (fun _ q => nomatch q) (by decide) (by decide) rfl rfl (by decide) (by decide) rfl rfl (lenOf own_pd2 rfl) rfl (Nat.le_of_eq rfl) rfl (fun v13 vm13 h13 q13 r13 => ?_)
  obtain ⟨rfl, rfl⟩ := q13
  refine WP.ifcN (n' := 13) dVO_10 (by decide) rfl ?_
  refine WP.new (n := 16) (ce' := 1) (sl' := 4) dVO_13 (hw _ (List.mem_of_getElem? (i := 84) rfl)) (hw _ (List.mem_of_getElem? (i := 16) rfl)) (hw _ (List.mem_of_getElem? (i := 17) rfl)) rfl rfl (by decide) (by decide) rfl (fun a14 h14 g14 E14 A14 D14 S14 N14 r14 => ?_)
  refine WP.dup (n := 17) dVO_16 rfl rfl ?_
  refine WP.iloadN (n := 18) dVO_17 rfl rfl ?_
  refine WP.callS (n := 21) (ce' := 2) (sl' := 5) (Wd := 2) (argsL := [(.int c)]) (rest := [(.ref a14), (.ref a14)]) (own_tb l Z a0 hw EL hEL h14 c) dVO_18 (hw _ (List.mem_of_getElem? (i := 95) rfl)) (hw _ (List.mem_of_getElem? (i := 96) rfl)) (hw _ (List.mem_of_getElem? (i := 87) rfl)) (hw _ (List.mem_of_getElem? (i := 97) rfl)) (by decide) (fun _ q => nomatch q) (by decide) (by decide) rfl rfl (by decide) (by decide) rfl rfl (lenOf own_pd3 rfl) rfl (Nat.le_of_eq rfl) rfl (fun v15 vm15 h15 q15 r15 => ?_)
  obtain ⟨b15, k15, rfl, V15, E15⟩ := q15
  refine WP.iconst (n := 22) (z := (0 : Int32)) dVO_21 rfl rfl ?_
  have S15 := r15.safe A14.lt S14
  refine WP.callP (n := 25) (ce' := 2) (sl' := 5) (Wd := 1) (a := a14) (argsL := [(.ref b15), (.int (0 : Int32))]) (rest := [(.ref a14)]) (own_sb l Z a0 hw EL hEL h15 a14 b15 _ _ N14 (A14.ext E15) ((D14 (Or.inr (hw _ (List.mem_of_getElem? (i := 44) rfl))) (ty := .array .byte) (by decide)).ext E15) ((D14 (Or.inr (hw _ (List.mem_of_getElem? (i := 42) rfl))) (ty := .byte) (by decide)).ext E15)) dVO_22 rfl (hw _ (List.mem_of_getElem? (i := 98) rfl)) (hw _ (List.mem_of_getElem? (i := 99) rfl)) (hw _ (List.mem_of_getElem? (i := 17) rfl)) (hw _ (List.mem_of_getElem? (i := 100) rfl)) (by decide) (fun y q => by cases List.mem_singleton.mp q; exact ⟨S15, Nat.lt_of_lt_of_le A14.lt E15.1⟩) (by decide) (by decide) rfl rfl (by decide) (by decide) rfl rfl (lenOf own_pd4 rfl) rfl (Nat.le_of_eq rfl) rfl (fun v16 vm16 h16 q16 r16 => ?_)
  obtain ⟨rfl, K16, A16, F16, G16⟩ := q16
  have V16 := V15.keep K16 (fun q => Exa.neArv (A14.ext E15) V15 (hw _ (List.mem_of_getElem? (i := 16) rfl)) (List.mem_singleton.mp q).symm)
  exact WP.retA dVO_25 rfl rfl rfl rfl (by decide) (by decide) ⟨_, rfl, ⟨A16, G16, b15, k15, 1, F16, V16, rfl⟩, ext_keep1 (ext_trans E14 E15) K16 (Nat.le_of_eq g14.symm)⟩
theorem dR_0 : decode jdk_31_method_11_code 0 = .ok (.aload_n 0, 1) := by decide +kernel
theorem dR_1 : decode jdk_31_method_11_code 1 = .ok (.ifnonnull 12, 3) := by decide +kernel
theorem dR_4 : decode jdk_31_method_11_code 4 = .ok (.new 84, 3) := by decide +kernel
theorem dR_7 : decode jdk_31_method_11_code 7 = .ok (.dup, 1) := by decide +kernel
theorem dR_8 : decode jdk_31_method_11_code 8 = .ok (.aload_n 1, 1) := by decide +kernel
theorem dR_9 : decode jdk_31_method_11_code 9 = .ok (.invokespecial 87, 3) := by decide +kernel
theorem dR_12 : decode jdk_31_method_11_code 12 = .ok (.athrow, 1) := by decide +kernel
theorem dR_13 : decode jdk_31_method_11_code 13 = .ok (.aload_n 0, 1) := by decide +kernel
theorem dR_14 : decode jdk_31_method_11_code 14 = .ok (.areturn, 1) := by decide +kernel
set_option maxRecDepth 65536 in
set_option maxHeartbeats 40000000 in
theorem own_rnn (l : Launch) (Z : State) (a0 : Array Value) (hw : ∀ d ∈ tables_1, d.before a0 Z = true) (EL : List (String × Nat)) (hEL : EW Z a0 EL) (h0 : Heap) (a m : Addr) :
    Con l Z EL false [] (⟨"java/util/Objects", "requireNonNull", "(Ljava/lang/Object;Ljava/lang/String;)Ljava/lang/Object;"⟩ : MethodName) jdk_31_method_11_code 2 (some (.object "java/lang/Object")) ({ frames := 0, cells := 0, slots := 0, locals := 0 } : Room) #[(.ref a), (.ref m)] h0 (fun v h' => v = some (.ref a) ∧ h0 = h') := by
  refine Con.of (Ls := #[.val (.ref a), .val (.ref m)]) (plainFor_of_name own_pn2) hEL (fun m => by first | (simp [entryFrame, mkF, argsToLocals, Value.category]; done) | rfl) ?_
  intro vm0 hZ0 hE0 hC0 hS0
  refine WP.aloadN (n := 1) dR_0 rfl rfl rfl ?_
  refine WP.ifnonnullY (n := 13) dR_1 (by decide) (by decide) ?_
  refine WP.aloadN (n := 14) dR_13 rfl rfl rfl ?_
  exact WP.retA dR_14 rfl rfl rfl rfl (by decide) (by decide) ⟨rfl, rfl⟩
def own_mn (x y : Int32) : Int32 := if y < x then y else x
def own_mx (x y : Int32) : Int32 := if x < y then y else x
def T3 (n : Int32) : Prop := n = 0 ∨ n = 1 ∨ n = 2
theorem own_t3 (z : Int32) : T3 (own_mn (z &&& 3) 2) := by
  have h1 := c_mask z 3 2 (by decide) (by decide)
  have e2 : (2 : Int32).toInt = 2 := rfl
  have e0 : (0 : Int32).toInt = 0 := rfl
  have e1 : (1 : Int32).toInt = 1 := rfl
  unfold own_mn T3
  split
  · exact Or.inr (Or.inr rfl)
  · rename_i q
    rw [Int32.lt_iff_toInt_lt] at q
    rw [← Int32.toInt_inj, ← Int32.toInt_inj, ← Int32.toInt_inj]
    omega
theorem own_pos (z : Int32) : ¬ (z &&& 2147483647) < 0 := by
  have h1 := c_mask z 2147483647 31 (by decide) (by decide)
  rw [Int32.lt_iff_toInt_lt]
  have e0 : (0 : Int32).toInt = 0 := rfl
  omega
theorem own_mn_pos {x y : Int32} (h : ¬ x < 0) (h' : ¬ y < 0) : ¬ own_mn x y < 0 := by unfold own_mn; split <;> assumption
theorem own_mm (x y : Int32) : ¬ own_mx x y < own_mn x y := by
  unfold own_mx own_mn
  split <;> split <;> simp only [Int32.lt_iff_toInt_lt] at * <;> omega
theorem dMN_0 : decode jdk_29_method_69_code 0 = .ok (.iload_n 0, 1) := by decide +kernel
theorem dMN_1 : decode jdk_29_method_69_code 1 = .ok (.iload_n 1, 1) := by decide +kernel
theorem dMN_2 : decode jdk_29_method_69_code 2 = .ok (.if_icmp .gt 7, 3) := by decide +kernel
theorem dMN_5 : decode jdk_29_method_69_code 5 = .ok (.iload_n 0, 1) := by decide +kernel
theorem dMN_6 : decode jdk_29_method_69_code 6 = .ok (.goto 4, 3) := by decide +kernel
theorem dMN_9 : decode jdk_29_method_69_code 9 = .ok (.iload_n 1, 1) := by decide +kernel
theorem dMN_10 : decode jdk_29_method_69_code 10 = .ok (.ireturn, 1) := by decide +kernel
set_option maxRecDepth 65536 in
set_option maxHeartbeats 40000000 in
theorem own_min (l : Launch) (Z : State) (a0 : Array Value) (hw : ∀ d ∈ tables_1, d.before a0 Z = true) (EL : List (String × Nat)) (hEL : EW Z a0 EL) (h0 : Heap) (x y : Int32) :
    Con l Z EL false [] (⟨"java/lang/Math", "min", "(II)I"⟩ : MethodName) jdk_29_method_69_code 2 (some .int) ({ frames := 0, cells := 0, slots := 0, locals := 0 } : Room) #[(.int x), (.int y)] h0 (fun v h' => v = some (.int (own_mn x y)) ∧ h0 = h') := by
  refine Con.of (Ls := #[.val (.int x), .val (.int y)]) (by decide +kernel) hEL (fun m => by first | (simp [entryFrame, mkF, argsToLocals, Value.category]; done) | rfl) ?_
  intro vm0 hZ0 hE0 hC0 hS0
  refine WP.iloadN (n := 1) dMN_0 rfl rfl ?_
  refine WP.iloadN (n := 2) dMN_1 rfl rfl ?_
  refine WP.icmp_gt (n := 9) (n' := 5) dMN_2 (by decide) (by decide) rfl (fun b17 => ?_) (fun b17 => ?_)
  · refine WP.iloadN (n := 10) dMN_9 rfl rfl ?_
    exact WP.retI dMN_10 rfl (by decide) (by decide) ⟨by unfold own_mn; rw [if_pos b17], rfl⟩
  · refine WP.iloadN (n := 6) dMN_5 rfl rfl ?_
    refine WP.goto (n := 10) dMN_6 (by decide) (by decide) ?_
    exact WP.retI dMN_10 rfl (by decide) (by decide) ⟨by unfold own_mn; rw [if_neg b17], rfl⟩
theorem dMX_0 : decode jdk_29_method_65_code 0 = .ok (.iload_n 0, 1) := by decide +kernel
theorem dMX_1 : decode jdk_29_method_65_code 1 = .ok (.iload_n 1, 1) := by decide +kernel
theorem dMX_2 : decode jdk_29_method_65_code 2 = .ok (.if_icmp .lt 7, 3) := by decide +kernel
theorem dMX_5 : decode jdk_29_method_65_code 5 = .ok (.iload_n 0, 1) := by decide +kernel
theorem dMX_6 : decode jdk_29_method_65_code 6 = .ok (.goto 4, 3) := by decide +kernel
theorem dMX_9 : decode jdk_29_method_65_code 9 = .ok (.iload_n 1, 1) := by decide +kernel
theorem dMX_10 : decode jdk_29_method_65_code 10 = .ok (.ireturn, 1) := by decide +kernel
set_option maxRecDepth 65536 in
set_option maxHeartbeats 40000000 in
theorem own_max (l : Launch) (Z : State) (a0 : Array Value) (hw : ∀ d ∈ tables_1, d.before a0 Z = true) (EL : List (String × Nat)) (hEL : EW Z a0 EL) (h0 : Heap) (x y : Int32) :
    Con l Z EL false [] (⟨"java/lang/Math", "max", "(II)I"⟩ : MethodName) jdk_29_method_65_code 2 (some .int) ({ frames := 0, cells := 0, slots := 0, locals := 0 } : Room) #[(.int x), (.int y)] h0 (fun v h' => v = some (.int (own_mx x y)) ∧ h0 = h') := by
  refine Con.of (Ls := #[.val (.int x), .val (.int y)]) (by decide +kernel) hEL (fun m => by first | (simp [entryFrame, mkF, argsToLocals, Value.category]; done) | rfl) ?_
  intro vm0 hZ0 hE0 hC0 hS0
  refine WP.iloadN (n := 1) dMX_0 rfl rfl ?_
  refine WP.iloadN (n := 2) dMX_1 rfl rfl ?_
  refine WP.icmp_lt (n := 9) (n' := 5) dMX_2 (by decide) (by decide) rfl (fun b18 => ?_) (fun b18 => ?_)
  · refine WP.iloadN (n := 10) dMX_9 rfl rfl ?_
    exact WP.retI dMX_10 rfl (by decide) (by decide) ⟨by unfold own_mx; rw [if_pos b18], rfl⟩
  · refine WP.iloadN (n := 6) dMX_5 rfl rfl ?_
    refine WP.goto (n := 10) dMX_6 (by decide) (by decide) ?_
    exact WP.retI dMX_10 rfl (by decide) (by decide) ⟨by unfold own_mx; rw [if_neg b18], rfl⟩
def own_sl (n a b : Int32) : List Int32 := if n = 0 then [] else if n = 1 then [a.toInt8.toInt32] else [a.toInt8.toInt32, b.toInt8.toInt32]
theorem dST_0 : decode method_2_code 0 = .ok (.iload_n 0, 1) := by decide +kernel
theorem dST_1 : decode method_2_code 1 = .ok (.ifCond .ne 14, 3) := by decide +kernel
theorem dST_4 : decode method_2_code 4 = .ok (.new 7, 3) := by decide +kernel
theorem dST_7 : decode method_2_code 7 = .ok (.dup, 1) := by decide +kernel
theorem dST_8 : decode method_2_code 8 = .ok (.iconst 0, 1) := by decide +kernel
theorem dST_9 : decode method_2_code 9 = .ok (.newarray .char, 2) := by decide +kernel
theorem dST_11 : decode method_2_code 11 = .ok (.invokespecial 9, 3) := by decide +kernel
theorem dST_14 : decode method_2_code 14 = .ok (.areturn, 1) := by decide +kernel
theorem dST_15 : decode method_2_code 15 = .ok (.iload_n 0, 1) := by decide +kernel
theorem dST_16 : decode method_2_code 16 = .ok (.iconst 1, 1) := by decide +kernel
theorem dST_17 : decode method_2_code 17 = .ok (.if_icmp .ne 8, 3) := by decide +kernel
theorem dST_20 : decode method_2_code 20 = .ok (.iload_n 1, 1) := by decide +kernel
theorem dST_21 : decode method_2_code 21 = .ok (.invokestatic 12, 3) := by decide +kernel
theorem dST_24 : decode method_2_code 24 = .ok (.areturn, 1) := by decide +kernel
theorem dST_25 : decode method_2_code 25 = .ok (.new 7, 3) := by decide +kernel
theorem dST_28 : decode method_2_code 28 = .ok (.dup, 1) := by decide +kernel
theorem dST_29 : decode method_2_code 29 = .ok (.iconst 2, 1) := by decide +kernel
theorem dST_30 : decode method_2_code 30 = .ok (.newarray .char, 2) := by decide +kernel
theorem dST_32 : decode method_2_code 32 = .ok (.dup, 1) := by decide +kernel
theorem dST_33 : decode method_2_code 33 = .ok (.iconst 0, 1) := by decide +kernel
theorem dST_34 : decode method_2_code 34 = .ok (.iload_n 1, 1) := by decide +kernel
theorem dST_35 : decode method_2_code 35 = .ok (.castore, 1) := by decide +kernel
theorem dST_36 : decode method_2_code 36 = .ok (.dup, 1) := by decide +kernel
theorem dST_37 : decode method_2_code 37 = .ok (.iconst 1, 1) := by decide +kernel
theorem dST_38 : decode method_2_code 38 = .ok (.iload_n 2, 1) := by decide +kernel
theorem dST_39 : decode method_2_code 39 = .ok (.castore, 1) := by decide +kernel
theorem dST_40 : decode method_2_code 40 = .ok (.invokespecial 9, 3) := by decide +kernel
theorem dST_43 : decode method_2_code 43 = .ok (.areturn, 1) := by decide +kernel
set_option maxRecDepth 65536 in
set_option maxHeartbeats 40000000 in
theorem own_str (l : Launch) (Z : State) (a0 : Array Value) (hw : ∀ d ∈ tables_1, d.before a0 Z = true) (EL : List (String × Nat)) (hEL : EW Z a0 EL) (h0 : Heap) (n a b : Int32) (ha : (¬ a < 0 ∧ ¬ (255 : Int32) < a)) (hb : (¬ b < 0 ∧ ¬ (255 : Int32) < b)) (hm : ("java/lang/String", 7) ∈ EL) (cz : Int32) (O : Sta Z Z.heap "java/lang/String" "COMPACT_STRINGS" "Z" (.int cz)) (hO : ¬ cz = 0) :
    Con l Z EL false [] (⟨"com/example/esteem/esteem/core/analysis/TokenEqualsPinLaw", "str", "(ICC)Ljava/lang/String;"⟩ : MethodName) method_2_code 3 (some (.object "java/lang/String")) ({ frames := 4, cells := 4, slots := 10, locals := 66 } : Room) #[(.int n), (.int a), (.int b)] h0 (fun v h' => ∃ s, v = some (.ref s) ∧ Str Z h' s (own_sl n a b) ∧ Ext h0 h') := by
  refine Con.of (Ls := #[.val (.int n), .val (.int a), .val (.int b)]) (plainFor_of_name own_pn3) hEL (fun m => by first | (simp [entryFrame, mkF, argsToLocals, Value.category]; done) | rfl) ?_
  intro vm0 hZ0 hE0 hC0 hS0
  refine WP.iloadN (n := 1) dST_0 rfl rfl ?_
  refine WP.if_ne (n := 15) (n' := 4) dST_1 (by decide) (by decide) rfl (fun b19 => ?_) (fun b19 => ?_)
  · refine WP.iloadN (n := 16) dST_15 rfl rfl ?_
    refine WP.iconst (n := 17) (z := (1 : Int32)) dST_16 rfl rfl ?_
    refine WP.icmp_ne (n := 25) (n' := 20) dST_17 (by decide) (by decide) rfl (fun b20 => ?_) (fun b20 => ?_)
    · refine WP.new (n := 28) (ce' := 1) (sl' := 4) dST_25 (hw _ (List.mem_of_getElem? (i := 15) rfl)) (hw _ (List.mem_of_getElem? (i := 16) rfl)) (hw _ (List.mem_of_getElem? (i := 17) rfl)) rfl rfl (by decide) (by decide) rfl (fun a21 h21 g21 E21 A21 D21 S21 N21 r21 => ?_)
      refine WP.dup (n := 29) dST_28 rfl rfl ?_
      refine WP.iconst (n := 30) (z := (2 : Int32)) dST_29 rfl rfl ?_
      refine WP.newP (n := 32) (ce' := 2) (sl' := 6) (cap := 2) (ty := .char) dST_30 (hw _ (List.mem_of_getElem? (i := 18) rfl)) rfl (by decide) (by decide) (by decide) rfl rfl (by decide) (by decide) rfl (fun a22 h22 k22 g22 E22 V22 S22 N22 r22 => ?_)
      have V22_ : Arv Z h22 a22 k22 .char (2 : Int32) [.int 0, .int 0] (.int 0) := V22.pad (pad_rep [] (.int 0) 2)
      have SA22 := r22.safe A21.lt S21
      have XA22 := A21.ext E22
      have XV22 := (D21 (Or.inr (hw _ (List.mem_of_getElem? (i := 44) rfl))) (ty := .array .byte) (by decide)).ext E22
      have XC22 := (D21 (Or.inr (hw _ (List.mem_of_getElem? (i := 42) rfl))) (ty := .byte) (by decide)).ext E22
      have XN22 : a21 ≠ a22 := Nat.ne_of_lt (Nat.lt_of_lt_of_le A21.lt (Nat.le_of_eq g22.symm))
      refine WP.dup (n := 33) dST_32 rfl rfl ?_
      refine WP.iconst (n := 34) (z := (0 : Int32)) dST_33 rfl rfl ?_
      refine WP.iloadN (n := 35) dST_34 rfl rfl ?_
      refine WP.stC (n := 36) (i := 0) (y := a) dST_35 V22_ (by decide) rfl (Nat.le_of_ble_eq_true rfl) (own_c16 ha) N22 S22 rfl (fun h23 W23 V23 r23 => ?_)
      have SS23 := r23.safe V22_.lt S22
      have SA23 := r23.safe XA22.lt SA22
      have XA23 := XA22.wr W23
      have XV23 := XV22.other W23 (Or.inl XN22)
      have XC23 := XC22.other W23 (Or.inl XN22)
      refine WP.dup (n := 37) dST_36 rfl rfl ?_
      refine WP.iconst (n := 38) (z := (1 : Int32)) dST_37 rfl rfl ?_
      refine WP.iloadN (n := 39) dST_38 rfl rfl ?_
      refine WP.stC (n := 40) (i := 1) (y := b) dST_39 V23 (by decide) rfl (Nat.le_of_ble_eq_true rfl) (own_c16 hb) N22 SS23 rfl (fun h24 W24 V24 r24 => ?_)
      have SS24 := r24.safe V23.lt SS23
      have SA24 := r24.safe XA23.lt SA23
      have XA24 := XA23.wr W24
      have XV24 := XV23.other W24 (Or.inl XN22)
      have XC24 := XC23.other W24 (Or.inl XN22)
      have hws : ∀ d ∈ StrChars.Road.words, d.before a0 Z = true := fun d hd => hw d ((by decide +kernel : ∀ d ∈ StrChars.Road.words, d ∈ tables_1) d hd)
      refine WP.inv fun hZ25 hE25 hC25 => ?_
      refine WP.backP (n := 43) (ce' := 3) (sl' := 8) (Wd := 1) (a := a21) (argsL := [(.ref a22)]) (rest := [(.ref a21)]) (Qy := StrChars.Road.QV Z a21 2 (([a, b] : List Int32).map (fun c => c.toInt8.toInt32)) h24 Z.heap.size)
        (fun p e below s args hz => StrChars.Road.backV (W := 1) hz hws (kI := 4) (hw _ (List.mem_of_getElem? (i := 16) rfl)) (cs := [a, b]) (n := 2) (n0 := Z.heap.size) N21 hE25.1 XA24 XV24 XC24 V24 (O.ext hE25) hO rfl rfl (by decide) (by decide) (own_rng_cons ha (own_rng_cons hb own_rng_nil)) rfl (by decide) (by decide))
        (fun v h' L hq => ⟨hq.2.1, ext_keep1 hE25 hq.2.2.1 N21, CHr.keep hq.2.2.1 (fun z hz => by cases List.mem_singleton.mp hz; exact SA24) hC25⟩)
        dST_40 rfl (hw _ (List.mem_of_getElem? (i := 19) rfl)) (hw _ (List.mem_of_getElem? (i := 20) rfl)) (hw _ (List.mem_of_getElem? (i := 21) rfl)) (by decide) rfl rfl (by decide) (by decide) rfl rfl (lenOf own_pd5 rfl) rfl (Nat.le_of_eq rfl) rfl (fun v25 h25 L25 q25 r25 => ?_)
      obtain ⟨rfl, -, K25, QA25, QC25, t25, kb25, -, -, -, QV25, QB25⟩ := q25
      have F25 : Str Z h25 a21 [a.toInt8.toInt32, b.toInt8.toInt32] := ⟨QA25, QC25, t25, kb25, 2, QV25, QB25, rfl⟩
      have E25 := ext_keep1 (ext_wr (ext_wr (ext_trans E21 E22) W23 (Nat.le_trans E21.1 (Nat.le_of_eq g22.symm))) W24 (Nat.le_trans E21.1 (Nat.le_of_eq g22.symm))) K25 (Nat.le_of_eq g21.symm)
      exact WP.retA dST_43 rfl rfl rfl rfl (by decide) (by decide) ⟨_, rfl, by unfold own_sl; rw [if_neg b19, if_neg b20]; exact F25, E25⟩
    · refine WP.iloadN (n := 21) dST_20 rfl rfl ?_
      refine WP.callS (n := 24) (ce' := 2) (sl' := 5) (Wd := 0) (argsL := [(.int a)]) (rest := []) (own_vo l Z a0 hw EL hEL h0 a ha.2 cz O hO) dST_21 (hw _ (List.mem_of_getElem? (i := 89) rfl)) (hw _ (List.mem_of_getElem? (i := 90) rfl)) (hw _ (List.mem_of_getElem? (i := 17) rfl)) (hw _ (List.mem_of_getElem? (i := 91) rfl)) (by decide) (fun _ q => nomatch q) (by decide) (by decide) rfl rfl (by decide) (by decide) rfl rfl (lenOf own_pd6 rfl) rfl (Nat.le_of_eq rfl) rfl (fun v26 vm26 h26 q26 r26 => ?_)
      obtain ⟨a26, rfl, F26, E26⟩ := q26
      exact WP.retA dST_24 rfl rfl rfl rfl (by decide) (by decide) ⟨_, rfl, by unfold own_sl; rw [if_neg b19, if_pos b20]; exact F26, E26⟩
  · refine WP.new (n := 7) (ce' := 1) (sl' := 4) dST_4 (hw _ (List.mem_of_getElem? (i := 15) rfl)) (hw _ (List.mem_of_getElem? (i := 16) rfl)) (hw _ (List.mem_of_getElem? (i := 17) rfl)) rfl rfl (by decide) (by decide) rfl (fun a27 h27 g27 E27 A27 D27 S27 N27 r27 => ?_)
    refine WP.dup (n := 8) dST_7 rfl rfl ?_
    refine WP.iconst (n := 9) (z := (0 : Int32)) dST_8 rfl rfl ?_
    refine WP.newP (n := 11) (ce' := 2) (sl' := 4) (cap := 0) (ty := .char) dST_9 (hw _ (List.mem_of_getElem? (i := 18) rfl)) rfl (by decide) (by decide) (by decide) rfl rfl (by decide) (by decide) rfl (fun a28 h28 k28 g28 E28 V28 S28 N28 r28 => ?_)
    have V28_ : Arv Z h28 a28 k28 .char (0 : Int32) [] (.int 0) := V28.pad (pad_rep [] (.int 0) 0)
    have SA28 := r28.safe A27.lt S27
    have XA28 := A27.ext E28
    have XV28 := (D27 (Or.inr (hw _ (List.mem_of_getElem? (i := 44) rfl))) (ty := .array .byte) (by decide)).ext E28
    have XC28 := (D27 (Or.inr (hw _ (List.mem_of_getElem? (i := 42) rfl))) (ty := .byte) (by decide)).ext E28
    have XN28 : a27 ≠ a28 := Nat.ne_of_lt (Nat.lt_of_lt_of_le A27.lt (Nat.le_of_eq g28.symm))
    refine WP.callP (n := 14) (ce' := 4) (sl' := 8) (Wd := 1) (a := a27) (argsL := [(.ref a28)]) (rest := [(.ref a27)]) (own_si1 l Z a0 hw EL hEL h28 a27 a28 _ _ N27 XA28 XV28 XC28 _ _ V28 hm) dST_11 rfl (hw _ (List.mem_of_getElem? (i := 19) rfl)) (hw _ (List.mem_of_getElem? (i := 20) rfl)) (hw _ (List.mem_of_getElem? (i := 17) rfl)) (hw _ (List.mem_of_getElem? (i := 21) rfl)) (by decide) (fun y q => by cases List.mem_singleton.mp q; exact ⟨SA28, XA28.lt⟩) (by decide) (by decide) rfl rfl (by decide) (by decide) rfl rfl (lenOf own_pd5 rfl) rfl (Nat.le_of_eq rfl) rfl (fun v29 vm29 h29 q29 r29 => ?_)
    obtain ⟨rfl, K29, F29⟩ := q29
    have E29 := ext_keep1 (ext_trans E27 E28) K29 (Nat.le_of_eq g27.symm)
    exact WP.retA dST_14 rfl rfl rfl rfl (by decide) (by decide) ⟨_, rfl, by unfold own_sl; rw [if_pos b19]; exact F29, E29⟩
abbrev own_sm (n a b m c d : Int32) : Prop := n = m ∧ (n < 1 ∨ a = c) ∧ (n < 2 ∨ b = d)
theorem own_sm_iff {n a b m c d : Int32} (hn : T3 n) (hm : T3 m) (ha : (¬ a < 0 ∧ ¬ (255 : Int32) < a)) (hb : (¬ b < 0 ∧ ¬ (255 : Int32) < b)) (hc : (¬ c < 0 ∧ ¬ (255 : Int32) < c)) (hd : (¬ d < 0 ∧ ¬ (255 : Int32) < d)) : own_sl n a b = own_sl m c d ↔ own_sm n a b m c d := by
  unfold own_sl own_sm
  rcases hn with rfl | rfl | rfl <;> rcases hm with rfl | rfl | rfl
  · simp
  · simp
  · simp
  · simp
  · constructor
    · intro e
      simp only [if_neg (by decide : ¬ (1 : Int32) = 0), if_true] at e
      injection e with e
      exact ⟨rfl, Or.inr (own_inj8 ha hc e), Or.inl (by decide)⟩
    · intro e
      rcases e.2.1 with q | q
      · exact absurd q (by decide)
      · rw [q]; simp
  · simp
  · simp
  · simp
  · constructor
    · intro e
      simp only [if_neg (by decide : ¬ (2 : Int32) = 0), if_neg (by decide : ¬ (2 : Int32) = 1)] at e
      injection e with e1 e2
      injection e2 with e2
      exact ⟨rfl, Or.inr (own_inj8 ha hc e1), Or.inr (own_inj8 hb hd e2)⟩
    · intro e
      rcases e.2.1 with q | q
      · exact absurd q (by decide)
      · rcases e.2.2 with q' | q'
        · exact absurd q' (by decide)
        · rw [q, q']
theorem dSM_0 : decode method_3_code 0 = .ok (.iload_n 0, 1) := by decide +kernel
theorem dSM_1 : decode method_3_code 1 = .ok (.iload_n 3, 1) := by decide +kernel
theorem dSM_2 : decode method_3_code 2 = .ok (.if_icmp .ne 29, 3) := by decide +kernel
theorem dSM_5 : decode method_3_code 5 = .ok (.iload_n 0, 1) := by decide +kernel
theorem dSM_6 : decode method_3_code 6 = .ok (.iconst 1, 1) := by decide +kernel
theorem dSM_7 : decode method_3_code 7 = .ok (.if_icmp .lt 9, 3) := by decide +kernel
theorem dSM_10 : decode method_3_code 10 = .ok (.iload_n 1, 1) := by decide +kernel
theorem dSM_11 : decode method_3_code 11 = .ok (.iload 4, 2) := by decide +kernel
theorem dSM_13 : decode method_3_code 13 = .ok (.if_icmp .ne 18, 3) := by decide +kernel
theorem dSM_16 : decode method_3_code 16 = .ok (.iload_n 0, 1) := by decide +kernel
theorem dSM_17 : decode method_3_code 17 = .ok (.iconst 2, 1) := by decide +kernel
theorem dSM_18 : decode method_3_code 18 = .ok (.if_icmp .lt 9, 3) := by decide +kernel
theorem dSM_21 : decode method_3_code 21 = .ok (.iload_n 2, 1) := by decide +kernel
theorem dSM_22 : decode method_3_code 22 = .ok (.iload 5, 2) := by decide +kernel
theorem dSM_24 : decode method_3_code 24 = .ok (.if_icmp .ne 7, 3) := by decide +kernel
theorem dSM_27 : decode method_3_code 27 = .ok (.iconst 1, 1) := by decide +kernel
theorem dSM_28 : decode method_3_code 28 = .ok (.goto 4, 3) := by decide +kernel
theorem dSM_31 : decode method_3_code 31 = .ok (.iconst 0, 1) := by decide +kernel
theorem dSM_32 : decode method_3_code 32 = .ok (.ireturn, 1) := by decide +kernel
set_option maxRecDepth 65536 in
set_option maxHeartbeats 40000000 in
theorem own_same (l : Launch) (Z : State) (a0 : Array Value) (hw : ∀ d ∈ tables_1, d.before a0 Z = true) (EL : List (String × Nat)) (hEL : EW Z a0 EL) (h0 : Heap) (n a b m c d : Int32) :
    Con l Z EL false [] (⟨"com/example/esteem/esteem/core/analysis/TokenEqualsPinLaw", "same", "(ICCICC)Z"⟩ : MethodName) method_3_code 6 (some .boolean) ({ frames := 0, cells := 0, slots := 0, locals := 0 } : Room) #[(.int n), (.int a), (.int b), (.int m), (.int c), (.int d)] h0 (fun v h' => v = some (.int (if own_sm n a b m c d then 1 else 0)) ∧ h0 = h') := by
  refine Con.of (Ls := #[.val (.int n), .val (.int a), .val (.int b), .val (.int m), .val (.int c), .val (.int d)]) (plainFor_of_name own_pn3) hEL (fun m => by first | (simp [entryFrame, mkF, argsToLocals, Value.category]; done) | rfl) ?_
  intro vm0 hZ0 hE0 hC0 hS0
  refine WP.iloadN (n := 1) dSM_0 rfl rfl ?_
  refine WP.iloadN (n := 2) dSM_1 rfl rfl ?_
  refine WP.icmp_ne (n := 31) (n' := 5) dSM_2 (by decide) (by decide) rfl (fun b30 => ?_) (fun b30 => ?_)
  · refine WP.iconst (n := 32) (z := (0 : Int32)) dSM_31 rfl rfl ?_
    exact WP.retN dSM_32 rfl (Or.inl rfl) (by decide : nar .boolean 0 = 0) (by decide) (by decide) ⟨by rw [if_neg (fun q => b30 q.1)], rfl⟩
  · refine WP.iloadN (n := 6) dSM_5 rfl rfl ?_
    refine WP.iconst (n := 7) (z := (1 : Int32)) dSM_6 rfl rfl ?_
    refine WP.icmp_lt (n := 16) (n' := 10) dSM_7 (by decide) (by decide) rfl (fun b31 => ?_) (fun b31 => ?_)
    · refine WP.iloadN (n := 17) dSM_16 rfl rfl ?_
      refine WP.iconst (n := 18) (z := (2 : Int32)) dSM_17 rfl rfl ?_
      refine WP.icmp_lt (n := 27) (n' := 21) dSM_18 (by decide) (by decide) rfl (fun b32 => ?_) (fun b32 => ?_)
      · refine WP.iconst (n := 28) (z := (1 : Int32)) dSM_27 rfl rfl ?_
        refine WP.goto (n := 32) dSM_28 (by decide) (by decide) ?_
        exact WP.retN dSM_32 rfl (Or.inl rfl) (by decide : nar .boolean 1 = 1) (by decide) (by decide) ⟨by rw [if_pos ⟨b30, Or.inl b31, Or.inl b32⟩], rfl⟩
      · refine WP.iloadN (n := 22) dSM_21 rfl rfl ?_
        refine WP.iload (n := 24) dSM_22 rfl rfl ?_
        refine WP.icmp_ne (n := 31) (n' := 27) dSM_24 (by decide) (by decide) rfl (fun b33 => ?_) (fun b33 => ?_)
        · refine WP.iconst (n := 32) (z := (0 : Int32)) dSM_31 rfl rfl ?_
          exact WP.retN dSM_32 rfl (Or.inl rfl) (by decide : nar .boolean 0 = 0) (by decide) (by decide) ⟨by rw [if_neg (fun q => q.2.2.elim b32 b33)], rfl⟩
        · refine WP.iconst (n := 28) (z := (1 : Int32)) dSM_27 rfl rfl ?_
          refine WP.goto (n := 32) dSM_28 (by decide) (by decide) ?_
          exact WP.retN dSM_32 rfl (Or.inl rfl) (by decide : nar .boolean 1 = 1) (by decide) (by decide) ⟨by rw [if_pos ⟨b30, Or.inl b31, Or.inr b33⟩], rfl⟩
    · refine WP.iloadN (n := 11) dSM_10 rfl rfl ?_
      refine WP.iload (n := 13) dSM_11 rfl rfl ?_
      refine WP.icmp_ne (n := 31) (n' := 16) dSM_13 (by decide) (by decide) rfl (fun b34 => ?_) (fun b34 => ?_)
      · refine WP.iconst (n := 32) (z := (0 : Int32)) dSM_31 rfl rfl ?_
        exact WP.retN dSM_32 rfl (Or.inl rfl) (by decide : nar .boolean 0 = 0) (by decide) (by decide) ⟨by rw [if_neg (fun q => q.2.1.elim b31 b34)], rfl⟩
      · refine WP.iloadN (n := 17) dSM_16 rfl rfl ?_
        refine WP.iconst (n := 18) (z := (2 : Int32)) dSM_17 rfl rfl ?_
        refine WP.icmp_lt (n := 27) (n' := 21) dSM_18 (by decide) (by decide) rfl (fun b35 => ?_) (fun b35 => ?_)
        · refine WP.iconst (n := 28) (z := (1 : Int32)) dSM_27 rfl rfl ?_
          refine WP.goto (n := 32) dSM_28 (by decide) (by decide) ?_
          exact WP.retN dSM_32 rfl (Or.inl rfl) (by decide : nar .boolean 1 = 1) (by decide) (by decide) ⟨by rw [if_pos ⟨b30, Or.inr b34, Or.inl b35⟩], rfl⟩
        · refine WP.iloadN (n := 22) dSM_21 rfl rfl ?_
          refine WP.iload (n := 24) dSM_22 rfl rfl ?_
          refine WP.icmp_ne (n := 31) (n' := 27) dSM_24 (by decide) (by decide) rfl (fun b36 => ?_) (fun b36 => ?_)
          · refine WP.iconst (n := 32) (z := (0 : Int32)) dSM_31 rfl rfl ?_
            exact WP.retN dSM_32 rfl (Or.inl rfl) (by decide : nar .boolean 0 = 0) (by decide) (by decide) ⟨by rw [if_neg (fun q => q.2.2.elim b35 b36)], rfl⟩
          · refine WP.iconst (n := 28) (z := (1 : Int32)) dSM_27 rfl rfl ?_
            refine WP.goto (n := 32) dSM_28 (by decide) (by decide) ?_
            exact WP.retN dSM_32 rfl (Or.inl rfl) (by decide : nar .boolean 1 = 1) (by decide) (by decide) ⟨by rw [if_pos ⟨b30, Or.inr b34, Or.inr b36⟩], rfl⟩
theorem dKI_0 : decode prog_9_method_1_code 0 = .ok (.aload_n 0, 1) := by decide +kernel
theorem dKI_1 : decode prog_9_method_1_code 1 = .ok (.invokespecial 1, 3) := by decide +kernel
theorem dKI_4 : decode prog_9_method_1_code 4 = .ok (.aload_n 0, 1) := by decide +kernel
theorem dKI_5 : decode prog_9_method_1_code 5 = .ok (.aload_n 1, 1) := by decide +kernel
theorem dKI_6 : decode prog_9_method_1_code 6 = .ok (.ldc 7, 2) := by decide +kernel
theorem dKI_8 : decode prog_9_method_1_code 8 = .ok (.invokestatic 9, 3) := by decide +kernel
theorem dKI_11 : decode prog_9_method_1_code 11 = .ok (.checkcast 15, 3) := by decide +kernel
theorem dKI_14 : decode prog_9_method_1_code 14 = .ok (.putfield 17, 3) := by decide +kernel
theorem dKI_17 : decode prog_9_method_1_code 17 = .ok (.aload_n 0, 1) := by decide +kernel
theorem dKI_18 : decode prog_9_method_1_code 18 = .ok (.aload 4, 2) := by decide +kernel
theorem dKI_20 : decode prog_9_method_1_code 20 = .ok (.ldc 22, 2) := by decide +kernel
theorem dKI_22 : decode prog_9_method_1_code 22 = .ok (.invokestatic 9, 3) := by decide +kernel
theorem dKI_25 : decode prog_9_method_1_code 25 = .ok (.checkcast 15, 3) := by decide +kernel
theorem dKI_28 : decode prog_9_method_1_code 28 = .ok (.putfield 24, 3) := by decide +kernel
theorem dKI_31 : decode prog_9_method_1_code 31 = .ok (.iload_n 2, 1) := by decide +kernel
theorem dKI_32 : decode prog_9_method_1_code 32 = .ok (.ifCond .lt 13, 3) := by decide +kernel
theorem dKI_35 : decode prog_9_method_1_code 35 = .ok (.iload_n 3, 1) := by decide +kernel
theorem dKI_36 : decode prog_9_method_1_code 36 = .ok (.iload_n 2, 1) := by decide +kernel
theorem dKI_37 : decode prog_9_method_1_code 37 = .ok (.if_icmp .lt 8, 3) := by decide +kernel
theorem dKI_40 : decode prog_9_method_1_code 40 = .ok (.iload 5, 2) := by decide +kernel
theorem dKI_42 : decode prog_9_method_1_code 42 = .ok (.ifCond .ge 20, 3) := by decide +kernel
theorem dKI_45 : decode prog_9_method_1_code 45 = .ok (.new 26, 3) := by decide +kernel
theorem dKI_48 : decode prog_9_method_1_code 48 = .ok (.dup, 1) := by decide +kernel
theorem dKI_49 : decode prog_9_method_1_code 49 = .ok (.iload_n 2, 1) := by decide +kernel
theorem dKI_50 : decode prog_9_method_1_code 50 = .ok (.iload_n 3, 1) := by decide +kernel
theorem dKI_51 : decode prog_9_method_1_code 51 = .ok (.iload 5, 2) := by decide +kernel
theorem dKI_53 : decode prog_9_method_1_code 53 = .ok (.invokedynamic 28, 5) := by decide +kernel
theorem dKI_58 : decode prog_9_method_1_code 58 = .ok (.invokespecial 32, 3) := by decide +kernel
theorem dKI_61 : decode prog_9_method_1_code 61 = .ok (.athrow, 1) := by decide +kernel
theorem dKI_62 : decode prog_9_method_1_code 62 = .ok (.aload_n 0, 1) := by decide +kernel
theorem dKI_63 : decode prog_9_method_1_code 63 = .ok (.iload_n 2, 1) := by decide +kernel
theorem dKI_64 : decode prog_9_method_1_code 64 = .ok (.putfield 35, 3) := by decide +kernel
theorem dKI_67 : decode prog_9_method_1_code 67 = .ok (.aload_n 0, 1) := by decide +kernel
theorem dKI_68 : decode prog_9_method_1_code 68 = .ok (.iload_n 3, 1) := by decide +kernel
theorem dKI_69 : decode prog_9_method_1_code 69 = .ok (.putfield 39, 3) := by decide +kernel
theorem dKI_72 : decode prog_9_method_1_code 72 = .ok (.aload_n 0, 1) := by decide +kernel
theorem dKI_73 : decode prog_9_method_1_code 73 = .ok (.iload 5, 2) := by decide +kernel
theorem dKI_75 : decode prog_9_method_1_code 75 = .ok (.putfield 42, 3) := by decide +kernel
theorem dKI_78 : decode prog_9_method_1_code 78 = .ok (.return_, 1) := by decide +kernel
set_option maxRecDepth 65536 in
set_option maxHeartbeats 40000000 in
theorem own_ki (l : Launch) (Z : State) (a0 : Array Value) (hw : ∀ d ∈ tables_1, d.before a0 Z = true) (EL : List (String × Nat)) (hEL : EW Z a0 EL) (h0 : Heap) (a t y : Addr) (s e p : Int32) (hs : ¬ s < 0) (he : ¬ e < s) (hp : ¬ p < 0) (hN : Z.heap.size ≤ a) (hA : Exa Z h0 a "com/example/esteem/esteem/core/analysis/Token") (hT : Exa Z h0 t "java/lang/String") (hY : Exa Z h0 y "java/lang/String") (hF_term : Fld Z h0 a "com/example/esteem/esteem/core/analysis/Token" "term" "Ljava/lang/String;" .null) (hF_type : Fld Z h0 a "com/example/esteem/esteem/core/analysis/Token" "type" "Ljava/lang/String;" .null) (hF_startOffset : Fld Z h0 a "com/example/esteem/esteem/core/analysis/Token" "startOffset" "I" (.int 0)) (hF_endOffset : Fld Z h0 a "com/example/esteem/esteem/core/analysis/Token" "endOffset" "I" (.int 0)) (hF_position : Fld Z h0 a "com/example/esteem/esteem/core/analysis/Token" "position" "I" (.int 0)) :
    Con l Z EL false [] (⟨"com/example/esteem/esteem/core/analysis/Token", "<init>", "(Ljava/lang/String;IILjava/lang/String;I)V"⟩ : MethodName) prog_9_method_1_code 6 none ({ frames := 1, cells := 4, slots := 40, locals := 15 } : Room) #[(.ref a), (.ref t), (.int s), (.int e), (.ref y), (.int p)] h0 (fun v h' => v = none ∧ Keep h0 h' [a] ∧ Exa Z h' a "com/example/esteem/esteem/core/analysis/Token" ∧ Fld Z h' a "com/example/esteem/esteem/core/analysis/Token" "term" "Ljava/lang/String;" (.ref t) ∧ Fld Z h' a "com/example/esteem/esteem/core/analysis/Token" "type" "Ljava/lang/String;" (.ref y) ∧ Fld Z h' a "com/example/esteem/esteem/core/analysis/Token" "startOffset" "I" (.int s) ∧ Fld Z h' a "com/example/esteem/esteem/core/analysis/Token" "endOffset" "I" (.int e) ∧ Fld Z h' a "com/example/esteem/esteem/core/analysis/Token" "position" "I" (.int p)) := by
  have wS : ∀ a ∈ Bundle.stringAtoms, a.before a0 Z = true := fun d hd => hw d ((by decide +kernel : ∀ d ∈ Bundle.stringAtoms, d ∈ tables_1) d hd)
  refine Con.of (Ls := #[.val (.ref a), .val (.ref t), .val (.int s), .val (.int e), .val (.ref y), .val (.int p)]) (plainFor_of_name own_pn4) hEL (fun m => by first | (simp [entryFrame, mkF, argsToLocals, Value.category]; done) | rfl) ?_
  intro vm0 hZ0 hE0 hC0 hS0
  refine WP.aloadN (n := 1) dKI_0 rfl rfl rfl ?_
  refine WP.initO (n := 4) (Wd := 0) dKI_1 (hw _ (List.mem_of_getElem? (i := 51) rfl)) (hw _ (List.mem_of_getElem? (i := 27) rfl)) (hw _ (List.mem_of_getElem? (i := 28) rfl)) rfl (by decide) (Nat.le_of_eq rfl) (by decide) rfl ?_
  refine WP.aloadN (n := 5) dKI_4 rfl rfl rfl ?_
  refine WP.aloadN (n := 6) dKI_5 rfl rfl rfl ?_
  refine WP.ldcO (n := 8) (nn := 16) (ce' := 2) (sl' := 20) dKI_6 rfl (hw _ (List.mem_of_getElem? (i := 52) rfl)) wS (by decide) (by decide) rfl rfl (by decide) (by decide) hEL rfl (fun a37 vm37 h37 E37 r37 => ?_)
  refine WP.callS (n := 11) (ce' := 2) (sl' := 20) (Wd := 1) (argsL := [(.ref t), (.ref a37)]) (rest := [(.ref a)]) (own_rnn l Z a0 hw EL hEL h37 t a37) dKI_8 (hw _ (List.mem_of_getElem? (i := 53) rfl)) (hw _ (List.mem_of_getElem? (i := 54) rfl)) (hw _ (List.mem_of_getElem? (i := 55) rfl)) (hw _ (List.mem_of_getElem? (i := 56) rfl)) (by decide) (fun _ q => nomatch q) (by decide) (by decide) rfl rfl (by decide) (by decide) rfl rfl (lenOf own_pd7 rfl) rfl (Nat.le_of_eq rfl) rfl (fun v38 vm38 h38 q38 r38 => ?_)
  obtain ⟨rfl, rfl⟩ := q38
  refine WP.castY (n := 14) dKI_11 (hw _ (List.mem_of_getElem? (i := 57) rfl)) (Ins.self (hT.ext E37)) rfl ?_
  refine WP.putFE (n := 17) (host := "") (ty := (.object "java/lang/String")) dKI_14 (Or.inl (hw _ (List.mem_of_getElem? (i := 58) rfl))) Via.refl (hF_term.ext E37) (hA.ext E37) (Or.inr ⟨(hw _ (List.mem_of_getElem? (i := 59) rfl)), rfl, rfl⟩) (hw _ (List.mem_of_getElem? (i := 9) rfl)) (by decide) rfl rfl hN (by decide) rfl (fun h39 W39 r39 => ?_)
  have A39 := (hA.ext E37).wr W39
  have K39 := ((Keep.refl h0 [a]).ext E37).wr W39 (Or.inl (List.mem_cons_self ..))
  have F39_term := (hF_term.ext E37).same W39
  have F39_type := (hF_type.ext E37).other W39 (Or.inr (slot_ne (t := (.object "java/lang/String")) (t' := (.object "java/lang/String")) (Or.inr (hw _ (List.mem_of_getElem? (i := 62) rfl))) (Or.inr (hw _ (List.mem_of_getElem? (i := 59) rfl))) (by decide) (by decide) (by decide)))
  have F39_startOffset := (hF_startOffset.ext E37).other W39 (Or.inr (slot_ne (t := .int) (t' := (.object "java/lang/String")) (Or.inr (hw _ (List.mem_of_getElem? (i := 64) rfl))) (Or.inr (hw _ (List.mem_of_getElem? (i := 59) rfl))) (by decide) (by decide) (by decide)))
  have F39_endOffset := (hF_endOffset.ext E37).other W39 (Or.inr (slot_ne (t := .int) (t' := (.object "java/lang/String")) (Or.inr (hw _ (List.mem_of_getElem? (i := 66) rfl))) (Or.inr (hw _ (List.mem_of_getElem? (i := 59) rfl))) (by decide) (by decide) (by decide)))
  have F39_position := (hF_position.ext E37).other W39 (Or.inr (slot_ne (t := .int) (t' := (.object "java/lang/String")) (Or.inr (hw _ (List.mem_of_getElem? (i := 68) rfl))) (Or.inr (hw _ (List.mem_of_getElem? (i := 59) rfl))) (by decide) (by decide) (by decide)))
  have A39_t := (hT.ext E37).wr W39
  have A39_y := (hY.ext E37).wr W39
  refine WP.aloadN (n := 18) dKI_17 rfl rfl rfl ?_
  refine WP.aload (n := 20) dKI_18 rfl rfl rfl ?_
  refine WP.ldcO (n := 22) (nn := 16) (ce' := 4) (sl' := 40) dKI_20 rfl (hw _ (List.mem_of_getElem? (i := 60) rfl)) wS (by decide) (by decide) rfl rfl (by decide) (by decide) hEL rfl (fun a40 vm40 h40 E40 r40 => ?_)
  refine WP.callS (n := 25) (ce' := 4) (sl' := 40) (Wd := 1) (argsL := [(.ref y), (.ref a40)]) (rest := [(.ref a)]) (own_rnn l Z a0 hw EL hEL h40 y a40) dKI_22 (hw _ (List.mem_of_getElem? (i := 53) rfl)) (hw _ (List.mem_of_getElem? (i := 54) rfl)) (hw _ (List.mem_of_getElem? (i := 55) rfl)) (hw _ (List.mem_of_getElem? (i := 56) rfl)) (by decide) (fun _ q => nomatch q) (by decide) (by decide) rfl rfl (by decide) (by decide) rfl rfl (lenOf own_pd7 rfl) rfl (Nat.le_of_eq rfl) rfl (fun v41 vm41 h41 q41 r41 => ?_)
  obtain ⟨rfl, rfl⟩ := q41
  refine WP.castY (n := 28) dKI_25 (hw _ (List.mem_of_getElem? (i := 57) rfl)) (Ins.self (A39_y.ext E40)) rfl ?_
  refine WP.putFE (n := 31) (host := "") (ty := (.object "java/lang/String")) dKI_28 (Or.inl (hw _ (List.mem_of_getElem? (i := 61) rfl))) Via.refl (F39_type.ext E40) (A39.ext E40) (Or.inr ⟨(hw _ (List.mem_of_getElem? (i := 62) rfl)), rfl, rfl⟩) (hw _ (List.mem_of_getElem? (i := 9) rfl)) (by decide) rfl rfl hN (by decide) rfl (fun h42 W42 r42 => ?_)
  have A42 := (A39.ext E40).wr W42
  have K42 := (K39.ext E40).wr W42 (Or.inl (List.mem_cons_self ..))
  have F42_type := (F39_type.ext E40).same W42
  have F42_term := (F39_term.ext E40).other W42 (Or.inr (slot_ne (t := (.object "java/lang/String")) (t' := (.object "java/lang/String")) (Or.inr (hw _ (List.mem_of_getElem? (i := 59) rfl))) (Or.inr (hw _ (List.mem_of_getElem? (i := 62) rfl))) (by decide) (by decide) (by decide)))
  have F42_startOffset := (F39_startOffset.ext E40).other W42 (Or.inr (slot_ne (t := .int) (t' := (.object "java/lang/String")) (Or.inr (hw _ (List.mem_of_getElem? (i := 64) rfl))) (Or.inr (hw _ (List.mem_of_getElem? (i := 62) rfl))) (by decide) (by decide) (by decide)))
  have F42_endOffset := (F39_endOffset.ext E40).other W42 (Or.inr (slot_ne (t := .int) (t' := (.object "java/lang/String")) (Or.inr (hw _ (List.mem_of_getElem? (i := 66) rfl))) (Or.inr (hw _ (List.mem_of_getElem? (i := 62) rfl))) (by decide) (by decide) (by decide)))
  have F42_position := (F39_position.ext E40).other W42 (Or.inr (slot_ne (t := .int) (t' := (.object "java/lang/String")) (Or.inr (hw _ (List.mem_of_getElem? (i := 68) rfl))) (Or.inr (hw _ (List.mem_of_getElem? (i := 62) rfl))) (by decide) (by decide) (by decide)))
  have A42_t := (A39_t.ext E40).wr W42
  have A42_y := (A39_y.ext E40).wr W42
  refine WP.iloadN (n := 32) dKI_31 rfl rfl ?_
  refine WP.ifcN (n' := 35) dKI_32 ((if0 _ _).trans (flt hs).1) rfl ?_
  refine WP.iloadN (n := 36) dKI_35 rfl rfl ?_
  refine WP.iloadN (n := 37) dKI_36 rfl rfl ?_
  refine WP.icmpN (n' := 40) dKI_37 (flt he).1 rfl ?_
  refine WP.iload (n := 42) dKI_40 rfl rfl ?_
  refine WP.ifcY (n := 62) dKI_42 ((if0 _ _).trans (flt hp).2.1) (by decide) (by decide) ?_
  refine WP.aloadN (n := 63) dKI_62 rfl rfl rfl ?_
  refine WP.iloadN (n := 64) dKI_63 rfl rfl ?_
  refine WP.putFE (n := 67) (host := "") (ty := .int) dKI_64 (Or.inl (hw _ (List.mem_of_getElem? (i := 63) rfl))) Via.refl F42_startOffset A42 (Or.inr ⟨(hw _ (List.mem_of_getElem? (i := 64) rfl)), rfl, rfl⟩) (hw _ (List.mem_of_getElem? (i := 9) rfl)) (by decide) rfl rfl hN (by decide) rfl (fun h43 W43 r43 => ?_)
  have A43 := A42.wr W43
  have K43 := K42.wr W43 (Or.inl (List.mem_cons_self ..))
  have F43_startOffset := F42_startOffset.same W43
  have F43_term := F42_term.other W43 (Or.inr (slot_ne (t := (.object "java/lang/String")) (t' := .int) (Or.inr (hw _ (List.mem_of_getElem? (i := 59) rfl))) (Or.inr (hw _ (List.mem_of_getElem? (i := 64) rfl))) (by decide) (by decide) (by decide)))
  have F43_type := F42_type.other W43 (Or.inr (slot_ne (t := (.object "java/lang/String")) (t' := .int) (Or.inr (hw _ (List.mem_of_getElem? (i := 62) rfl))) (Or.inr (hw _ (List.mem_of_getElem? (i := 64) rfl))) (by decide) (by decide) (by decide)))
  have F43_endOffset := F42_endOffset.other W43 (Or.inr (slot_ne (t := .int) (t' := .int) (Or.inr (hw _ (List.mem_of_getElem? (i := 66) rfl))) (Or.inr (hw _ (List.mem_of_getElem? (i := 64) rfl))) (by decide) (by decide) (by decide)))
  have F43_position := F42_position.other W43 (Or.inr (slot_ne (t := .int) (t' := .int) (Or.inr (hw _ (List.mem_of_getElem? (i := 68) rfl))) (Or.inr (hw _ (List.mem_of_getElem? (i := 64) rfl))) (by decide) (by decide) (by decide)))
  have A43_t := A42_t.wr W43
  have A43_y := A42_y.wr W43
  refine WP.aloadN (n := 68) dKI_67 rfl rfl rfl ?_
  refine WP.iloadN (n := 69) dKI_68 rfl rfl ?_
  refine WP.putFE (n := 72) (host := "") (ty := .int) dKI_69 (Or.inl (hw _ (List.mem_of_getElem? (i := 65) rfl))) Via.refl F43_endOffset A43 (Or.inr ⟨(hw _ (List.mem_of_getElem? (i := 66) rfl)), rfl, rfl⟩) (hw _ (List.mem_of_getElem? (i := 9) rfl)) (by decide) rfl rfl hN (by decide) rfl (fun h44 W44 r44 => ?_)
  have A44 := A43.wr W44
  have K44 := K43.wr W44 (Or.inl (List.mem_cons_self ..))
  have F44_endOffset := F43_endOffset.same W44
  have F44_term := F43_term.other W44 (Or.inr (slot_ne (t := (.object "java/lang/String")) (t' := .int) (Or.inr (hw _ (List.mem_of_getElem? (i := 59) rfl))) (Or.inr (hw _ (List.mem_of_getElem? (i := 66) rfl))) (by decide) (by decide) (by decide)))
  have F44_type := F43_type.other W44 (Or.inr (slot_ne (t := (.object "java/lang/String")) (t' := .int) (Or.inr (hw _ (List.mem_of_getElem? (i := 62) rfl))) (Or.inr (hw _ (List.mem_of_getElem? (i := 66) rfl))) (by decide) (by decide) (by decide)))
  have F44_startOffset := F43_startOffset.other W44 (Or.inr (slot_ne (t := .int) (t' := .int) (Or.inr (hw _ (List.mem_of_getElem? (i := 64) rfl))) (Or.inr (hw _ (List.mem_of_getElem? (i := 66) rfl))) (by decide) (by decide) (by decide)))
  have F44_position := F43_position.other W44 (Or.inr (slot_ne (t := .int) (t' := .int) (Or.inr (hw _ (List.mem_of_getElem? (i := 68) rfl))) (Or.inr (hw _ (List.mem_of_getElem? (i := 66) rfl))) (by decide) (by decide) (by decide)))
  have A44_t := A43_t.wr W44
  have A44_y := A43_y.wr W44
  refine WP.aloadN (n := 73) dKI_72 rfl rfl rfl ?_
  refine WP.iload (n := 75) dKI_73 rfl rfl ?_
  refine WP.putFE (n := 78) (host := "") (ty := .int) dKI_75 (Or.inl (hw _ (List.mem_of_getElem? (i := 67) rfl))) Via.refl F44_position A44 (Or.inr ⟨(hw _ (List.mem_of_getElem? (i := 68) rfl)), rfl, rfl⟩) (hw _ (List.mem_of_getElem? (i := 9) rfl)) (by decide) rfl rfl hN (by decide) rfl (fun h45 W45 r45 => ?_)
  have A45 := A44.wr W45
  have K45 := K44.wr W45 (Or.inl (List.mem_cons_self ..))
  have F45_position := F44_position.same W45
  have F45_term := F44_term.other W45 (Or.inr (slot_ne (t := (.object "java/lang/String")) (t' := .int) (Or.inr (hw _ (List.mem_of_getElem? (i := 59) rfl))) (Or.inr (hw _ (List.mem_of_getElem? (i := 68) rfl))) (by decide) (by decide) (by decide)))
  have F45_type := F44_type.other W45 (Or.inr (slot_ne (t := (.object "java/lang/String")) (t' := .int) (Or.inr (hw _ (List.mem_of_getElem? (i := 62) rfl))) (Or.inr (hw _ (List.mem_of_getElem? (i := 68) rfl))) (by decide) (by decide) (by decide)))
  have F45_startOffset := F44_startOffset.other W45 (Or.inr (slot_ne (t := .int) (t' := .int) (Or.inr (hw _ (List.mem_of_getElem? (i := 64) rfl))) (Or.inr (hw _ (List.mem_of_getElem? (i := 68) rfl))) (by decide) (by decide) (by decide)))
  have F45_endOffset := F44_endOffset.other W45 (Or.inr (slot_ne (t := .int) (t' := .int) (Or.inr (hw _ (List.mem_of_getElem? (i := 66) rfl))) (Or.inr (hw _ (List.mem_of_getElem? (i := 68) rfl))) (by decide) (by decide) (by decide)))
  have A45_t := A44_t.wr W45
  have A45_y := A44_y.wr W45
  refine WP.retV dKI_78 rfl (by decide) (by decide) ?_
  exact ⟨rfl, K45, A45, F45_term, F45_type, F45_startOffset, F45_endOffset, F45_position⟩
theorem dTE_0 : decode prog_9_method_2_code 0 = .ok (.aload_n 0, 1) := by decide +kernel
theorem dTE_1 : decode prog_9_method_2_code 1 = .ok (.getfield 17, 3) := by decide +kernel
theorem dTE_4 : decode prog_9_method_2_code 4 = .ok (.areturn, 1) := by decide +kernel
set_option maxRecDepth 65536 in
set_option maxHeartbeats 40000000 in
theorem own_term (l : Launch) (Z : State) (a0 : Array Value) (hw : ∀ d ∈ tables_1, d.before a0 Z = true) (EL : List (String × Nat)) (hEL : EW Z a0 EL) (h0 : Heap) (a t : Addr) (hF : Fld Z h0 a "com/example/esteem/esteem/core/analysis/Token" "term" "Ljava/lang/String;" (.ref t)) :
    Con l Z EL false [] (⟨"com/example/esteem/esteem/core/analysis/Token", "term", "()Ljava/lang/String;"⟩ : MethodName) prog_9_method_2_code 1 (some (.object "java/lang/String")) ({ frames := 0, cells := 0, slots := 0, locals := 0 } : Room) #[(.ref a)] h0 (fun v h' => v = some (.ref t) ∧ h0 = h') := by
  refine Con.of (Ls := #[.val (.ref a)]) (plainFor_of_name own_pn4) hEL (fun m => by first | (simp [entryFrame, mkF, argsToLocals, Value.category]; done) | rfl) ?_
  intro vm0 hZ0 hE0 hC0 hS0
  refine WP.aloadN (n := 1) dTE_0 rfl rfl rfl ?_
  refine WP.getF (n := 4) (host := "") dTE_1 (Or.inl (hw _ (List.mem_of_getElem? (i := 58) rfl))) Via.refl hF rfl ?_
  exact WP.retA dTE_4 rfl rfl rfl rfl (by decide) (by decide) ⟨rfl, rfl⟩
theorem dKE_0 : decode prog_9_method_9_code 0 = .ok (.aload_n 1, 1) := by decide +kernel
theorem dKE_1 : decode prog_9_method_9_code 1 = .ok (.instanceof 18, 3) := by decide +kernel
theorem dKE_4 : decode prog_9_method_9_code 4 = .ok (.ifCond .ne 5, 3) := by decide +kernel
theorem dKE_7 : decode prog_9_method_9_code 7 = .ok (.iconst 0, 1) := by decide +kernel
theorem dKE_8 : decode prog_9_method_9_code 8 = .ok (.ireturn, 1) := by decide +kernel
theorem dKE_9 : decode prog_9_method_9_code 9 = .ok (.aload_n 1, 1) := by decide +kernel
theorem dKE_10 : decode prog_9_method_9_code 10 = .ok (.checkcast 18, 3) := by decide +kernel
theorem dKE_13 : decode prog_9_method_9_code 13 = .ok (.astore_n 2, 1) := by decide +kernel
theorem dKE_14 : decode prog_9_method_9_code 14 = .ok (.aload_n 0, 1) := by decide +kernel
theorem dKE_15 : decode prog_9_method_9_code 15 = .ok (.getfield 17, 3) := by decide +kernel
theorem dKE_18 : decode prog_9_method_9_code 18 = .ok (.aload_n 2, 1) := by decide +kernel
theorem dKE_19 : decode prog_9_method_9_code 19 = .ok (.getfield 17, 3) := by decide +kernel
theorem dKE_22 : decode prog_9_method_9_code 22 = .ok (.invokevirtual 48, 3) := by decide +kernel
theorem dKE_25 : decode prog_9_method_9_code 25 = .ok (.ifCond .eq 54, 3) := by decide +kernel
theorem dKE_28 : decode prog_9_method_9_code 28 = .ok (.aload_n 0, 1) := by decide +kernel
theorem dKE_29 : decode prog_9_method_9_code 29 = .ok (.getfield 35, 3) := by decide +kernel
theorem dKE_32 : decode prog_9_method_9_code 32 = .ok (.aload_n 2, 1) := by decide +kernel
theorem dKE_33 : decode prog_9_method_9_code 33 = .ok (.getfield 35, 3) := by decide +kernel
theorem dKE_36 : decode prog_9_method_9_code 36 = .ok (.if_icmp .ne 43, 3) := by decide +kernel
theorem dKE_39 : decode prog_9_method_9_code 39 = .ok (.aload_n 0, 1) := by decide +kernel
theorem dKE_40 : decode prog_9_method_9_code 40 = .ok (.getfield 39, 3) := by decide +kernel
theorem dKE_43 : decode prog_9_method_9_code 43 = .ok (.aload_n 2, 1) := by decide +kernel
theorem dKE_44 : decode prog_9_method_9_code 44 = .ok (.getfield 39, 3) := by decide +kernel
theorem dKE_47 : decode prog_9_method_9_code 47 = .ok (.if_icmp .ne 32, 3) := by decide +kernel
theorem dKE_50 : decode prog_9_method_9_code 50 = .ok (.aload_n 0, 1) := by decide +kernel
theorem dKE_51 : decode prog_9_method_9_code 51 = .ok (.getfield 24, 3) := by decide +kernel
theorem dKE_54 : decode prog_9_method_9_code 54 = .ok (.aload_n 2, 1) := by decide +kernel
theorem dKE_55 : decode prog_9_method_9_code 55 = .ok (.getfield 24, 3) := by decide +kernel
theorem dKE_58 : decode prog_9_method_9_code 58 = .ok (.invokevirtual 48, 3) := by decide +kernel
theorem dKE_61 : decode prog_9_method_9_code 61 = .ok (.ifCond .eq 18, 3) := by decide +kernel
theorem dKE_64 : decode prog_9_method_9_code 64 = .ok (.aload_n 0, 1) := by decide +kernel
theorem dKE_65 : decode prog_9_method_9_code 65 = .ok (.getfield 42, 3) := by decide +kernel
theorem dKE_68 : decode prog_9_method_9_code 68 = .ok (.aload_n 2, 1) := by decide +kernel
theorem dKE_69 : decode prog_9_method_9_code 69 = .ok (.getfield 42, 3) := by decide +kernel
theorem dKE_72 : decode prog_9_method_9_code 72 = .ok (.if_icmp .ne 7, 3) := by decide +kernel
theorem dKE_75 : decode prog_9_method_9_code 75 = .ok (.iconst 1, 1) := by decide +kernel
theorem dKE_76 : decode prog_9_method_9_code 76 = .ok (.goto 4, 3) := by decide +kernel
theorem dKE_79 : decode prog_9_method_9_code 79 = .ok (.iconst 0, 1) := by decide +kernel
theorem dKE_80 : decode prog_9_method_9_code 80 = .ok (.ireturn, 1) := by decide +kernel
set_option maxRecDepth 65536 in
set_option maxHeartbeats 40000000 in
theorem own_keN (l : Launch) (Z : State) (a0 : Array Value) (hw : ∀ d ∈ tables_1, d.before a0 Z = true) (EL : List (String × Nat)) (hEL : EW Z a0 EL) (h0 : Heap) (a : Addr) :
    Con l Z EL false [] (⟨"com/example/esteem/esteem/core/analysis/Token", "equals", "(Ljava/lang/Object;)Z"⟩ : MethodName) prog_9_method_9_code 3 (some .boolean) ({ frames := 2, cells := 0, slots := 0, locals := 28 } : Room) #[(.ref a), .null] h0 (fun v h' => v = some (.int 0) ∧ h0 = h') := by
  refine Con.of (Ls := #[.val (.ref a), .val .null, .unset]) (plainFor_of_name own_pn4) hEL (fun m => by first | (simp [entryFrame, mkF, argsToLocals, Value.category]; done) | rfl) ?_
  intro vm0 hZ0 hE0 hC0 hS0
  refine WP.aloadN (n := 1) dKE_0 rfl rfl rfl ?_
  refine WP.instNull (n := 4) dKE_1 rfl ?_
  refine WP.ifcN (n' := 7) dKE_4 (by decide) rfl ?_
  refine WP.iconst (n := 8) (z := (0 : Int32)) dKE_7 rfl rfl ?_
  exact WP.retN dKE_8 rfl (Or.inl rfl) (by decide : nar .boolean 0 = 0) (by decide) (by decide) ⟨rfl, rfl⟩
set_option maxRecDepth 65536 in
set_option maxHeartbeats 40000000 in
theorem own_keS (l : Launch) (Z : State) (a0 : Array Value) (hw : ∀ d ∈ tables_1, d.before a0 Z = true) (EL : List (String × Nat)) (hEL : EW Z a0 EL) (h0 : Heap) (a b : Addr) (B : Exa Z h0 b "java/lang/String") :
    Con l Z EL false [] (⟨"com/example/esteem/esteem/core/analysis/Token", "equals", "(Ljava/lang/Object;)Z"⟩ : MethodName) prog_9_method_9_code 3 (some .boolean) ({ frames := 2, cells := 0, slots := 0, locals := 28 } : Room) #[(.ref a), (.ref b)] h0 (fun v h' => v = some (.int 0) ∧ h0 = h') := by
  refine Con.of (Ls := #[.val (.ref a), .val (.ref b), .unset]) (plainFor_of_name own_pn4) hEL (fun m => by first | (simp [entryFrame, mkF, argsToLocals, Value.category]; done) | rfl) ?_
  intro vm0 hZ0 hE0 hC0 hS0
  refine WP.aloadN (n := 1) dKE_0 rfl rfl rfl ?_
  refine WP.instNo (n := 4) dKE_1 (hw _ (List.mem_of_getElem? (i := 77) rfl)) B (own_noinst (hw _ (List.mem_of_getElem? (i := 106) rfl)) (hw _ (List.mem_of_getElem? (i := 107) rfl)) (hw _ (List.mem_of_getElem? (i := 9) rfl)) (by decide) (by decide)) rfl ?_
  refine WP.ifcN (n' := 7) dKE_4 (by decide) rfl ?_
  refine WP.iconst (n := 8) (z := (0 : Int32)) dKE_7 rfl rfl ?_
  exact WP.retN dKE_8 rfl (Or.inl rfl) (by decide : nar .boolean 0 = 0) (by decide) (by decide) ⟨rfl, rfl⟩
set_option maxRecDepth 65536 in
set_option maxHeartbeats 40000000 in
theorem own_keK (l : Launch) (Z : State) (a0 : Array Value) (hw : ∀ d ∈ tables_1, d.before a0 Z = true) (EL : List (String × Nat)) (hEL : EW Z a0 EL) (h0 : Heap) (a b t t' y y' : Addr) (s s' e e' p p' : Int32) (bt bt' bz bz' : List Int32) (B : Exa Z h0 b "com/example/esteem/esteem/core/analysis/Token") (F_term : Fld Z h0 a "com/example/esteem/esteem/core/analysis/Token" "term" "Ljava/lang/String;" (.ref t)) (F_type : Fld Z h0 a "com/example/esteem/esteem/core/analysis/Token" "type" "Ljava/lang/String;" (.ref y)) (F_startOffset : Fld Z h0 a "com/example/esteem/esteem/core/analysis/Token" "startOffset" "I" (.int s)) (F_endOffset : Fld Z h0 a "com/example/esteem/esteem/core/analysis/Token" "endOffset" "I" (.int e)) (F_position : Fld Z h0 a "com/example/esteem/esteem/core/analysis/Token" "position" "I" (.int p)) (G_term : Fld Z h0 b "com/example/esteem/esteem/core/analysis/Token" "term" "Ljava/lang/String;" (.ref t')) (G_type : Fld Z h0 b "com/example/esteem/esteem/core/analysis/Token" "type" "Ljava/lang/String;" (.ref y')) (G_startOffset : Fld Z h0 b "com/example/esteem/esteem/core/analysis/Token" "startOffset" "I" (.int s')) (G_endOffset : Fld Z h0 b "com/example/esteem/esteem/core/analysis/Token" "endOffset" "I" (.int e')) (G_position : Fld Z h0 b "com/example/esteem/esteem/core/analysis/Token" "position" "I" (.int p')) (St : Str Z h0 t bt) (St' : Str Z h0 t' bt') (Sy : Str Z h0 y bz) (Sy' : Str Z h0 y' bz') (cz : Int32) (O : Sta Z Z.heap "java/lang/String" "COMPACT_STRINGS" "Z" (.int cz)) (hO : ¬ cz = 0) :
    Con l Z EL false [] (⟨"com/example/esteem/esteem/core/analysis/Token", "equals", "(Ljava/lang/Object;)Z"⟩ : MethodName) prog_9_method_9_code 3 (some .boolean) ({ frames := 2, cells := 0, slots := 0, locals := 28 } : Room) #[(.ref a), (.ref b)] h0 (fun v h' => v = some (.int (if bt = bt' ∧ s = s' ∧ e = e' ∧ bz = bz' ∧ p = p' then 1 else 0)) ∧ h0 = h') := by
  refine Con.of (Ls := #[.val (.ref a), .val (.ref b), .unset]) (plainFor_of_name own_pn4) hEL (fun m => by first | (simp [entryFrame, mkF, argsToLocals, Value.category]; done) | rfl) ?_
  intro vm0 hZ0 hE0 hC0 hS0
  refine WP.aloadN (n := 1) dKE_0 rfl rfl rfl ?_
  refine WP.instY (n := 4) dKE_1 (hw _ (List.mem_of_getElem? (i := 77) rfl)) (Ins.self B) rfl ?_
  refine WP.ifcY (n := 9) dKE_4 (by decide) (by decide) (by decide) ?_
  refine WP.aloadN (n := 10) dKE_9 rfl rfl rfl ?_
  refine WP.castY (n := 13) dKE_10 (hw _ (List.mem_of_getElem? (i := 77) rfl)) (Ins.self B) rfl ?_
  refine WP.astoreN (n := 14) (Ls' := #[.val (.ref a), .val (.ref b), .val (.ref b)]) dKE_13 rfl rfl rfl ?_
  refine WP.aloadN (n := 15) dKE_14 rfl rfl rfl ?_
  refine WP.getF (n := 18) (host := "") dKE_15 (Or.inl (hw _ (List.mem_of_getElem? (i := 58) rfl))) Via.refl F_term rfl ?_
  refine WP.aloadN (n := 19) dKE_18 rfl rfl rfl ?_
  refine WP.getF (n := 22) (host := "") dKE_19 (Or.inl (hw _ (List.mem_of_getElem? (i := 58) rfl))) Via.refl G_term rfl ?_
  refine WP.callV (n := 25) (ce' := 0) (sl' := 0) (Wd := 0) (a := t) (argsL := [(.ref t')]) (rest := []) (own_seq l Z a0 hw EL hEL h0 t t' bt bt' St St' cz O hO) St.1 dKE_22 (hw _ (List.mem_of_getElem? (i := 79) rfl)) (hw _ (List.mem_of_getElem? (i := 80) rfl)) (hw _ (List.mem_of_getElem? (i := 82) rfl)) (hw _ (List.mem_of_getElem? (i := 81) rfl)) (hw _ (List.mem_of_getElem? (i := 17) rfl)) (hw _ (List.mem_of_getElem? (i := 83) rfl)) (by decide) (fun _ hz => notFace_of_selects (args := #[]) (mvT hz (hw _ (List.mem_of_getElem? (i := 82) rfl)))) (fun _ q => nomatch q) (by decide) (by decide) rfl rfl (by decide) (by decide) rfl rfl (lenOf own_pd8 rfl) rfl (Nat.le_of_eq rfl) rfl (fun v46 vm46 h46 q46 r46 => ?_)
  obtain ⟨rfl, rfl⟩ := q46
  by_cases ht : bt = bt'
  · rw [if_pos ht]
    refine WP.ifcN (n' := 28) dKE_25 (by decide) rfl ?_
    refine WP.aloadN (n := 29) dKE_28 rfl rfl rfl ?_
    refine WP.getF (n := 32) (host := "") dKE_29 (Or.inl (hw _ (List.mem_of_getElem? (i := 63) rfl))) Via.refl F_startOffset rfl ?_
    refine WP.aloadN (n := 33) dKE_32 rfl rfl rfl ?_
    refine WP.getF (n := 36) (host := "") dKE_33 (Or.inl (hw _ (List.mem_of_getElem? (i := 63) rfl))) Via.refl G_startOffset rfl ?_
    refine WP.icmp_ne (n := 79) (n' := 39) dKE_36 (by decide) (by decide) rfl (fun b47 => ?_) (fun b47 => ?_)
    · refine WP.iconst (n := 80) (z := (0 : Int32)) dKE_79 rfl rfl ?_
      exact WP.retN dKE_80 rfl (Or.inl rfl) (by decide : nar .boolean 0 = 0) (by decide) (by decide) ⟨by first | rfl | rw [if_neg (fun q => b47 q.2.1)], rfl⟩
    · refine WP.aloadN (n := 40) dKE_39 rfl rfl rfl ?_
      refine WP.getF (n := 43) (host := "") dKE_40 (Or.inl (hw _ (List.mem_of_getElem? (i := 65) rfl))) Via.refl F_endOffset rfl ?_
      refine WP.aloadN (n := 44) dKE_43 rfl rfl rfl ?_
      refine WP.getF (n := 47) (host := "") dKE_44 (Or.inl (hw _ (List.mem_of_getElem? (i := 65) rfl))) Via.refl G_endOffset rfl ?_
      refine WP.icmp_ne (n := 79) (n' := 50) dKE_47 (by decide) (by decide) rfl (fun b48 => ?_) (fun b48 => ?_)
      · refine WP.iconst (n := 80) (z := (0 : Int32)) dKE_79 rfl rfl ?_
        exact WP.retN dKE_80 rfl (Or.inl rfl) (by decide : nar .boolean 0 = 0) (by decide) (by decide) ⟨by first | rfl | rw [if_neg (fun q => b48 q.2.2.1)], rfl⟩
      · refine WP.aloadN (n := 51) dKE_50 rfl rfl rfl ?_
        refine WP.getF (n := 54) (host := "") dKE_51 (Or.inl (hw _ (List.mem_of_getElem? (i := 61) rfl))) Via.refl F_type rfl ?_
        refine WP.aloadN (n := 55) dKE_54 rfl rfl rfl ?_
        refine WP.getF (n := 58) (host := "") dKE_55 (Or.inl (hw _ (List.mem_of_getElem? (i := 61) rfl))) Via.refl G_type rfl ?_
        refine WP.callV (n := 61) (ce' := 0) (sl' := 0) (Wd := 0) (a := y) (argsL := [(.ref y')]) (rest := []) (own_seq l Z a0 hw EL hEL h0 y y' bz bz' Sy Sy' cz O hO) Sy.1 dKE_58 (hw _ (List.mem_of_getElem? (i := 79) rfl)) (hw _ (List.mem_of_getElem? (i := 80) rfl)) (hw _ (List.mem_of_getElem? (i := 82) rfl)) (hw _ (List.mem_of_getElem? (i := 81) rfl)) (hw _ (List.mem_of_getElem? (i := 17) rfl)) (hw _ (List.mem_of_getElem? (i := 83) rfl)) (by decide) (fun _ hz => notFace_of_selects (args := #[]) (mvT hz (hw _ (List.mem_of_getElem? (i := 82) rfl)))) (fun _ q => nomatch q) (by decide) (by decide) rfl rfl (by decide) (by decide) rfl rfl (lenOf own_pd8 rfl) rfl (Nat.le_of_eq rfl) rfl (fun v49 vm49 h49 q49 r49 => ?_)
        obtain ⟨rfl, rfl⟩ := q49
        by_cases hy : bz = bz'
        · rw [if_pos hy]
          refine WP.ifcN (n' := 64) dKE_61 (by decide) rfl ?_
          refine WP.aloadN (n := 65) dKE_64 rfl rfl rfl ?_
          refine WP.getF (n := 68) (host := "") dKE_65 (Or.inl (hw _ (List.mem_of_getElem? (i := 67) rfl))) Via.refl F_position rfl ?_
          refine WP.aloadN (n := 69) dKE_68 rfl rfl rfl ?_
          refine WP.getF (n := 72) (host := "") dKE_69 (Or.inl (hw _ (List.mem_of_getElem? (i := 67) rfl))) Via.refl G_position rfl ?_
          refine WP.icmp_ne (n := 79) (n' := 75) dKE_72 (by decide) (by decide) rfl (fun b50 => ?_) (fun b50 => ?_)
          · refine WP.iconst (n := 80) (z := (0 : Int32)) dKE_79 rfl rfl ?_
            exact WP.retN dKE_80 rfl (Or.inl rfl) (by decide : nar .boolean 0 = 0) (by decide) (by decide) ⟨by first | rfl | rw [if_neg (fun q => b50 q.2.2.2.2)], rfl⟩
          · refine WP.iconst (n := 76) (z := (1 : Int32)) dKE_75 rfl rfl ?_
            refine WP.goto (n := 80) dKE_76 (by decide) (by decide) ?_
            exact WP.retN dKE_80 rfl (Or.inl rfl) (by decide : nar .boolean 1 = 1) (by decide) (by decide) ⟨by first | rfl | rw [if_pos ⟨ht, b47, b48, hy, b50⟩], rfl⟩
        · rw [if_neg hy]
          refine WP.ifcY (n := 79) dKE_61 (by decide) (by decide) (by decide) ?_
          refine WP.iconst (n := 80) (z := (0 : Int32)) dKE_79 rfl rfl ?_
          exact WP.retN dKE_80 rfl (Or.inl rfl) (by decide : nar .boolean 0 = 0) (by decide) (by decide) ⟨by first | rfl | rw [if_neg (fun q => hy q.2.2.2.1)], rfl⟩
  · rw [if_neg ht]
    refine WP.ifcY (n := 79) dKE_25 (by decide) (by decide) (by decide) ?_
    refine WP.iconst (n := 80) (z := (0 : Int32)) dKE_79 rfl rfl ?_
    exact WP.retN dKE_80 rfl (Or.inl rfl) (by decide : nar .boolean 0 = 0) (by decide) (by decide) ⟨by first | rfl | rw [if_neg (fun q => ht q.1)], rfl⟩
set_option maxRecDepth 65536 in
set_option maxHeartbeats 40000000 in
theorem own_law (l : Launch) (Z : State) (a0 : Array Value) (hw : ∀ d ∈ tables_1, d.before a0 Z = true) (EL : List (String × Nat)) (hEL : EW Z a0 EL) (h0 : Heap) (o1 o2 : Int64) (te ty : Int32) (po : Int64) (f : Int32) (hm : ("java/lang/String", 7) ∈ EL) (cz : Int32) (O : Sta Z Z.heap "java/lang/String" "COMPACT_STRINGS" "Z" (.int cz)) (hO : ¬ cz = 0) :
    Con l Z EL false [] x code maxLocals ret room_1 #[(.long o1), (.long o2), (.int te), (.int ty), (.long po), (.int f)] h0 (fun v _ => v = some (.int 1)) := by
  refine Con.of (Ls := #[.val (.long o1), .second, .val (.long o2), .second, .val (.int te), .val (.int ty), .val (.long po), .second, .val (.int f), .unset, .unset, .unset, .unset, .unset, .unset, .unset, .unset, .unset, .unset, .unset, .unset, .unset, .unset, .unset, .unset, .unset, .unset, .unset, .unset, .unset, .unset, .unset, .unset, .unset, .unset, .unset, .unset, .unset, .unset]) (plainFor_of_name own_pn3) hEL (fun m => by first | (simp [entryFrame, mkF, argsToLocals, Value.category, maxLocals]; done) | rfl) ?_
  intro vm0 hZ0 hE0 hC0 hS0
  show WP l Z EL false "com/example/esteem/esteem/core/analysis/TokenEqualsPinLaw" "law" code maxLocals ret room_1 _ vm0 h0 0 0 0 _ _
  refine WP.iload (n := 2) at_0 rfl rfl ?_
  refine WP.iconst (n := 3) (z := (3 : Int32)) at_2 rfl rfl ?_
  refine WP.iand (n := 4) at_3  rfl ?_
  refine WP.iconst (n := 5) (z := (2 : Int32)) at_4 rfl rfl ?_
  refine WP.callS (n := 8) (ce' := 0) (sl' := 0) (Wd := 0) (argsL := [(.int (f &&& (3 : Int32))), (.int (2 : Int32))]) (rest := []) (own_min l Z a0 hw EL hEL h0 (f &&& (3 : Int32)) (2 : Int32)) at_5 (hw _ (List.mem_of_getElem? (i := 0) rfl)) (hw _ (List.mem_of_getElem? (i := 1) rfl)) (hw _ (List.mem_of_getElem? (i := 2) rfl)) (hw _ (List.mem_of_getElem? (i := 3) rfl)) (by decide) (fun _ q => nomatch q) (by decide) (by decide) rfl rfl (by decide) (by decide) rfl rfl (lenOf own_pd9 rfl) rfl (Nat.le_of_eq rfl) rfl (fun v51 vm51 h51 q51 r51 => ?_)
  obtain ⟨rfl, rfl⟩ := q51
  have htn1 := own_t3 f
  generalize (own_mn (f &&& (3 : Int32)) (2 : Int32)) = tn1 at htn1 ⊢
  refine WP.istore (n := 10) (Ls' := #[.val (.long o1), .second, .val (.long o2), .second, .val (.int te), .val (.int ty), .val (.long po), .second, .val (.int f), .val (.int tn1), .unset, .unset, .unset, .unset, .unset, .unset, .unset, .unset, .unset, .unset, .unset, .unset, .unset, .unset, .unset, .unset, .unset, .unset, .unset, .unset, .unset, .unset, .unset, .unset, .unset, .unset, .unset, .unset, .unset]) at_8 rfl rfl ?_
  refine WP.iload (n := 12) at_10 rfl rfl ?_
  refine WP.iconst (n := 13) (z := (2 : Int32)) at_12 rfl rfl ?_
  refine WP.iushr (n := 14) at_13  rfl ?_
  refine WP.iconst (n := 15) (z := (3 : Int32)) at_14 rfl rfl ?_
  refine WP.iand (n := 16) at_15  rfl ?_
  refine WP.iconst (n := 17) (z := (2 : Int32)) at_16 rfl rfl ?_
  refine WP.callS (n := 20) (ce' := 0) (sl' := 0) (Wd := 0) (argsL := [(.int ((XT.ushr f (2 : Int32)) &&& (3 : Int32))), (.int (2 : Int32))]) (rest := []) (own_min l Z a0 hw EL hEL h0 ((XT.ushr f (2 : Int32)) &&& (3 : Int32)) (2 : Int32)) at_17 (hw _ (List.mem_of_getElem? (i := 0) rfl)) (hw _ (List.mem_of_getElem? (i := 1) rfl)) (hw _ (List.mem_of_getElem? (i := 2) rfl)) (hw _ (List.mem_of_getElem? (i := 3) rfl)) (by decide) (fun _ q => nomatch q) (by decide) (by decide) rfl rfl (by decide) (by decide) rfl rfl (lenOf own_pd9 rfl) rfl (Nat.le_of_eq rfl) rfl (fun v52 vm52 h52 q52 r52 => ?_)
  obtain ⟨rfl, rfl⟩ := q52
  have htn2 := own_t3 (XT.ushr f (2 : Int32))
  generalize (own_mn ((XT.ushr f (2 : Int32)) &&& (3 : Int32)) (2 : Int32)) = tn2 at htn2 ⊢
  refine WP.istore (n := 22) (Ls' := #[.val (.long o1), .second, .val (.long o2), .second, .val (.int te), .val (.int ty), .val (.long po), .second, .val (.int f), .val (.int tn1), .val (.int tn2), .unset, .unset, .unset, .unset, .unset, .unset, .unset, .unset, .unset, .unset, .unset, .unset, .unset, .unset, .unset, .unset, .unset, .unset, .unset, .unset, .unset, .unset, .unset, .unset, .unset, .unset, .unset, .unset]) at_20 rfl rfl ?_
  refine WP.iload (n := 24) at_22 rfl rfl ?_
  refine WP.iconst (n := 25) (z := (4 : Int32)) at_24 rfl rfl ?_
  refine WP.iushr (n := 26) at_25  rfl ?_
  refine WP.iconst (n := 27) (z := (3 : Int32)) at_26 rfl rfl ?_
  refine WP.iand (n := 28) at_27  rfl ?_
  refine WP.iconst (n := 29) (z := (2 : Int32)) at_28 rfl rfl ?_
  refine WP.callS (n := 32) (ce' := 0) (sl' := 0) (Wd := 0) (argsL := [(.int ((XT.ushr f (4 : Int32)) &&& (3 : Int32))), (.int (2 : Int32))]) (rest := []) (own_min l Z a0 hw EL hEL h0 ((XT.ushr f (4 : Int32)) &&& (3 : Int32)) (2 : Int32)) at_29 (hw _ (List.mem_of_getElem? (i := 0) rfl)) (hw _ (List.mem_of_getElem? (i := 1) rfl)) (hw _ (List.mem_of_getElem? (i := 2) rfl)) (hw _ (List.mem_of_getElem? (i := 3) rfl)) (by decide) (fun _ q => nomatch q) (by decide) (by decide) rfl rfl (by decide) (by decide) rfl rfl (lenOf own_pd9 rfl) rfl (Nat.le_of_eq rfl) rfl (fun v53 vm53 h53 q53 r53 => ?_)
  obtain ⟨rfl, rfl⟩ := q53
  have hyn1 := own_t3 (XT.ushr f (4 : Int32))
  generalize (own_mn ((XT.ushr f (4 : Int32)) &&& (3 : Int32)) (2 : Int32)) = yn1 at hyn1 ⊢
  refine WP.istore (n := 34) (Ls' := #[.val (.long o1), .second, .val (.long o2), .second, .val (.int te), .val (.int ty), .val (.long po), .second, .val (.int f), .val (.int tn1), .val (.int tn2), .val (.int yn1), .unset, .unset, .unset, .unset, .unset, .unset, .unset, .unset, .unset, .unset, .unset, .unset, .unset, .unset, .unset, .unset, .unset, .unset, .unset, .unset, .unset, .unset, .unset, .unset, .unset, .unset, .unset]) at_32 rfl rfl ?_
  refine WP.iload (n := 36) at_34 rfl rfl ?_
  refine WP.bipush (n := 38) (z := (6 : Int32)) at_36 (by decide) rfl ?_
  refine WP.iushr (n := 39) at_38  rfl ?_
  refine WP.iconst (n := 40) (z := (3 : Int32)) at_39 rfl rfl ?_
  refine WP.iand (n := 41) at_40  rfl ?_
  refine WP.iconst (n := 42) (z := (2 : Int32)) at_41 rfl rfl ?_
  refine WP.callS (n := 45) (ce' := 0) (sl' := 0) (Wd := 0) (argsL := [(.int ((XT.ushr f (6 : Int32)) &&& (3 : Int32))), (.int (2 : Int32))]) (rest := []) (own_min l Z a0 hw EL hEL h0 ((XT.ushr f (6 : Int32)) &&& (3 : Int32)) (2 : Int32)) at_42 (hw _ (List.mem_of_getElem? (i := 0) rfl)) (hw _ (List.mem_of_getElem? (i := 1) rfl)) (hw _ (List.mem_of_getElem? (i := 2) rfl)) (hw _ (List.mem_of_getElem? (i := 3) rfl)) (by decide) (fun _ q => nomatch q) (by decide) (by decide) rfl rfl (by decide) (by decide) rfl rfl (lenOf own_pd9 rfl) rfl (Nat.le_of_eq rfl) rfl (fun v54 vm54 h54 q54 r54 => ?_)
  obtain ⟨rfl, rfl⟩ := q54
  have hyn2 := own_t3 (XT.ushr f (6 : Int32))
  generalize (own_mn ((XT.ushr f (6 : Int32)) &&& (3 : Int32)) (2 : Int32)) = yn2 at hyn2 ⊢
  refine WP.istore (n := 47) (Ls' := #[.val (.long o1), .second, .val (.long o2), .second, .val (.int te), .val (.int ty), .val (.long po), .second, .val (.int f), .val (.int tn1), .val (.int tn2), .val (.int yn1), .val (.int yn2), .unset, .unset, .unset, .unset, .unset, .unset, .unset, .unset, .unset, .unset, .unset, .unset, .unset, .unset, .unset, .unset, .unset, .unset, .unset, .unset, .unset, .unset, .unset, .unset, .unset, .unset]) at_45 rfl rfl ?_
  refine WP.iload (n := 49) at_47 rfl rfl ?_
  refine WP.bipush (n := 51) (z := (8 : Int32)) at_49 (by decide) rfl ?_
  refine WP.iushr (n := 52) at_51  rfl ?_
  refine WP.iconst (n := 53) (z := (1 : Int32)) at_52 rfl rfl ?_
  refine WP.iand (n := 54) at_53  rfl ?_
  have J1 : ∀ (fJ1 : Int32), WP l Z EL false "com/example/esteem/esteem/core/analysis/TokenEqualsPinLaw" "law" code maxLocals ret room_1 (fun v _ => v = some (.int 1)) vm54 h0 0 0 62 #[.val (.long o1), .second, .val (.long o2), .second, .val (.int te), .val (.int ty), .val (.long po), .second, .val (.int f), .val (.int tn1), .val (.int tn2), .val (.int yn1), .val (.int yn2), .unset, .unset, .unset, .unset, .unset, .unset, .unset, .unset, .unset, .unset, .unset, .unset, .unset, .unset, .unset, .unset, .unset, .unset, .unset, .unset, .unset, .unset, .unset, .unset, .unset, .unset] [(.int fJ1)] := by
    intro fJ1
    refine WP.istore (n := 64) (Ls' := #[.val (.long o1), .second, .val (.long o2), .second, .val (.int te), .val (.int ty), .val (.long po), .second, .val (.int f), .val (.int tn1), .val (.int tn2), .val (.int yn1), .val (.int yn2), .val (.int fJ1), .unset, .unset, .unset, .unset, .unset, .unset, .unset, .unset, .unset, .unset, .unset, .unset, .unset, .unset, .unset, .unset, .unset, .unset, .unset, .unset, .unset, .unset, .unset, .unset, .unset]) at_62 rfl rfl ?_
    refine WP.iload (n := 66) at_64 rfl rfl ?_
    refine WP.bipush (n := 68) (z := (9 : Int32)) at_66 (by decide) rfl ?_
    refine WP.iushr (n := 69) at_68  rfl ?_
    refine WP.iconst (n := 70) (z := (1 : Int32)) at_69 rfl rfl ?_
    refine WP.iand (n := 71) at_70  rfl ?_
    have J2 : ∀ (fJ2 : Int32), WP l Z EL false "com/example/esteem/esteem/core/analysis/TokenEqualsPinLaw" "law" code maxLocals ret room_1 (fun v _ => v = some (.int 1)) vm54 h0 0 0 79 #[.val (.long o1), .second, .val (.long o2), .second, .val (.int te), .val (.int ty), .val (.long po), .second, .val (.int f), .val (.int tn1), .val (.int tn2), .val (.int yn1), .val (.int yn2), .val (.int fJ1), .unset, .unset, .unset, .unset, .unset, .unset, .unset, .unset, .unset, .unset, .unset, .unset, .unset, .unset, .unset, .unset, .unset, .unset, .unset, .unset, .unset, .unset, .unset, .unset, .unset] [(.int fJ2)] := by
      intro fJ2
      refine WP.istore (n := 81) (Ls' := #[.val (.long o1), .second, .val (.long o2), .second, .val (.int te), .val (.int ty), .val (.long po), .second, .val (.int f), .val (.int tn1), .val (.int tn2), .val (.int yn1), .val (.int yn2), .val (.int fJ1), .val (.int fJ2), .unset, .unset, .unset, .unset, .unset, .unset, .unset, .unset, .unset, .unset, .unset, .unset, .unset, .unset, .unset, .unset, .unset, .unset, .unset, .unset, .unset, .unset, .unset, .unset]) at_79 rfl rfl ?_
      refine WP.iload (n := 83) at_81 rfl rfl ?_
      refine WP.bipush (n := 85) (z := (10 : Int32)) at_83 (by decide) rfl ?_
      refine WP.iushr (n := 86) at_85  rfl ?_
      refine WP.iconst (n := 87) (z := (1 : Int32)) at_86 rfl rfl ?_
      refine WP.iand (n := 88) at_87  rfl ?_
      have J3 : ∀ (fJ3 : Int32), WP l Z EL false "com/example/esteem/esteem/core/analysis/TokenEqualsPinLaw" "law" code maxLocals ret room_1 (fun v _ => v = some (.int 1)) vm54 h0 0 0 96 #[.val (.long o1), .second, .val (.long o2), .second, .val (.int te), .val (.int ty), .val (.long po), .second, .val (.int f), .val (.int tn1), .val (.int tn2), .val (.int yn1), .val (.int yn2), .val (.int fJ1), .val (.int fJ2), .unset, .unset, .unset, .unset, .unset, .unset, .unset, .unset, .unset, .unset, .unset, .unset, .unset, .unset, .unset, .unset, .unset, .unset, .unset, .unset, .unset, .unset, .unset, .unset] [(.int fJ3)] := by
        intro fJ3
        refine WP.istore (n := 98) (Ls' := #[.val (.long o1), .second, .val (.long o2), .second, .val (.int te), .val (.int ty), .val (.long po), .second, .val (.int f), .val (.int tn1), .val (.int tn2), .val (.int yn1), .val (.int yn2), .val (.int fJ1), .val (.int fJ2), .val (.int fJ3), .unset, .unset, .unset, .unset, .unset, .unset, .unset, .unset, .unset, .unset, .unset, .unset, .unset, .unset, .unset, .unset, .unset, .unset, .unset, .unset, .unset, .unset, .unset]) at_96 rfl rfl ?_
        refine WP.iload (n := 100) at_98 rfl rfl ?_
        refine WP.bipush (n := 102) (z := (11 : Int32)) at_100 (by decide) rfl ?_
        refine WP.iushr (n := 103) at_102  rfl ?_
        refine WP.iconst (n := 104) (z := (1 : Int32)) at_103 rfl rfl ?_
        refine WP.iand (n := 105) at_104  rfl ?_
        have J4 : ∀ (fJ4 : Int32), WP l Z EL false "com/example/esteem/esteem/core/analysis/TokenEqualsPinLaw" "law" code maxLocals ret room_1 (fun v _ => v = some (.int 1)) vm54 h0 0 0 113 #[.val (.long o1), .second, .val (.long o2), .second, .val (.int te), .val (.int ty), .val (.long po), .second, .val (.int f), .val (.int tn1), .val (.int tn2), .val (.int yn1), .val (.int yn2), .val (.int fJ1), .val (.int fJ2), .val (.int fJ3), .unset, .unset, .unset, .unset, .unset, .unset, .unset, .unset, .unset, .unset, .unset, .unset, .unset, .unset, .unset, .unset, .unset, .unset, .unset, .unset, .unset, .unset, .unset] [(.int fJ4)] := by
          intro fJ4
          refine WP.istore (n := 115) (Ls' := #[.val (.long o1), .second, .val (.long o2), .second, .val (.int te), .val (.int ty), .val (.long po), .second, .val (.int f), .val (.int tn1), .val (.int tn2), .val (.int yn1), .val (.int yn2), .val (.int fJ1), .val (.int fJ2), .val (.int fJ3), .val (.int fJ4), .unset, .unset, .unset, .unset, .unset, .unset, .unset, .unset, .unset, .unset, .unset, .unset, .unset, .unset, .unset, .unset, .unset, .unset, .unset, .unset, .unset, .unset]) at_113 rfl rfl ?_
          refine WP.iload (n := 117) at_115 rfl rfl ?_
          refine WP.bipush (n := 119) (z := (12 : Int32)) at_117 (by decide) rfl ?_
          refine WP.iushr (n := 120) at_119  rfl ?_
          refine WP.iconst (n := 121) (z := (3 : Int32)) at_120 rfl rfl ?_
          refine WP.iand (n := 122) at_121  rfl ?_
          refine WP.istore (n := 124) (Ls' := #[.val (.long o1), .second, .val (.long o2), .second, .val (.int te), .val (.int ty), .val (.long po), .second, .val (.int f), .val (.int tn1), .val (.int tn2), .val (.int yn1), .val (.int yn2), .val (.int fJ1), .val (.int fJ2), .val (.int fJ3), .val (.int fJ4), .val (.int ((XT.ushr f (12 : Int32)) &&& (3 : Int32))), .unset, .unset, .unset, .unset, .unset, .unset, .unset, .unset, .unset, .unset, .unset, .unset, .unset, .unset, .unset, .unset, .unset, .unset, .unset, .unset, .unset]) at_122 rfl rfl ?_
          refine WP.iload (n := 126) at_124 rfl rfl ?_
          refine WP.sipush (n := 129) (z := (255 : Int32)) at_126 (by decide) rfl ?_
          refine WP.iand (n := 130) at_129  rfl ?_
          refine WP.i2c (n := 131) (z := (te &&& (255 : Int32))) at_130 (own_c16 (own_c8r _)) rfl ?_
          have hc0 := own_c8r te
          generalize (te &&& (255 : Int32)) = c0 at hc0 ⊢
          refine WP.istore (n := 133) (Ls' := #[.val (.long o1), .second, .val (.long o2), .second, .val (.int te), .val (.int ty), .val (.long po), .second, .val (.int f), .val (.int tn1), .val (.int tn2), .val (.int yn1), .val (.int yn2), .val (.int fJ1), .val (.int fJ2), .val (.int fJ3), .val (.int fJ4), .val (.int ((XT.ushr f (12 : Int32)) &&& (3 : Int32))), .val (.int c0), .unset, .unset, .unset, .unset, .unset, .unset, .unset, .unset, .unset, .unset, .unset, .unset, .unset, .unset, .unset, .unset, .unset, .unset, .unset, .unset]) at_131 rfl rfl ?_
          refine WP.iload (n := 135) at_133 rfl rfl ?_
          refine WP.bipush (n := 137) (z := (8 : Int32)) at_135 (by decide) rfl ?_
          refine WP.iushr (n := 138) at_137  rfl ?_
          refine WP.sipush (n := 141) (z := (255 : Int32)) at_138 (by decide) rfl ?_
          refine WP.iand (n := 142) at_141  rfl ?_
          refine WP.i2c (n := 143) (z := ((XT.ushr te (8 : Int32)) &&& (255 : Int32))) at_142 (own_c16 (own_c8r _)) rfl ?_
          have hc1 := own_c8r (XT.ushr te (8 : Int32))
          generalize ((XT.ushr te (8 : Int32)) &&& (255 : Int32)) = c1 at hc1 ⊢
          refine WP.istore (n := 145) (Ls' := #[.val (.long o1), .second, .val (.long o2), .second, .val (.int te), .val (.int ty), .val (.long po), .second, .val (.int f), .val (.int tn1), .val (.int tn2), .val (.int yn1), .val (.int yn2), .val (.int fJ1), .val (.int fJ2), .val (.int fJ3), .val (.int fJ4), .val (.int ((XT.ushr f (12 : Int32)) &&& (3 : Int32))), .val (.int c0), .val (.int c1), .unset, .unset, .unset, .unset, .unset, .unset, .unset, .unset, .unset, .unset, .unset, .unset, .unset, .unset, .unset, .unset, .unset, .unset, .unset]) at_143 rfl rfl ?_
          refine WP.iload (n := 147) at_145 rfl rfl ?_
          refine WP.bipush (n := 149) (z := (16 : Int32)) at_147 (by decide) rfl ?_
          refine WP.iushr (n := 150) at_149  rfl ?_
          refine WP.sipush (n := 153) (z := (255 : Int32)) at_150 (by decide) rfl ?_
          refine WP.iand (n := 154) at_153  rfl ?_
          refine WP.i2c (n := 155) (z := ((XT.ushr te (16 : Int32)) &&& (255 : Int32))) at_154 (own_c16 (own_c8r _)) rfl ?_
          have hd0 := own_c8r (XT.ushr te (16 : Int32))
          generalize ((XT.ushr te (16 : Int32)) &&& (255 : Int32)) = d0 at hd0 ⊢
          refine WP.istore (n := 157) (Ls' := #[.val (.long o1), .second, .val (.long o2), .second, .val (.int te), .val (.int ty), .val (.long po), .second, .val (.int f), .val (.int tn1), .val (.int tn2), .val (.int yn1), .val (.int yn2), .val (.int fJ1), .val (.int fJ2), .val (.int fJ3), .val (.int fJ4), .val (.int ((XT.ushr f (12 : Int32)) &&& (3 : Int32))), .val (.int c0), .val (.int c1), .val (.int d0), .unset, .unset, .unset, .unset, .unset, .unset, .unset, .unset, .unset, .unset, .unset, .unset, .unset, .unset, .unset, .unset, .unset, .unset]) at_155 rfl rfl ?_
          refine WP.iload (n := 159) at_157 rfl rfl ?_
          refine WP.bipush (n := 161) (z := (24 : Int32)) at_159 (by decide) rfl ?_
          refine WP.iushr (n := 162) at_161  rfl ?_
          refine WP.sipush (n := 165) (z := (255 : Int32)) at_162 (by decide) rfl ?_
          refine WP.iand (n := 166) at_165  rfl ?_
          refine WP.i2c (n := 167) (z := ((XT.ushr te (24 : Int32)) &&& (255 : Int32))) at_166 (own_c16 (own_c8r _)) rfl ?_
          have hd1 := own_c8r (XT.ushr te (24 : Int32))
          generalize ((XT.ushr te (24 : Int32)) &&& (255 : Int32)) = d1 at hd1 ⊢
          refine WP.istore (n := 169) (Ls' := #[.val (.long o1), .second, .val (.long o2), .second, .val (.int te), .val (.int ty), .val (.long po), .second, .val (.int f), .val (.int tn1), .val (.int tn2), .val (.int yn1), .val (.int yn2), .val (.int fJ1), .val (.int fJ2), .val (.int fJ3), .val (.int fJ4), .val (.int ((XT.ushr f (12 : Int32)) &&& (3 : Int32))), .val (.int c0), .val (.int c1), .val (.int d0), .val (.int d1), .unset, .unset, .unset, .unset, .unset, .unset, .unset, .unset, .unset, .unset, .unset, .unset, .unset, .unset, .unset, .unset, .unset]) at_167 rfl rfl ?_
          refine WP.iload (n := 171) at_169 rfl rfl ?_
          have J5 : ∀ (n2 : Int32) (e0 : Int32) (e1 : Int32), T3 n2 → (¬ e0 < 0 ∧ ¬ (255 : Int32) < e0) → (¬ e1 < 0 ∧ ¬ (255 : Int32) < e1) → WP l Z EL false "com/example/esteem/esteem/core/analysis/TokenEqualsPinLaw" "law" code maxLocals ret room_1 (fun v _ => v = some (.int 1)) vm54 h0 0 0 186 #[.val (.long o1), .second, .val (.long o2), .second, .val (.int te), .val (.int ty), .val (.long po), .second, .val (.int f), .val (.int tn1), .val (.int n2), .val (.int yn1), .val (.int yn2), .val (.int fJ1), .val (.int fJ2), .val (.int fJ3), .val (.int fJ4), .val (.int ((XT.ushr f (12 : Int32)) &&& (3 : Int32))), .val (.int c0), .val (.int c1), .val (.int e0), .val (.int e1), .unset, .unset, .unset, .unset, .unset, .unset, .unset, .unset, .unset, .unset, .unset, .unset, .unset, .unset, .unset, .unset, .unset] [] := by
            intro n2 e0 e1 hn2 he0 he1
            refine WP.iload (n := 188) at_186 rfl rfl ?_
            refine WP.sipush (n := 191) (z := (255 : Int32)) at_188 (by decide) rfl ?_
            refine WP.iand (n := 192) at_191  rfl ?_
            refine WP.i2c (n := 193) (z := (ty &&& (255 : Int32))) at_192 (own_c16 (own_c8r _)) rfl ?_
            have hy0 := own_c8r ty
            generalize (ty &&& (255 : Int32)) = y0 at hy0 ⊢
            refine WP.istore (n := 195) (Ls' := #[.val (.long o1), .second, .val (.long o2), .second, .val (.int te), .val (.int ty), .val (.long po), .second, .val (.int f), .val (.int tn1), .val (.int n2), .val (.int yn1), .val (.int yn2), .val (.int fJ1), .val (.int fJ2), .val (.int fJ3), .val (.int fJ4), .val (.int ((XT.ushr f (12 : Int32)) &&& (3 : Int32))), .val (.int c0), .val (.int c1), .val (.int e0), .val (.int e1), .val (.int y0), .unset, .unset, .unset, .unset, .unset, .unset, .unset, .unset, .unset, .unset, .unset, .unset, .unset, .unset, .unset, .unset]) at_193 rfl rfl ?_
            refine WP.iload (n := 197) at_195 rfl rfl ?_
            refine WP.bipush (n := 199) (z := (8 : Int32)) at_197 (by decide) rfl ?_
            refine WP.iushr (n := 200) at_199  rfl ?_
            refine WP.sipush (n := 203) (z := (255 : Int32)) at_200 (by decide) rfl ?_
            refine WP.iand (n := 204) at_203  rfl ?_
            refine WP.i2c (n := 205) (z := ((XT.ushr ty (8 : Int32)) &&& (255 : Int32))) at_204 (own_c16 (own_c8r _)) rfl ?_
            have hy1 := own_c8r (XT.ushr ty (8 : Int32))
            generalize ((XT.ushr ty (8 : Int32)) &&& (255 : Int32)) = y1 at hy1 ⊢
            refine WP.istore (n := 207) (Ls' := #[.val (.long o1), .second, .val (.long o2), .second, .val (.int te), .val (.int ty), .val (.long po), .second, .val (.int f), .val (.int tn1), .val (.int n2), .val (.int yn1), .val (.int yn2), .val (.int fJ1), .val (.int fJ2), .val (.int fJ3), .val (.int fJ4), .val (.int ((XT.ushr f (12 : Int32)) &&& (3 : Int32))), .val (.int c0), .val (.int c1), .val (.int e0), .val (.int e1), .val (.int y0), .val (.int y1), .unset, .unset, .unset, .unset, .unset, .unset, .unset, .unset, .unset, .unset, .unset, .unset, .unset, .unset, .unset]) at_205 rfl rfl ?_
            refine WP.iload (n := 209) at_207 rfl rfl ?_
            refine WP.bipush (n := 211) (z := (16 : Int32)) at_209 (by decide) rfl ?_
            refine WP.iushr (n := 212) at_211  rfl ?_
            refine WP.sipush (n := 215) (z := (255 : Int32)) at_212 (by decide) rfl ?_
            refine WP.iand (n := 216) at_215  rfl ?_
            refine WP.i2c (n := 217) (z := ((XT.ushr ty (16 : Int32)) &&& (255 : Int32))) at_216 (own_c16 (own_c8r _)) rfl ?_
            have hz0 := own_c8r (XT.ushr ty (16 : Int32))
            generalize ((XT.ushr ty (16 : Int32)) &&& (255 : Int32)) = z0 at hz0 ⊢
            refine WP.istore (n := 219) (Ls' := #[.val (.long o1), .second, .val (.long o2), .second, .val (.int te), .val (.int ty), .val (.long po), .second, .val (.int f), .val (.int tn1), .val (.int n2), .val (.int yn1), .val (.int yn2), .val (.int fJ1), .val (.int fJ2), .val (.int fJ3), .val (.int fJ4), .val (.int ((XT.ushr f (12 : Int32)) &&& (3 : Int32))), .val (.int c0), .val (.int c1), .val (.int e0), .val (.int e1), .val (.int y0), .val (.int y1), .val (.int z0), .unset, .unset, .unset, .unset, .unset, .unset, .unset, .unset, .unset, .unset, .unset, .unset, .unset, .unset]) at_217 rfl rfl ?_
            refine WP.iload (n := 221) at_219 rfl rfl ?_
            refine WP.bipush (n := 223) (z := (24 : Int32)) at_221 (by decide) rfl ?_
            refine WP.iushr (n := 224) at_223  rfl ?_
            refine WP.sipush (n := 227) (z := (255 : Int32)) at_224 (by decide) rfl ?_
            refine WP.iand (n := 228) at_227  rfl ?_
            refine WP.i2c (n := 229) (z := ((XT.ushr ty (24 : Int32)) &&& (255 : Int32))) at_228 (own_c16 (own_c8r _)) rfl ?_
            have hz1 := own_c8r (XT.ushr ty (24 : Int32))
            generalize ((XT.ushr ty (24 : Int32)) &&& (255 : Int32)) = z1 at hz1 ⊢
            refine WP.istore (n := 231) (Ls' := #[.val (.long o1), .second, .val (.long o2), .second, .val (.int te), .val (.int ty), .val (.long po), .second, .val (.int f), .val (.int tn1), .val (.int n2), .val (.int yn1), .val (.int yn2), .val (.int fJ1), .val (.int fJ2), .val (.int fJ3), .val (.int fJ4), .val (.int ((XT.ushr f (12 : Int32)) &&& (3 : Int32))), .val (.int c0), .val (.int c1), .val (.int e0), .val (.int e1), .val (.int y0), .val (.int y1), .val (.int z0), .val (.int z1), .unset, .unset, .unset, .unset, .unset, .unset, .unset, .unset, .unset, .unset, .unset, .unset, .unset]) at_229 rfl rfl ?_
            refine WP.iload (n := 233) at_231 rfl rfl ?_
            have J6 : ∀ (m2 : Int32) (x0 : Int32) (x1 : Int32), T3 m2 → (¬ x0 < 0 ∧ ¬ (255 : Int32) < x0) → (¬ x1 < 0 ∧ ¬ (255 : Int32) < x1) → WP l Z EL false "com/example/esteem/esteem/core/analysis/TokenEqualsPinLaw" "law" code maxLocals ret room_1 (fun v _ => v = some (.int 1)) vm54 h0 0 0 248 #[.val (.long o1), .second, .val (.long o2), .second, .val (.int te), .val (.int ty), .val (.long po), .second, .val (.int f), .val (.int tn1), .val (.int n2), .val (.int yn1), .val (.int m2), .val (.int fJ1), .val (.int fJ2), .val (.int fJ3), .val (.int fJ4), .val (.int ((XT.ushr f (12 : Int32)) &&& (3 : Int32))), .val (.int c0), .val (.int c1), .val (.int e0), .val (.int e1), .val (.int y0), .val (.int y1), .val (.int x0), .val (.int x1), .unset, .unset, .unset, .unset, .unset, .unset, .unset, .unset, .unset, .unset, .unset, .unset, .unset] [] := by
              intro m2 x0 x1 hm2 hx0 hx1
              refine WP.lloadN (n := 249) at_248 rfl rfl ?_
              refine WP.l2i (n := 250) at_249  rfl ?_
              refine WP.ldcI (n := 252) (v := (2147483647 : Int32)) at_250 (hw _ (List.mem_of_getElem? (i := 4) rfl)) rfl ?_
              refine WP.iand (n := 253) at_252  rfl ?_
              have ha1 := own_pos (o1.toInt32)
              generalize ((o1.toInt32) &&& (2147483647 : Int32)) = a1 at ha1 ⊢
              refine WP.istore (n := 255) (Ls' := #[.val (.long o1), .second, .val (.long o2), .second, .val (.int te), .val (.int ty), .val (.long po), .second, .val (.int f), .val (.int tn1), .val (.int n2), .val (.int yn1), .val (.int m2), .val (.int fJ1), .val (.int fJ2), .val (.int fJ3), .val (.int fJ4), .val (.int ((XT.ushr f (12 : Int32)) &&& (3 : Int32))), .val (.int c0), .val (.int c1), .val (.int e0), .val (.int e1), .val (.int y0), .val (.int y1), .val (.int x0), .val (.int x1), .val (.int a1), .unset, .unset, .unset, .unset, .unset, .unset, .unset, .unset, .unset, .unset, .unset, .unset]) at_253 rfl rfl ?_
              refine WP.lloadN (n := 256) at_255 rfl rfl ?_
              refine WP.bipush (n := 258) (z := (32 : Int32)) at_256 (by decide) rfl ?_
              refine WP.lushr (n := 259) at_258  rfl ?_
              refine WP.l2i (n := 260) at_259  rfl ?_
              refine WP.ldcI (n := 262) (v := (2147483647 : Int32)) at_260 (hw _ (List.mem_of_getElem? (i := 4) rfl)) rfl ?_
              refine WP.iand (n := 263) at_262  rfl ?_
              have hb1 := own_pos ((XT.ushrL o1 (32 : Int32)).toInt32)
              generalize (((XT.ushrL o1 (32 : Int32)).toInt32) &&& (2147483647 : Int32)) = b1 at hb1 ⊢
              refine WP.istore (n := 265) (Ls' := #[.val (.long o1), .second, .val (.long o2), .second, .val (.int te), .val (.int ty), .val (.long po), .second, .val (.int f), .val (.int tn1), .val (.int n2), .val (.int yn1), .val (.int m2), .val (.int fJ1), .val (.int fJ2), .val (.int fJ3), .val (.int fJ4), .val (.int ((XT.ushr f (12 : Int32)) &&& (3 : Int32))), .val (.int c0), .val (.int c1), .val (.int e0), .val (.int e1), .val (.int y0), .val (.int y1), .val (.int x0), .val (.int x1), .val (.int a1), .val (.int b1), .unset, .unset, .unset, .unset, .unset, .unset, .unset, .unset, .unset, .unset, .unset]) at_263 rfl rfl ?_
              refine WP.iload (n := 267) at_265 rfl rfl ?_
              refine WP.iload (n := 269) at_267 rfl rfl ?_
              refine WP.callS (n := 272) (ce' := 0) (sl' := 0) (Wd := 0) (argsL := [(.int a1), (.int b1)]) (rest := []) (own_min l Z a0 hw EL hEL h0 a1 b1) at_269 (hw _ (List.mem_of_getElem? (i := 0) rfl)) (hw _ (List.mem_of_getElem? (i := 1) rfl)) (hw _ (List.mem_of_getElem? (i := 2) rfl)) (hw _ (List.mem_of_getElem? (i := 3) rfl)) (by decide) (fun _ q => nomatch q) (by decide) (by decide) rfl rfl (by decide) (by decide) rfl rfl (lenOf own_pd9 rfl) rfl (Nat.le_of_eq rfl) rfl (fun v55 vm55 h55 q55 r55 => ?_)
              obtain ⟨rfl, rfl⟩ := q55
              refine WP.istore (n := 274) (Ls' := #[.val (.long o1), .second, .val (.long o2), .second, .val (.int te), .val (.int ty), .val (.long po), .second, .val (.int f), .val (.int tn1), .val (.int n2), .val (.int yn1), .val (.int m2), .val (.int fJ1), .val (.int fJ2), .val (.int fJ3), .val (.int fJ4), .val (.int ((XT.ushr f (12 : Int32)) &&& (3 : Int32))), .val (.int c0), .val (.int c1), .val (.int e0), .val (.int e1), .val (.int y0), .val (.int y1), .val (.int x0), .val (.int x1), .val (.int a1), .val (.int b1), .val (.int (own_mn a1 b1)), .unset, .unset, .unset, .unset, .unset, .unset, .unset, .unset, .unset, .unset]) at_272 rfl rfl ?_
              refine WP.iload (n := 276) at_274 rfl rfl ?_
              refine WP.iload (n := 278) at_276 rfl rfl ?_
              refine WP.callS (n := 281) (ce' := 0) (sl' := 0) (Wd := 0) (argsL := [(.int a1), (.int b1)]) (rest := []) (own_max l Z a0 hw EL hEL h0 a1 b1) at_278 (hw _ (List.mem_of_getElem? (i := 5) rfl)) (hw _ (List.mem_of_getElem? (i := 6) rfl)) (hw _ (List.mem_of_getElem? (i := 2) rfl)) (hw _ (List.mem_of_getElem? (i := 7) rfl)) (by decide) (fun _ q => nomatch q) (by decide) (by decide) rfl rfl (by decide) (by decide) rfl rfl (lenOf own_pd9 rfl) rfl (Nat.le_of_eq rfl) rfl (fun v56 vm56 h56 q56 r56 => ?_)
              obtain ⟨rfl, rfl⟩ := q56
              have hs1 : ¬ own_mn a1 b1 < 0 := own_mn_pos ha1 hb1
              have hen1 : ¬ own_mx a1 b1 < own_mn a1 b1 := own_mm a1 b1
              generalize own_mn a1 b1 = s1 at hs1 hen1 ⊢
              generalize own_mx a1 b1 = en1 at hen1 ⊢
              refine WP.istore (n := 283) (Ls' := #[.val (.long o1), .second, .val (.long o2), .second, .val (.int te), .val (.int ty), .val (.long po), .second, .val (.int f), .val (.int tn1), .val (.int n2), .val (.int yn1), .val (.int m2), .val (.int fJ1), .val (.int fJ2), .val (.int fJ3), .val (.int fJ4), .val (.int ((XT.ushr f (12 : Int32)) &&& (3 : Int32))), .val (.int c0), .val (.int c1), .val (.int e0), .val (.int e1), .val (.int y0), .val (.int y1), .val (.int x0), .val (.int x1), .val (.int a1), .val (.int b1), .val (.int s1), .val (.int en1), .unset, .unset, .unset, .unset, .unset, .unset, .unset, .unset, .unset]) at_281 rfl rfl ?_
              refine WP.lloadN (n := 284) at_283 rfl rfl ?_
              refine WP.l2i (n := 285) at_284  rfl ?_
              refine WP.ldcI (n := 287) (v := (2147483647 : Int32)) at_285 (hw _ (List.mem_of_getElem? (i := 4) rfl)) rfl ?_
              refine WP.iand (n := 288) at_287  rfl ?_
              have ha2 := own_pos (o2.toInt32)
              generalize ((o2.toInt32) &&& (2147483647 : Int32)) = a2 at ha2 ⊢
              refine WP.istore (n := 290) (Ls' := #[.val (.long o1), .second, .val (.long o2), .second, .val (.int te), .val (.int ty), .val (.long po), .second, .val (.int f), .val (.int tn1), .val (.int n2), .val (.int yn1), .val (.int m2), .val (.int fJ1), .val (.int fJ2), .val (.int fJ3), .val (.int fJ4), .val (.int ((XT.ushr f (12 : Int32)) &&& (3 : Int32))), .val (.int c0), .val (.int c1), .val (.int e0), .val (.int e1), .val (.int y0), .val (.int y1), .val (.int x0), .val (.int x1), .val (.int a1), .val (.int b1), .val (.int s1), .val (.int en1), .val (.int a2), .unset, .unset, .unset, .unset, .unset, .unset, .unset, .unset]) at_288 rfl rfl ?_
              refine WP.lloadN (n := 291) at_290 rfl rfl ?_
              refine WP.bipush (n := 293) (z := (32 : Int32)) at_291 (by decide) rfl ?_
              refine WP.lushr (n := 294) at_293  rfl ?_
              refine WP.l2i (n := 295) at_294  rfl ?_
              refine WP.ldcI (n := 297) (v := (2147483647 : Int32)) at_295 (hw _ (List.mem_of_getElem? (i := 4) rfl)) rfl ?_
              refine WP.iand (n := 298) at_297  rfl ?_
              have hb2 := own_pos ((XT.ushrL o2 (32 : Int32)).toInt32)
              generalize (((XT.ushrL o2 (32 : Int32)).toInt32) &&& (2147483647 : Int32)) = b2 at hb2 ⊢
              refine WP.istore (n := 300) (Ls' := #[.val (.long o1), .second, .val (.long o2), .second, .val (.int te), .val (.int ty), .val (.long po), .second, .val (.int f), .val (.int tn1), .val (.int n2), .val (.int yn1), .val (.int m2), .val (.int fJ1), .val (.int fJ2), .val (.int fJ3), .val (.int fJ4), .val (.int ((XT.ushr f (12 : Int32)) &&& (3 : Int32))), .val (.int c0), .val (.int c1), .val (.int e0), .val (.int e1), .val (.int y0), .val (.int y1), .val (.int x0), .val (.int x1), .val (.int a1), .val (.int b1), .val (.int s1), .val (.int en1), .val (.int a2), .val (.int b2), .unset, .unset, .unset, .unset, .unset, .unset, .unset]) at_298 rfl rfl ?_
              refine WP.iload (n := 302) at_300 rfl rfl ?_
              refine WP.iload (n := 304) at_302 rfl rfl ?_
              refine WP.callS (n := 307) (ce' := 0) (sl' := 0) (Wd := 0) (argsL := [(.int a2), (.int b2)]) (rest := []) (own_min l Z a0 hw EL hEL h0 a2 b2) at_304 (hw _ (List.mem_of_getElem? (i := 0) rfl)) (hw _ (List.mem_of_getElem? (i := 1) rfl)) (hw _ (List.mem_of_getElem? (i := 2) rfl)) (hw _ (List.mem_of_getElem? (i := 3) rfl)) (by decide) (fun _ q => nomatch q) (by decide) (by decide) rfl rfl (by decide) (by decide) rfl rfl (lenOf own_pd9 rfl) rfl (Nat.le_of_eq rfl) rfl (fun v57 vm57 h57 q57 r57 => ?_)
              obtain ⟨rfl, rfl⟩ := q57
              refine WP.istore (n := 309) (Ls' := #[.val (.long o1), .second, .val (.long o2), .second, .val (.int te), .val (.int ty), .val (.long po), .second, .val (.int f), .val (.int tn1), .val (.int n2), .val (.int yn1), .val (.int m2), .val (.int fJ1), .val (.int fJ2), .val (.int fJ3), .val (.int fJ4), .val (.int ((XT.ushr f (12 : Int32)) &&& (3 : Int32))), .val (.int c0), .val (.int c1), .val (.int e0), .val (.int e1), .val (.int y0), .val (.int y1), .val (.int x0), .val (.int x1), .val (.int a1), .val (.int b1), .val (.int s1), .val (.int en1), .val (.int a2), .val (.int b2), .val (.int (own_mn a2 b2)), .unset, .unset, .unset, .unset, .unset, .unset]) at_307 rfl rfl ?_
              refine WP.iload (n := 311) at_309 rfl rfl ?_
              refine WP.iload (n := 313) at_311 rfl rfl ?_
              refine WP.callS (n := 316) (ce' := 0) (sl' := 0) (Wd := 0) (argsL := [(.int a2), (.int b2)]) (rest := []) (own_max l Z a0 hw EL hEL h0 a2 b2) at_313 (hw _ (List.mem_of_getElem? (i := 5) rfl)) (hw _ (List.mem_of_getElem? (i := 6) rfl)) (hw _ (List.mem_of_getElem? (i := 2) rfl)) (hw _ (List.mem_of_getElem? (i := 7) rfl)) (by decide) (fun _ q => nomatch q) (by decide) (by decide) rfl rfl (by decide) (by decide) rfl rfl (lenOf own_pd9 rfl) rfl (Nat.le_of_eq rfl) rfl (fun v58 vm58 h58 q58 r58 => ?_)
              obtain ⟨rfl, rfl⟩ := q58
              have hs2 : ¬ own_mn a2 b2 < 0 := own_mn_pos ha2 hb2
              have hen2 : ¬ own_mx a2 b2 < own_mn a2 b2 := own_mm a2 b2
              generalize own_mn a2 b2 = s2 at hs2 hen2 ⊢
              generalize own_mx a2 b2 = en2 at hen2 ⊢
              refine WP.istore (n := 318) (Ls' := #[.val (.long o1), .second, .val (.long o2), .second, .val (.int te), .val (.int ty), .val (.long po), .second, .val (.int f), .val (.int tn1), .val (.int n2), .val (.int yn1), .val (.int m2), .val (.int fJ1), .val (.int fJ2), .val (.int fJ3), .val (.int fJ4), .val (.int ((XT.ushr f (12 : Int32)) &&& (3 : Int32))), .val (.int c0), .val (.int c1), .val (.int e0), .val (.int e1), .val (.int y0), .val (.int y1), .val (.int x0), .val (.int x1), .val (.int a1), .val (.int b1), .val (.int s1), .val (.int en1), .val (.int a2), .val (.int b2), .val (.int s2), .val (.int en2), .unset, .unset, .unset, .unset, .unset]) at_316 rfl rfl ?_
              refine WP.iload (n := 320) at_318 rfl rfl ?_
              have J7 : ∀ (s3 : Int32) (en3 : Int32), ¬ s3 < 0 → ¬ en3 < s3 → WP l Z EL false "com/example/esteem/esteem/core/analysis/TokenEqualsPinLaw" "law" code maxLocals ret room_1 (fun v _ => v = some (.int 1)) vm58 h0 0 0 331 #[.val (.long o1), .second, .val (.long o2), .second, .val (.int te), .val (.int ty), .val (.long po), .second, .val (.int f), .val (.int tn1), .val (.int n2), .val (.int yn1), .val (.int m2), .val (.int fJ1), .val (.int fJ2), .val (.int fJ3), .val (.int fJ4), .val (.int ((XT.ushr f (12 : Int32)) &&& (3 : Int32))), .val (.int c0), .val (.int c1), .val (.int e0), .val (.int e1), .val (.int y0), .val (.int y1), .val (.int x0), .val (.int x1), .val (.int a1), .val (.int b1), .val (.int s1), .val (.int en1), .val (.int a2), .val (.int b2), .val (.int s3), .val (.int en3), .unset, .unset, .unset, .unset, .unset] [] := by
                intro s3 en3 hs3 hen3
                refine WP.lload (n := 333) at_331 rfl rfl ?_
                refine WP.l2i (n := 334) at_333  rfl ?_
                refine WP.ldcI (n := 336) (v := (2147483647 : Int32)) at_334 (hw _ (List.mem_of_getElem? (i := 4) rfl)) rfl ?_
                refine WP.iand (n := 337) at_336  rfl ?_
                have hp1 := own_pos (po.toInt32)
                generalize ((po.toInt32) &&& (2147483647 : Int32)) = p1 at hp1 ⊢
                refine WP.istore (n := 339) (Ls' := #[.val (.long o1), .second, .val (.long o2), .second, .val (.int te), .val (.int ty), .val (.long po), .second, .val (.int f), .val (.int tn1), .val (.int n2), .val (.int yn1), .val (.int m2), .val (.int fJ1), .val (.int fJ2), .val (.int fJ3), .val (.int fJ4), .val (.int ((XT.ushr f (12 : Int32)) &&& (3 : Int32))), .val (.int c0), .val (.int c1), .val (.int e0), .val (.int e1), .val (.int y0), .val (.int y1), .val (.int x0), .val (.int x1), .val (.int a1), .val (.int b1), .val (.int s1), .val (.int en1), .val (.int a2), .val (.int b2), .val (.int s3), .val (.int en3), .val (.int p1), .unset, .unset, .unset, .unset]) at_337 rfl rfl ?_
                refine WP.lload (n := 341) at_339 rfl rfl ?_
                refine WP.bipush (n := 343) (z := (32 : Int32)) at_341 (by decide) rfl ?_
                refine WP.lushr (n := 344) at_343  rfl ?_
                refine WP.l2i (n := 345) at_344  rfl ?_
                refine WP.ldcI (n := 347) (v := (2147483647 : Int32)) at_345 (hw _ (List.mem_of_getElem? (i := 4) rfl)) rfl ?_
                refine WP.iand (n := 348) at_347  rfl ?_
                have hp2 := own_pos ((XT.ushrL po (32 : Int32)).toInt32)
                generalize (((XT.ushrL po (32 : Int32)).toInt32) &&& (2147483647 : Int32)) = p2 at hp2 ⊢
                refine WP.istore (n := 350) (Ls' := #[.val (.long o1), .second, .val (.long o2), .second, .val (.int te), .val (.int ty), .val (.long po), .second, .val (.int f), .val (.int tn1), .val (.int n2), .val (.int yn1), .val (.int m2), .val (.int fJ1), .val (.int fJ2), .val (.int fJ3), .val (.int fJ4), .val (.int ((XT.ushr f (12 : Int32)) &&& (3 : Int32))), .val (.int c0), .val (.int c1), .val (.int e0), .val (.int e1), .val (.int y0), .val (.int y1), .val (.int x0), .val (.int x1), .val (.int a1), .val (.int b1), .val (.int s1), .val (.int en1), .val (.int a2), .val (.int b2), .val (.int s3), .val (.int en3), .val (.int p1), .val (.int p2), .unset, .unset, .unset]) at_348 rfl rfl ?_
                refine WP.iload (n := 352) at_350 rfl rfl ?_
                have J8 : ∀ (p3 : Int32), ¬ p3 < 0 → WP l Z EL false "com/example/esteem/esteem/core/analysis/TokenEqualsPinLaw" "law" code maxLocals ret room_1 (fun v _ => v = some (.int 1)) vm58 h0 0 0 359 #[.val (.long o1), .second, .val (.long o2), .second, .val (.int te), .val (.int ty), .val (.long po), .second, .val (.int f), .val (.int tn1), .val (.int n2), .val (.int yn1), .val (.int m2), .val (.int fJ1), .val (.int fJ2), .val (.int fJ3), .val (.int fJ4), .val (.int ((XT.ushr f (12 : Int32)) &&& (3 : Int32))), .val (.int c0), .val (.int c1), .val (.int e0), .val (.int e1), .val (.int y0), .val (.int y1), .val (.int x0), .val (.int x1), .val (.int a1), .val (.int b1), .val (.int s1), .val (.int en1), .val (.int a2), .val (.int b2), .val (.int s3), .val (.int en3), .val (.int p1), .val (.int p3), .unset, .unset, .unset] [] := by
                  intro p3 hp3
                  refine WP.new (n := 362) (ce' := 1) (sl' := 5) at_359 (hw _ (List.mem_of_getElem? (i := 8) rfl)) (hw _ (List.mem_of_getElem? (i := 9) rfl)) (hw _ (List.mem_of_getElem? (i := 10) rfl)) rfl rfl (by decide) (by decide) rfl (fun a59 h59 g59 E59 A59 D59 S59 N59 r59 => ?_)
                  refine WP.dup (n := 363) at_362 rfl rfl ?_
                  refine WP.iload (n := 365) at_363 rfl rfl ?_
                  refine WP.iload (n := 367) at_365 rfl rfl ?_
                  refine WP.iload (n := 369) at_367 rfl rfl ?_
                  refine WP.callS (n := 372) (ce' := 5) (sl' := 15) (Wd := 2) (argsL := [(.int tn1), (.int c0), (.int c1)]) (rest := [(.ref a59), (.ref a59)]) (own_str l Z a0 hw EL hEL h59 tn1 c0 c1 hc0 hc1 hm cz O hO) at_369 (hw _ (List.mem_of_getElem? (i := 11) rfl)) (hw _ (List.mem_of_getElem? (i := 12) rfl)) (hw _ (List.mem_of_getElem? (i := 13) rfl)) (hw _ (List.mem_of_getElem? (i := 14) rfl)) (by decide) (fun _ q => nomatch q) (by decide) (by decide) rfl rfl (by decide) (by decide) rfl rfl (lenOf own_pd10 rfl) rfl (Nat.le_of_eq rfl) rfl (fun v60 vm60 h60 q60 r60 => ?_)
                  obtain ⟨a60, rfl, F60, E60⟩ := q60
                  refine WP.iload (n := 374) at_372 rfl rfl ?_
                  refine WP.iload (n := 376) at_374 rfl rfl ?_
                  refine WP.iload (n := 378) at_376 rfl rfl ?_
                  refine WP.iload (n := 380) at_378 rfl rfl ?_
                  refine WP.iload (n := 382) at_380 rfl rfl ?_
                  refine WP.callS (n := 385) (ce' := 9) (sl' := 25) (Wd := 5) (argsL := [(.int yn1), (.int y0), (.int y1)]) (rest := [(.int en1), (.int s1), (.ref a60), (.ref a59), (.ref a59)]) (own_str l Z a0 hw EL hEL h60 yn1 y0 y1 hy0 hy1 hm cz O hO) at_382 (hw _ (List.mem_of_getElem? (i := 11) rfl)) (hw _ (List.mem_of_getElem? (i := 12) rfl)) (hw _ (List.mem_of_getElem? (i := 13) rfl)) (hw _ (List.mem_of_getElem? (i := 14) rfl)) (by decide) (fun _ q => nomatch q) (by decide) (by decide) rfl rfl (by decide) (by decide) rfl rfl (lenOf own_pd10 rfl) rfl (Nat.le_of_eq rfl) rfl (fun v61 vm61 h61 q61 r61 => ?_)
                  obtain ⟨a61, rfl, F61, E61⟩ := q61
                  refine WP.iload (n := 387) at_385 rfl rfl ?_
                  refine WP.callP (n := 390) (ce' := 13) (sl' := 65) (Wd := 1) (a := a59) (argsL := [(.ref a60), (.int s1), (.int en1), (.ref a61), (.int p1)]) (rest := [(.ref a59)]) (own_ki l Z a0 hw EL hEL h61 a59 a60 a61 s1 en1 p1 hs1 hen1 hp1 N59 (A59.ext (ext_trans E60 E61)) (F60.ext E61).1 F61.1 ((D59 (Or.inr (hw _ (List.mem_of_getElem? (i := 59) rfl))) (ty := (.object "java/lang/String")) (by decide)).ext (ext_trans E60 E61)) ((D59 (Or.inr (hw _ (List.mem_of_getElem? (i := 62) rfl))) (ty := (.object "java/lang/String")) (by decide)).ext (ext_trans E60 E61)) ((D59 (Or.inr (hw _ (List.mem_of_getElem? (i := 64) rfl))) (ty := .int) (by decide)).ext (ext_trans E60 E61)) ((D59 (Or.inr (hw _ (List.mem_of_getElem? (i := 66) rfl))) (ty := .int) (by decide)).ext (ext_trans E60 E61)) ((D59 (Or.inr (hw _ (List.mem_of_getElem? (i := 68) rfl))) (ty := .int) (by decide)).ext (ext_trans E60 E61))) at_387 rfl (hw _ (List.mem_of_getElem? (i := 48) rfl)) (hw _ (List.mem_of_getElem? (i := 49) rfl)) (hw _ (List.mem_of_getElem? (i := 10) rfl)) (hw _ (List.mem_of_getElem? (i := 50) rfl)) (by decide) (fun _ q => nomatch q) (by decide) (by decide) rfl rfl (by decide) (by decide) rfl rfl (lenOf own_pd11 rfl) rfl (Nat.le_of_eq rfl) rfl (fun v62 vm62 h62 q62 r62 => ?_)
                  obtain ⟨rfl, K62, A62, F62_term, F62_type, F62_startOffset, F62_endOffset, F62_position⟩ := q62
                  have F62_s60 := own_skeep (F60.ext E61) (A59.ext (ext_trans E60 E61)) K62 (by decide) (hw _ (List.mem_of_getElem? (i := 9) rfl))
                  have F62_s61 := own_skeep F61 (A59.ext (ext_trans E60 E61)) K62 (by decide) (hw _ (List.mem_of_getElem? (i := 9) rfl))
                  refine WP.astore (n := 392) (Ls' := #[.val (.long o1), .second, .val (.long o2), .second, .val (.int te), .val (.int ty), .val (.long po), .second, .val (.int f), .val (.int tn1), .val (.int n2), .val (.int yn1), .val (.int m2), .val (.int fJ1), .val (.int fJ2), .val (.int fJ3), .val (.int fJ4), .val (.int ((XT.ushr f (12 : Int32)) &&& (3 : Int32))), .val (.int c0), .val (.int c1), .val (.int e0), .val (.int e1), .val (.int y0), .val (.int y1), .val (.int x0), .val (.int x1), .val (.int a1), .val (.int b1), .val (.int s1), .val (.int en1), .val (.int a2), .val (.int b2), .val (.int s3), .val (.int en3), .val (.int p1), .val (.int p3), .val (.ref a59), .unset, .unset]) at_390 rfl rfl rfl ?_
                  refine WP.new (n := 395) (ce' := 14) (sl' := 70) at_392 (hw _ (List.mem_of_getElem? (i := 8) rfl)) (hw _ (List.mem_of_getElem? (i := 9) rfl)) (hw _ (List.mem_of_getElem? (i := 10) rfl)) rfl rfl (by decide) (by decide) rfl (fun a63 h63 g63 E63 A63 D63 S63 N63 r63 => ?_)
                  refine WP.dup (n := 396) at_395 rfl rfl ?_
                  refine WP.iload (n := 398) at_396 rfl rfl ?_
                  refine WP.iload (n := 400) at_398 rfl rfl ?_
                  refine WP.iload (n := 402) at_400 rfl rfl ?_
                  refine WP.callS (n := 405) (ce' := 18) (sl' := 80) (Wd := 2) (argsL := [(.int n2), (.int e0), (.int e1)]) (rest := [(.ref a63), (.ref a63)]) (own_str l Z a0 hw EL hEL h63 n2 e0 e1 he0 he1 hm cz O hO) at_402 (hw _ (List.mem_of_getElem? (i := 11) rfl)) (hw _ (List.mem_of_getElem? (i := 12) rfl)) (hw _ (List.mem_of_getElem? (i := 13) rfl)) (hw _ (List.mem_of_getElem? (i := 14) rfl)) (by decide) (fun _ q => nomatch q) (by decide) (by decide) rfl rfl (by decide) (by decide) rfl rfl (lenOf own_pd10 rfl) rfl (Nat.le_of_eq rfl) rfl (fun v64 vm64 h64 q64 r64 => ?_)
                  obtain ⟨a64, rfl, F64, E64⟩ := q64
                  refine WP.iload (n := 407) at_405 rfl rfl ?_
                  refine WP.iload (n := 409) at_407 rfl rfl ?_
                  refine WP.iload (n := 411) at_409 rfl rfl ?_
                  refine WP.iload (n := 413) at_411 rfl rfl ?_
                  refine WP.iload (n := 415) at_413 rfl rfl ?_
                  refine WP.callS (n := 418) (ce' := 22) (sl' := 90) (Wd := 5) (argsL := [(.int m2), (.int x0), (.int x1)]) (rest := [(.int en3), (.int s3), (.ref a64), (.ref a63), (.ref a63)]) (own_str l Z a0 hw EL hEL h64 m2 x0 x1 hx0 hx1 hm cz O hO) at_415 (hw _ (List.mem_of_getElem? (i := 11) rfl)) (hw _ (List.mem_of_getElem? (i := 12) rfl)) (hw _ (List.mem_of_getElem? (i := 13) rfl)) (hw _ (List.mem_of_getElem? (i := 14) rfl)) (by decide) (fun _ q => nomatch q) (by decide) (by decide) rfl rfl (by decide) (by decide) rfl rfl (lenOf own_pd10 rfl) rfl (Nat.le_of_eq rfl) rfl (fun v65 vm65 h65 q65 r65 => ?_)
                  obtain ⟨a65, rfl, F65, E65⟩ := q65
                  refine WP.iload (n := 420) at_418 rfl rfl ?_
                  refine WP.callP (n := 423) (ce' := 26) (sl' := 130) (Wd := 1) (a := a63) (argsL := [(.ref a64), (.int s3), (.int en3), (.ref a65), (.int p3)]) (rest := [(.ref a63)]) (own_ki l Z a0 hw EL hEL h65 a63 a64 a65 s3 en3 p3 hs3 hen3 hp3 N63 (A63.ext (ext_trans E64 E65)) (F64.ext E65).1 F65.1 ((D63 (Or.inr (hw _ (List.mem_of_getElem? (i := 59) rfl))) (ty := (.object "java/lang/String")) (by decide)).ext (ext_trans E64 E65)) ((D63 (Or.inr (hw _ (List.mem_of_getElem? (i := 62) rfl))) (ty := (.object "java/lang/String")) (by decide)).ext (ext_trans E64 E65)) ((D63 (Or.inr (hw _ (List.mem_of_getElem? (i := 64) rfl))) (ty := .int) (by decide)).ext (ext_trans E64 E65)) ((D63 (Or.inr (hw _ (List.mem_of_getElem? (i := 66) rfl))) (ty := .int) (by decide)).ext (ext_trans E64 E65)) ((D63 (Or.inr (hw _ (List.mem_of_getElem? (i := 68) rfl))) (ty := .int) (by decide)).ext (ext_trans E64 E65))) at_420 rfl (hw _ (List.mem_of_getElem? (i := 48) rfl)) (hw _ (List.mem_of_getElem? (i := 49) rfl)) (hw _ (List.mem_of_getElem? (i := 10) rfl)) (hw _ (List.mem_of_getElem? (i := 50) rfl)) (by decide) (fun _ q => nomatch q) (by decide) (by decide) rfl rfl (by decide) (by decide) rfl rfl (lenOf own_pd11 rfl) rfl (Nat.le_of_eq rfl) rfl (fun v66 vm66 h66 q66 r66 => ?_)
                  obtain ⟨rfl, K66, A66, F66_term, F66_type, F66_startOffset, F66_endOffset, F66_position⟩ := q66
                  have F66_s64 := own_skeep (F64.ext E65) (A63.ext (ext_trans E64 E65)) K66 (by decide) (hw _ (List.mem_of_getElem? (i := 9) rfl))
                  have F66_s65 := own_skeep F65 (A63.ext (ext_trans E64 E65)) K66 (by decide) (hw _ (List.mem_of_getElem? (i := 9) rfl))
                  refine WP.astore (n := 425) (Ls' := #[.val (.long o1), .second, .val (.long o2), .second, .val (.int te), .val (.int ty), .val (.long po), .second, .val (.int f), .val (.int tn1), .val (.int n2), .val (.int yn1), .val (.int m2), .val (.int fJ1), .val (.int fJ2), .val (.int fJ3), .val (.int fJ4), .val (.int ((XT.ushr f (12 : Int32)) &&& (3 : Int32))), .val (.int c0), .val (.int c1), .val (.int e0), .val (.int e1), .val (.int y0), .val (.int y1), .val (.int x0), .val (.int x1), .val (.int a1), .val (.int b1), .val (.int s1), .val (.int en1), .val (.int a2), .val (.int b2), .val (.int s3), .val (.int en3), .val (.int p1), .val (.int p3), .val (.ref a59), .val (.ref a63), .unset]) at_423 rfl rfl rfl ?_
                  refine WP.iload (n := 427) at_425 rfl rfl ?_
                  refine WP.iconst (n := 428) (z := (1 : Int32)) at_427 rfl rfl ?_
                  refine WP.icmp_ne (n := 446) (n' := 431) at_428 (by decide) (by decide) rfl (fun b67 => ?_) (fun b67 => ?_)
                  · refine WP.iload (n := 448) at_446 rfl rfl ?_
                    refine WP.iconst (n := 449) (z := (2 : Int32)) at_448 rfl rfl ?_
                    refine WP.icmp_ne (n := 475) (n' := 452) at_449 (by decide) (by decide) rfl (fun b68 => ?_) (fun b68 => ?_)
                    · refine WP.iload (n := 477) at_475 rfl rfl ?_
                      refine WP.iconst (n := 478) (z := (3 : Int32)) at_477 rfl rfl ?_
                      refine WP.icmp_ne (n := 489) (n' := 481) at_478 (by decide) (by decide) rfl (fun b69 => ?_) (fun b69 => ?_)
                      · refine WP.iload (n := 491) at_489 rfl rfl ?_
                        refine WP.iload (n := 493) at_491 rfl rfl ?_
                        refine WP.iload (n := 495) at_493 rfl rfl ?_
                        refine WP.iload (n := 497) at_495 rfl rfl ?_
                        refine WP.iload (n := 499) at_497 rfl rfl ?_
                        refine WP.iload (n := 501) at_499 rfl rfl ?_
                        refine WP.callS (n := 504) (ce' := 26) (sl' := 130) (Wd := 0) (argsL := [(.int tn1), (.int c0), (.int c1), (.int n2), (.int e0), (.int e1)]) (rest := []) (own_same l Z a0 hw EL hEL h66 tn1 c0 c1 n2 e0 e1) at_501 (hw _ (List.mem_of_getElem? (i := 69) rfl)) (hw _ (List.mem_of_getElem? (i := 70) rfl)) (hw _ (List.mem_of_getElem? (i := 13) rfl)) (hw _ (List.mem_of_getElem? (i := 71) rfl)) (by decide) (fun _ q => nomatch q) (by decide) (by decide) rfl rfl (by decide) (by decide) rfl rfl (lenOf own_pd12 rfl) rfl (Nat.le_of_eq rfl) rfl (fun v70 vm70 h70 q70 r70 => ?_)
                        obtain ⟨rfl, rfl⟩ := q70
                        by_cases hst : own_sm tn1 c0 c1 n2 e0 e1
                        · rw [if_pos hst]
                          refine WP.ifcN (n' := 507) at_504 (by decide) rfl ?_
                          refine WP.iload (n := 509) at_507 rfl rfl ?_
                          refine WP.iload (n := 511) at_509 rfl rfl ?_
                          refine WP.icmp_ne (n := 550) (n' := 514) at_511 (by decide) (by decide) rfl (fun b71 => ?_) (fun b71 => ?_)
                          · refine WP.iconst (n := 551) (z := (0 : Int32)) at_550 rfl rfl ?_
                            refine WP.istore (n := 553) (Ls' := #[.val (.long o1), .second, .val (.long o2), .second, .val (.int te), .val (.int ty), .val (.long po), .second, .val (.int f), .val (.int tn1), .val (.int n2), .val (.int yn1), .val (.int m2), .val (.int fJ1), .val (.int fJ2), .val (.int fJ3), .val (.int fJ4), .val (.int ((XT.ushr f (12 : Int32)) &&& (3 : Int32))), .val (.int c0), .val (.int c1), .val (.int e0), .val (.int e1), .val (.int y0), .val (.int y1), .val (.int x0), .val (.int x1), .val (.int a1), .val (.int b1), .val (.int s1), .val (.int en1), .val (.int a2), .val (.int b2), .val (.int s3), .val (.int en3), .val (.int p1), .val (.int p3), .val (.ref a59), .val (.ref a63), .val (.int (0 : Int32))]) at_551 rfl rfl ?_
                            refine WP.aload (n := 555) at_553 rfl rfl rfl ?_
                            refine WP.aload (n := 557) at_555 rfl rfl rfl ?_
                            refine WP.callV (n := 560) (ce' := 26) (sl' := 130) (Wd := 0) (a := a59) (argsL := [(.ref a63)]) (rest := []) (own_keK l Z a0 hw EL hEL h66 a59 a63 a60 a64 a61 a65 s1 s3 en1 en3 p1 p3 _ _ _ _ A66 (F62_term.ext (ext_keep1 (ext_trans E63 (ext_trans E64 E65)) K66 (Nat.le_of_eq g63.symm))) (F62_type.ext (ext_keep1 (ext_trans E63 (ext_trans E64 E65)) K66 (Nat.le_of_eq g63.symm))) (F62_startOffset.ext (ext_keep1 (ext_trans E63 (ext_trans E64 E65)) K66 (Nat.le_of_eq g63.symm))) (F62_endOffset.ext (ext_keep1 (ext_trans E63 (ext_trans E64 E65)) K66 (Nat.le_of_eq g63.symm))) (F62_position.ext (ext_keep1 (ext_trans E63 (ext_trans E64 E65)) K66 (Nat.le_of_eq g63.symm))) F66_term F66_type F66_startOffset F66_endOffset F66_position (F62_s60.ext (ext_keep1 (ext_trans E63 (ext_trans E64 E65)) K66 (Nat.le_of_eq g63.symm))) F66_s64 (F62_s61.ext (ext_keep1 (ext_trans E63 (ext_trans E64 E65)) K66 (Nat.le_of_eq g63.symm))) F66_s65 cz O hO) (A62.ext (ext_keep1 (ext_trans E63 (ext_trans E64 E65)) K66 (Nat.le_of_eq g63.symm))) at_557 (hw _ (List.mem_of_getElem? (i := 72) rfl)) (hw _ (List.mem_of_getElem? (i := 73) rfl)) (hw _ (List.mem_of_getElem? (i := 75) rfl)) (hw _ (List.mem_of_getElem? (i := 74) rfl)) (hw _ (List.mem_of_getElem? (i := 10) rfl)) (hw _ (List.mem_of_getElem? (i := 76) rfl)) (by decide) (fun _ hz => notFace_of_selects (args := #[]) (mvT hz (hw _ (List.mem_of_getElem? (i := 75) rfl)))) (fun _ q => nomatch q) (by decide) (by decide) rfl rfl (by decide) (by decide) rfl rfl (lenOf own_pd8 rfl) rfl (Nat.le_of_eq rfl) rfl (fun v72 vm72 h72 q72 r72 => ?_)
                            obtain ⟨rfl, rfl⟩ := q72
                            rw [if_neg (fun q => b71 q.2.1)]
                            refine WP.iload (n := 562) at_560 rfl rfl ?_
                            refine WP.icmpN (n' := 565) at_562 (by decide) rfl ?_
                            refine WP.aload (n := 567) at_565 rfl rfl rfl ?_
                            refine WP.aload (n := 569) at_567 rfl rfl rfl ?_
                            refine WP.callV (n := 572) (ce' := 26) (sl' := 130) (Wd := 0) (a := a63) (argsL := [(.ref a59)]) (rest := []) (own_keK l Z a0 hw EL hEL h66 a63 a59 a64 a60 a65 a61 s3 s1 en3 en1 p3 p1 _ _ _ _ (A62.ext (ext_keep1 (ext_trans E63 (ext_trans E64 E65)) K66 (Nat.le_of_eq g63.symm))) F66_term F66_type F66_startOffset F66_endOffset F66_position (F62_term.ext (ext_keep1 (ext_trans E63 (ext_trans E64 E65)) K66 (Nat.le_of_eq g63.symm))) (F62_type.ext (ext_keep1 (ext_trans E63 (ext_trans E64 E65)) K66 (Nat.le_of_eq g63.symm))) (F62_startOffset.ext (ext_keep1 (ext_trans E63 (ext_trans E64 E65)) K66 (Nat.le_of_eq g63.symm))) (F62_endOffset.ext (ext_keep1 (ext_trans E63 (ext_trans E64 E65)) K66 (Nat.le_of_eq g63.symm))) (F62_position.ext (ext_keep1 (ext_trans E63 (ext_trans E64 E65)) K66 (Nat.le_of_eq g63.symm))) F66_s64 (F62_s60.ext (ext_keep1 (ext_trans E63 (ext_trans E64 E65)) K66 (Nat.le_of_eq g63.symm))) F66_s65 (F62_s61.ext (ext_keep1 (ext_trans E63 (ext_trans E64 E65)) K66 (Nat.le_of_eq g63.symm))) cz O hO) A66 at_569 (hw _ (List.mem_of_getElem? (i := 72) rfl)) (hw _ (List.mem_of_getElem? (i := 73) rfl)) (hw _ (List.mem_of_getElem? (i := 75) rfl)) (hw _ (List.mem_of_getElem? (i := 74) rfl)) (hw _ (List.mem_of_getElem? (i := 10) rfl)) (hw _ (List.mem_of_getElem? (i := 76) rfl)) (by decide) (fun _ hz => notFace_of_selects (args := #[]) (mvT hz (hw _ (List.mem_of_getElem? (i := 75) rfl)))) (fun _ q => nomatch q) (by decide) (by decide) rfl rfl (by decide) (by decide) rfl rfl (lenOf own_pd8 rfl) rfl (Nat.le_of_eq rfl) rfl (fun v73 vm73 h73 q73 r73 => ?_)
                            obtain ⟨rfl, rfl⟩ := q73
                            rw [if_neg (fun q => b71 q.2.1.symm)]
                            refine WP.iload (n := 574) at_572 rfl rfl ?_
                            refine WP.icmpN (n' := 577) at_574 (by decide) rfl ?_
                            refine WP.iconst (n := 578) (z := (1 : Int32)) at_577 rfl rfl ?_
                            refine WP.goto (n := 582) at_578 (by decide) (by decide) ?_
                            exact WP.retN at_582 rfl (Or.inl rfl) (by decide : nar .boolean 1 = 1) (by decide) (by decide) rfl
                          · refine WP.iload (n := 516) at_514 rfl rfl ?_
                            refine WP.iload (n := 518) at_516 rfl rfl ?_
                            refine WP.icmp_ne (n := 550) (n' := 521) at_518 (by decide) (by decide) rfl (fun b74 => ?_) (fun b74 => ?_)
                            · refine WP.iconst (n := 551) (z := (0 : Int32)) at_550 rfl rfl ?_
                              refine WP.istore (n := 553) (Ls' := #[.val (.long o1), .second, .val (.long o2), .second, .val (.int te), .val (.int ty), .val (.long po), .second, .val (.int f), .val (.int tn1), .val (.int n2), .val (.int yn1), .val (.int m2), .val (.int fJ1), .val (.int fJ2), .val (.int fJ3), .val (.int fJ4), .val (.int ((XT.ushr f (12 : Int32)) &&& (3 : Int32))), .val (.int c0), .val (.int c1), .val (.int e0), .val (.int e1), .val (.int y0), .val (.int y1), .val (.int x0), .val (.int x1), .val (.int a1), .val (.int b1), .val (.int s1), .val (.int en1), .val (.int a2), .val (.int b2), .val (.int s3), .val (.int en3), .val (.int p1), .val (.int p3), .val (.ref a59), .val (.ref a63), .val (.int (0 : Int32))]) at_551 rfl rfl ?_
                              refine WP.aload (n := 555) at_553 rfl rfl rfl ?_
                              refine WP.aload (n := 557) at_555 rfl rfl rfl ?_
                              refine WP.callV (n := 560) (ce' := 26) (sl' := 130) (Wd := 0) (a := a59) (argsL := [(.ref a63)]) (rest := []) (own_keK l Z a0 hw EL hEL h66 a59 a63 a60 a64 a61 a65 s1 s3 en1 en3 p1 p3 _ _ _ _ A66 (F62_term.ext (ext_keep1 (ext_trans E63 (ext_trans E64 E65)) K66 (Nat.le_of_eq g63.symm))) (F62_type.ext (ext_keep1 (ext_trans E63 (ext_trans E64 E65)) K66 (Nat.le_of_eq g63.symm))) (F62_startOffset.ext (ext_keep1 (ext_trans E63 (ext_trans E64 E65)) K66 (Nat.le_of_eq g63.symm))) (F62_endOffset.ext (ext_keep1 (ext_trans E63 (ext_trans E64 E65)) K66 (Nat.le_of_eq g63.symm))) (F62_position.ext (ext_keep1 (ext_trans E63 (ext_trans E64 E65)) K66 (Nat.le_of_eq g63.symm))) F66_term F66_type F66_startOffset F66_endOffset F66_position (F62_s60.ext (ext_keep1 (ext_trans E63 (ext_trans E64 E65)) K66 (Nat.le_of_eq g63.symm))) F66_s64 (F62_s61.ext (ext_keep1 (ext_trans E63 (ext_trans E64 E65)) K66 (Nat.le_of_eq g63.symm))) F66_s65 cz O hO) (A62.ext (ext_keep1 (ext_trans E63 (ext_trans E64 E65)) K66 (Nat.le_of_eq g63.symm))) at_557 (hw _ (List.mem_of_getElem? (i := 72) rfl)) (hw _ (List.mem_of_getElem? (i := 73) rfl)) (hw _ (List.mem_of_getElem? (i := 75) rfl)) (hw _ (List.mem_of_getElem? (i := 74) rfl)) (hw _ (List.mem_of_getElem? (i := 10) rfl)) (hw _ (List.mem_of_getElem? (i := 76) rfl)) (by decide) (fun _ hz => notFace_of_selects (args := #[]) (mvT hz (hw _ (List.mem_of_getElem? (i := 75) rfl)))) (fun _ q => nomatch q) (by decide) (by decide) rfl rfl (by decide) (by decide) rfl rfl (lenOf own_pd8 rfl) rfl (Nat.le_of_eq rfl) rfl (fun v75 vm75 h75 q75 r75 => ?_)
                              obtain ⟨rfl, rfl⟩ := q75
                              rw [if_neg (fun q => b74 q.2.2.1)]
                              refine WP.iload (n := 562) at_560 rfl rfl ?_
                              refine WP.icmpN (n' := 565) at_562 (by decide) rfl ?_
                              refine WP.aload (n := 567) at_565 rfl rfl rfl ?_
                              refine WP.aload (n := 569) at_567 rfl rfl rfl ?_
                              refine WP.callV (n := 572) (ce' := 26) (sl' := 130) (Wd := 0) (a := a63) (argsL := [(.ref a59)]) (rest := []) (own_keK l Z a0 hw EL hEL h66 a63 a59 a64 a60 a65 a61 s3 s1 en3 en1 p3 p1 _ _ _ _ (A62.ext (ext_keep1 (ext_trans E63 (ext_trans E64 E65)) K66 (Nat.le_of_eq g63.symm))) F66_term F66_type F66_startOffset F66_endOffset F66_position (F62_term.ext (ext_keep1 (ext_trans E63 (ext_trans E64 E65)) K66 (Nat.le_of_eq g63.symm))) (F62_type.ext (ext_keep1 (ext_trans E63 (ext_trans E64 E65)) K66 (Nat.le_of_eq g63.symm))) (F62_startOffset.ext (ext_keep1 (ext_trans E63 (ext_trans E64 E65)) K66 (Nat.le_of_eq g63.symm))) (F62_endOffset.ext (ext_keep1 (ext_trans E63 (ext_trans E64 E65)) K66 (Nat.le_of_eq g63.symm))) (F62_position.ext (ext_keep1 (ext_trans E63 (ext_trans E64 E65)) K66 (Nat.le_of_eq g63.symm))) F66_s64 (F62_s60.ext (ext_keep1 (ext_trans E63 (ext_trans E64 E65)) K66 (Nat.le_of_eq g63.symm))) F66_s65 (F62_s61.ext (ext_keep1 (ext_trans E63 (ext_trans E64 E65)) K66 (Nat.le_of_eq g63.symm))) cz O hO) A66 at_569 (hw _ (List.mem_of_getElem? (i := 72) rfl)) (hw _ (List.mem_of_getElem? (i := 73) rfl)) (hw _ (List.mem_of_getElem? (i := 75) rfl)) (hw _ (List.mem_of_getElem? (i := 74) rfl)) (hw _ (List.mem_of_getElem? (i := 10) rfl)) (hw _ (List.mem_of_getElem? (i := 76) rfl)) (by decide) (fun _ hz => notFace_of_selects (args := #[]) (mvT hz (hw _ (List.mem_of_getElem? (i := 75) rfl)))) (fun _ q => nomatch q) (by decide) (by decide) rfl rfl (by decide) (by decide) rfl rfl (lenOf own_pd8 rfl) rfl (Nat.le_of_eq rfl) rfl (fun v76 vm76 h76 q76 r76 => ?_)
                              obtain ⟨rfl, rfl⟩ := q76
                              rw [if_neg (fun q => b74 q.2.2.1.symm)]
                              refine WP.iload (n := 574) at_572 rfl rfl ?_
                              refine WP.icmpN (n' := 577) at_574 (by decide) rfl ?_
                              refine WP.iconst (n := 578) (z := (1 : Int32)) at_577 rfl rfl ?_
                              refine WP.goto (n := 582) at_578 (by decide) (by decide) ?_
                              exact WP.retN at_582 rfl (Or.inl rfl) (by decide : nar .boolean 1 = 1) (by decide) (by decide) rfl
                            · refine WP.iload (n := 523) at_521 rfl rfl ?_
                              refine WP.iload (n := 525) at_523 rfl rfl ?_
                              refine WP.iload (n := 527) at_525 rfl rfl ?_
                              refine WP.iload (n := 529) at_527 rfl rfl ?_
                              refine WP.iload (n := 531) at_529 rfl rfl ?_
                              refine WP.iload (n := 533) at_531 rfl rfl ?_
                              refine WP.callS (n := 536) (ce' := 26) (sl' := 130) (Wd := 0) (argsL := [(.int yn1), (.int y0), (.int y1), (.int m2), (.int x0), (.int x1)]) (rest := []) (own_same l Z a0 hw EL hEL h66 yn1 y0 y1 m2 x0 x1) at_533 (hw _ (List.mem_of_getElem? (i := 69) rfl)) (hw _ (List.mem_of_getElem? (i := 70) rfl)) (hw _ (List.mem_of_getElem? (i := 13) rfl)) (hw _ (List.mem_of_getElem? (i := 71) rfl)) (by decide) (fun _ q => nomatch q) (by decide) (by decide) rfl rfl (by decide) (by decide) rfl rfl (lenOf own_pd12 rfl) rfl (Nat.le_of_eq rfl) rfl (fun v77 vm77 h77 q77 r77 => ?_)
                              obtain ⟨rfl, rfl⟩ := q77
                              by_cases hsy : own_sm yn1 y0 y1 m2 x0 x1
                              · rw [if_pos hsy]
                                refine WP.ifcN (n' := 539) at_536 (by decide) rfl ?_
                                refine WP.iload (n := 541) at_539 rfl rfl ?_
                                refine WP.iload (n := 543) at_541 rfl rfl ?_
                                refine WP.icmp_ne (n := 550) (n' := 546) at_543 (by decide) (by decide) rfl (fun b78 => ?_) (fun b78 => ?_)
                                · refine WP.iconst (n := 551) (z := (0 : Int32)) at_550 rfl rfl ?_
                                  refine WP.istore (n := 553) (Ls' := #[.val (.long o1), .second, .val (.long o2), .second, .val (.int te), .val (.int ty), .val (.long po), .second, .val (.int f), .val (.int tn1), .val (.int n2), .val (.int yn1), .val (.int m2), .val (.int fJ1), .val (.int fJ2), .val (.int fJ3), .val (.int fJ4), .val (.int ((XT.ushr f (12 : Int32)) &&& (3 : Int32))), .val (.int c0), .val (.int c1), .val (.int e0), .val (.int e1), .val (.int y0), .val (.int y1), .val (.int x0), .val (.int x1), .val (.int a1), .val (.int b1), .val (.int s1), .val (.int en1), .val (.int a2), .val (.int b2), .val (.int s3), .val (.int en3), .val (.int p1), .val (.int p3), .val (.ref a59), .val (.ref a63), .val (.int (0 : Int32))]) at_551 rfl rfl ?_
                                  refine WP.aload (n := 555) at_553 rfl rfl rfl ?_
                                  refine WP.aload (n := 557) at_555 rfl rfl rfl ?_
                                  refine WP.callV (n := 560) (ce' := 26) (sl' := 130) (Wd := 0) (a := a59) (argsL := [(.ref a63)]) (rest := []) (own_keK l Z a0 hw EL hEL h66 a59 a63 a60 a64 a61 a65 s1 s3 en1 en3 p1 p3 _ _ _ _ A66 (F62_term.ext (ext_keep1 (ext_trans E63 (ext_trans E64 E65)) K66 (Nat.le_of_eq g63.symm))) (F62_type.ext (ext_keep1 (ext_trans E63 (ext_trans E64 E65)) K66 (Nat.le_of_eq g63.symm))) (F62_startOffset.ext (ext_keep1 (ext_trans E63 (ext_trans E64 E65)) K66 (Nat.le_of_eq g63.symm))) (F62_endOffset.ext (ext_keep1 (ext_trans E63 (ext_trans E64 E65)) K66 (Nat.le_of_eq g63.symm))) (F62_position.ext (ext_keep1 (ext_trans E63 (ext_trans E64 E65)) K66 (Nat.le_of_eq g63.symm))) F66_term F66_type F66_startOffset F66_endOffset F66_position (F62_s60.ext (ext_keep1 (ext_trans E63 (ext_trans E64 E65)) K66 (Nat.le_of_eq g63.symm))) F66_s64 (F62_s61.ext (ext_keep1 (ext_trans E63 (ext_trans E64 E65)) K66 (Nat.le_of_eq g63.symm))) F66_s65 cz O hO) (A62.ext (ext_keep1 (ext_trans E63 (ext_trans E64 E65)) K66 (Nat.le_of_eq g63.symm))) at_557 (hw _ (List.mem_of_getElem? (i := 72) rfl)) (hw _ (List.mem_of_getElem? (i := 73) rfl)) (hw _ (List.mem_of_getElem? (i := 75) rfl)) (hw _ (List.mem_of_getElem? (i := 74) rfl)) (hw _ (List.mem_of_getElem? (i := 10) rfl)) (hw _ (List.mem_of_getElem? (i := 76) rfl)) (by decide) (fun _ hz => notFace_of_selects (args := #[]) (mvT hz (hw _ (List.mem_of_getElem? (i := 75) rfl)))) (fun _ q => nomatch q) (by decide) (by decide) rfl rfl (by decide) (by decide) rfl rfl (lenOf own_pd8 rfl) rfl (Nat.le_of_eq rfl) rfl (fun v79 vm79 h79 q79 r79 => ?_)
                                  obtain ⟨rfl, rfl⟩ := q79
                                  rw [if_neg (fun q => b78 q.2.2.2.2)]
                                  refine WP.iload (n := 562) at_560 rfl rfl ?_
                                  refine WP.icmpN (n' := 565) at_562 (by decide) rfl ?_
                                  refine WP.aload (n := 567) at_565 rfl rfl rfl ?_
                                  refine WP.aload (n := 569) at_567 rfl rfl rfl ?_
                                  refine WP.callV (n := 572) (ce' := 26) (sl' := 130) (Wd := 0) (a := a63) (argsL := [(.ref a59)]) (rest := []) (own_keK l Z a0 hw EL hEL h66 a63 a59 a64 a60 a65 a61 s3 s1 en3 en1 p3 p1 _ _ _ _ (A62.ext (ext_keep1 (ext_trans E63 (ext_trans E64 E65)) K66 (Nat.le_of_eq g63.symm))) F66_term F66_type F66_startOffset F66_endOffset F66_position (F62_term.ext (ext_keep1 (ext_trans E63 (ext_trans E64 E65)) K66 (Nat.le_of_eq g63.symm))) (F62_type.ext (ext_keep1 (ext_trans E63 (ext_trans E64 E65)) K66 (Nat.le_of_eq g63.symm))) (F62_startOffset.ext (ext_keep1 (ext_trans E63 (ext_trans E64 E65)) K66 (Nat.le_of_eq g63.symm))) (F62_endOffset.ext (ext_keep1 (ext_trans E63 (ext_trans E64 E65)) K66 (Nat.le_of_eq g63.symm))) (F62_position.ext (ext_keep1 (ext_trans E63 (ext_trans E64 E65)) K66 (Nat.le_of_eq g63.symm))) F66_s64 (F62_s60.ext (ext_keep1 (ext_trans E63 (ext_trans E64 E65)) K66 (Nat.le_of_eq g63.symm))) F66_s65 (F62_s61.ext (ext_keep1 (ext_trans E63 (ext_trans E64 E65)) K66 (Nat.le_of_eq g63.symm))) cz O hO) A66 at_569 (hw _ (List.mem_of_getElem? (i := 72) rfl)) (hw _ (List.mem_of_getElem? (i := 73) rfl)) (hw _ (List.mem_of_getElem? (i := 75) rfl)) (hw _ (List.mem_of_getElem? (i := 74) rfl)) (hw _ (List.mem_of_getElem? (i := 10) rfl)) (hw _ (List.mem_of_getElem? (i := 76) rfl)) (by decide) (fun _ hz => notFace_of_selects (args := #[]) (mvT hz (hw _ (List.mem_of_getElem? (i := 75) rfl)))) (fun _ q => nomatch q) (by decide) (by decide) rfl rfl (by decide) (by decide) rfl rfl (lenOf own_pd8 rfl) rfl (Nat.le_of_eq rfl) rfl (fun v80 vm80 h80 q80 r80 => ?_)
                                  obtain ⟨rfl, rfl⟩ := q80
                                  rw [if_neg (fun q => b78 q.2.2.2.2.symm)]
                                  refine WP.iload (n := 574) at_572 rfl rfl ?_
                                  refine WP.icmpN (n' := 577) at_574 (by decide) rfl ?_
                                  refine WP.iconst (n := 578) (z := (1 : Int32)) at_577 rfl rfl ?_
                                  refine WP.goto (n := 582) at_578 (by decide) (by decide) ?_
                                  exact WP.retN at_582 rfl (Or.inl rfl) (by decide : nar .boolean 1 = 1) (by decide) (by decide) rfl
                                · refine WP.iconst (n := 547) (z := (1 : Int32)) at_546 rfl rfl ?_
                                  refine WP.goto (n := 551) at_547 (by decide) (by decide) ?_
                                  refine WP.istore (n := 553) (Ls' := #[.val (.long o1), .second, .val (.long o2), .second, .val (.int te), .val (.int ty), .val (.long po), .second, .val (.int f), .val (.int tn1), .val (.int n2), .val (.int yn1), .val (.int m2), .val (.int fJ1), .val (.int fJ2), .val (.int fJ3), .val (.int fJ4), .val (.int ((XT.ushr f (12 : Int32)) &&& (3 : Int32))), .val (.int c0), .val (.int c1), .val (.int e0), .val (.int e1), .val (.int y0), .val (.int y1), .val (.int x0), .val (.int x1), .val (.int a1), .val (.int b1), .val (.int s1), .val (.int en1), .val (.int a2), .val (.int b2), .val (.int s3), .val (.int en3), .val (.int p1), .val (.int p3), .val (.ref a59), .val (.ref a63), .val (.int (1 : Int32))]) at_551 rfl rfl ?_
                                  refine WP.aload (n := 555) at_553 rfl rfl rfl ?_
                                  refine WP.aload (n := 557) at_555 rfl rfl rfl ?_
                                  refine WP.callV (n := 560) (ce' := 26) (sl' := 130) (Wd := 0) (a := a59) (argsL := [(.ref a63)]) (rest := []) (own_keK l Z a0 hw EL hEL h66 a59 a63 a60 a64 a61 a65 s1 s3 en1 en3 p1 p3 _ _ _ _ A66 (F62_term.ext (ext_keep1 (ext_trans E63 (ext_trans E64 E65)) K66 (Nat.le_of_eq g63.symm))) (F62_type.ext (ext_keep1 (ext_trans E63 (ext_trans E64 E65)) K66 (Nat.le_of_eq g63.symm))) (F62_startOffset.ext (ext_keep1 (ext_trans E63 (ext_trans E64 E65)) K66 (Nat.le_of_eq g63.symm))) (F62_endOffset.ext (ext_keep1 (ext_trans E63 (ext_trans E64 E65)) K66 (Nat.le_of_eq g63.symm))) (F62_position.ext (ext_keep1 (ext_trans E63 (ext_trans E64 E65)) K66 (Nat.le_of_eq g63.symm))) F66_term F66_type F66_startOffset F66_endOffset F66_position (F62_s60.ext (ext_keep1 (ext_trans E63 (ext_trans E64 E65)) K66 (Nat.le_of_eq g63.symm))) F66_s64 (F62_s61.ext (ext_keep1 (ext_trans E63 (ext_trans E64 E65)) K66 (Nat.le_of_eq g63.symm))) F66_s65 cz O hO) (A62.ext (ext_keep1 (ext_trans E63 (ext_trans E64 E65)) K66 (Nat.le_of_eq g63.symm))) at_557 (hw _ (List.mem_of_getElem? (i := 72) rfl)) (hw _ (List.mem_of_getElem? (i := 73) rfl)) (hw _ (List.mem_of_getElem? (i := 75) rfl)) (hw _ (List.mem_of_getElem? (i := 74) rfl)) (hw _ (List.mem_of_getElem? (i := 10) rfl)) (hw _ (List.mem_of_getElem? (i := 76) rfl)) (by decide) (fun _ hz => notFace_of_selects (args := #[]) (mvT hz (hw _ (List.mem_of_getElem? (i := 75) rfl)))) (fun _ q => nomatch q) (by decide) (by decide) rfl rfl (by decide) (by decide) rfl rfl (lenOf own_pd8 rfl) rfl (Nat.le_of_eq rfl) rfl (fun v81 vm81 h81 q81 r81 => ?_)
                                  obtain ⟨rfl, rfl⟩ := q81
                                  rw [if_pos ⟨((own_sm_iff htn1 hn2 hc0 hc1 he0 he1).mpr hst), b71, b74, ((own_sm_iff hyn1 hm2 hy0 hy1 hx0 hx1).mpr hsy), b78⟩]
                                  refine WP.iload (n := 562) at_560 rfl rfl ?_
                                  refine WP.icmpN (n' := 565) at_562 (by decide) rfl ?_
                                  refine WP.aload (n := 567) at_565 rfl rfl rfl ?_
                                  refine WP.aload (n := 569) at_567 rfl rfl rfl ?_
                                  refine WP.callV (n := 572) (ce' := 26) (sl' := 130) (Wd := 0) (a := a63) (argsL := [(.ref a59)]) (rest := []) (own_keK l Z a0 hw EL hEL h66 a63 a59 a64 a60 a65 a61 s3 s1 en3 en1 p3 p1 _ _ _ _ (A62.ext (ext_keep1 (ext_trans E63 (ext_trans E64 E65)) K66 (Nat.le_of_eq g63.symm))) F66_term F66_type F66_startOffset F66_endOffset F66_position (F62_term.ext (ext_keep1 (ext_trans E63 (ext_trans E64 E65)) K66 (Nat.le_of_eq g63.symm))) (F62_type.ext (ext_keep1 (ext_trans E63 (ext_trans E64 E65)) K66 (Nat.le_of_eq g63.symm))) (F62_startOffset.ext (ext_keep1 (ext_trans E63 (ext_trans E64 E65)) K66 (Nat.le_of_eq g63.symm))) (F62_endOffset.ext (ext_keep1 (ext_trans E63 (ext_trans E64 E65)) K66 (Nat.le_of_eq g63.symm))) (F62_position.ext (ext_keep1 (ext_trans E63 (ext_trans E64 E65)) K66 (Nat.le_of_eq g63.symm))) F66_s64 (F62_s60.ext (ext_keep1 (ext_trans E63 (ext_trans E64 E65)) K66 (Nat.le_of_eq g63.symm))) F66_s65 (F62_s61.ext (ext_keep1 (ext_trans E63 (ext_trans E64 E65)) K66 (Nat.le_of_eq g63.symm))) cz O hO) A66 at_569 (hw _ (List.mem_of_getElem? (i := 72) rfl)) (hw _ (List.mem_of_getElem? (i := 73) rfl)) (hw _ (List.mem_of_getElem? (i := 75) rfl)) (hw _ (List.mem_of_getElem? (i := 74) rfl)) (hw _ (List.mem_of_getElem? (i := 10) rfl)) (hw _ (List.mem_of_getElem? (i := 76) rfl)) (by decide) (fun _ hz => notFace_of_selects (args := #[]) (mvT hz (hw _ (List.mem_of_getElem? (i := 75) rfl)))) (fun _ q => nomatch q) (by decide) (by decide) rfl rfl (by decide) (by decide) rfl rfl (lenOf own_pd8 rfl) rfl (Nat.le_of_eq rfl) rfl (fun v82 vm82 h82 q82 r82 => ?_)
                                  obtain ⟨rfl, rfl⟩ := q82
                                  rw [if_pos ⟨((own_sm_iff htn1 hn2 hc0 hc1 he0 he1).mpr hst).symm, b71.symm, b74.symm, ((own_sm_iff hyn1 hm2 hy0 hy1 hx0 hx1).mpr hsy).symm, b78.symm⟩]
                                  refine WP.iload (n := 574) at_572 rfl rfl ?_
                                  refine WP.icmpN (n' := 577) at_574 (by decide) rfl ?_
                                  refine WP.iconst (n := 578) (z := (1 : Int32)) at_577 rfl rfl ?_
                                  refine WP.goto (n := 582) at_578 (by decide) (by decide) ?_
                                  exact WP.retN at_582 rfl (Or.inl rfl) (by decide : nar .boolean 1 = 1) (by decide) (by decide) rfl
                              · rw [if_neg hsy]
                                refine WP.ifcY (n := 550) at_536 (by decide) (by decide) (by decide) ?_
                                refine WP.iconst (n := 551) (z := (0 : Int32)) at_550 rfl rfl ?_
                                refine WP.istore (n := 553) (Ls' := #[.val (.long o1), .second, .val (.long o2), .second, .val (.int te), .val (.int ty), .val (.long po), .second, .val (.int f), .val (.int tn1), .val (.int n2), .val (.int yn1), .val (.int m2), .val (.int fJ1), .val (.int fJ2), .val (.int fJ3), .val (.int fJ4), .val (.int ((XT.ushr f (12 : Int32)) &&& (3 : Int32))), .val (.int c0), .val (.int c1), .val (.int e0), .val (.int e1), .val (.int y0), .val (.int y1), .val (.int x0), .val (.int x1), .val (.int a1), .val (.int b1), .val (.int s1), .val (.int en1), .val (.int a2), .val (.int b2), .val (.int s3), .val (.int en3), .val (.int p1), .val (.int p3), .val (.ref a59), .val (.ref a63), .val (.int (0 : Int32))]) at_551 rfl rfl ?_
                                refine WP.aload (n := 555) at_553 rfl rfl rfl ?_
                                refine WP.aload (n := 557) at_555 rfl rfl rfl ?_
                                refine WP.callV (n := 560) (ce' := 26) (sl' := 130) (Wd := 0) (a := a59) (argsL := [(.ref a63)]) (rest := []) (own_keK l Z a0 hw EL hEL h66 a59 a63 a60 a64 a61 a65 s1 s3 en1 en3 p1 p3 _ _ _ _ A66 (F62_term.ext (ext_keep1 (ext_trans E63 (ext_trans E64 E65)) K66 (Nat.le_of_eq g63.symm))) (F62_type.ext (ext_keep1 (ext_trans E63 (ext_trans E64 E65)) K66 (Nat.le_of_eq g63.symm))) (F62_startOffset.ext (ext_keep1 (ext_trans E63 (ext_trans E64 E65)) K66 (Nat.le_of_eq g63.symm))) (F62_endOffset.ext (ext_keep1 (ext_trans E63 (ext_trans E64 E65)) K66 (Nat.le_of_eq g63.symm))) (F62_position.ext (ext_keep1 (ext_trans E63 (ext_trans E64 E65)) K66 (Nat.le_of_eq g63.symm))) F66_term F66_type F66_startOffset F66_endOffset F66_position (F62_s60.ext (ext_keep1 (ext_trans E63 (ext_trans E64 E65)) K66 (Nat.le_of_eq g63.symm))) F66_s64 (F62_s61.ext (ext_keep1 (ext_trans E63 (ext_trans E64 E65)) K66 (Nat.le_of_eq g63.symm))) F66_s65 cz O hO) (A62.ext (ext_keep1 (ext_trans E63 (ext_trans E64 E65)) K66 (Nat.le_of_eq g63.symm))) at_557 (hw _ (List.mem_of_getElem? (i := 72) rfl)) (hw _ (List.mem_of_getElem? (i := 73) rfl)) (hw _ (List.mem_of_getElem? (i := 75) rfl)) (hw _ (List.mem_of_getElem? (i := 74) rfl)) (hw _ (List.mem_of_getElem? (i := 10) rfl)) (hw _ (List.mem_of_getElem? (i := 76) rfl)) (by decide) (fun _ hz => notFace_of_selects (args := #[]) (mvT hz (hw _ (List.mem_of_getElem? (i := 75) rfl)))) (fun _ q => nomatch q) (by decide) (by decide) rfl rfl (by decide) (by decide) rfl rfl (lenOf own_pd8 rfl) rfl (Nat.le_of_eq rfl) rfl (fun v83 vm83 h83 q83 r83 => ?_)
                                obtain ⟨rfl, rfl⟩ := q83
                                rw [if_neg (fun q => hsy ((own_sm_iff hyn1 hm2 hy0 hy1 hx0 hx1).mp q.2.2.2.1))]
                                refine WP.iload (n := 562) at_560 rfl rfl ?_
                                refine WP.icmpN (n' := 565) at_562 (by decide) rfl ?_
                                refine WP.aload (n := 567) at_565 rfl rfl rfl ?_
                                refine WP.aload (n := 569) at_567 rfl rfl rfl ?_
                                refine WP.callV (n := 572) (ce' := 26) (sl' := 130) (Wd := 0) (a := a63) (argsL := [(.ref a59)]) (rest := []) (own_keK l Z a0 hw EL hEL h66 a63 a59 a64 a60 a65 a61 s3 s1 en3 en1 p3 p1 _ _ _ _ (A62.ext (ext_keep1 (ext_trans E63 (ext_trans E64 E65)) K66 (Nat.le_of_eq g63.symm))) F66_term F66_type F66_startOffset F66_endOffset F66_position (F62_term.ext (ext_keep1 (ext_trans E63 (ext_trans E64 E65)) K66 (Nat.le_of_eq g63.symm))) (F62_type.ext (ext_keep1 (ext_trans E63 (ext_trans E64 E65)) K66 (Nat.le_of_eq g63.symm))) (F62_startOffset.ext (ext_keep1 (ext_trans E63 (ext_trans E64 E65)) K66 (Nat.le_of_eq g63.symm))) (F62_endOffset.ext (ext_keep1 (ext_trans E63 (ext_trans E64 E65)) K66 (Nat.le_of_eq g63.symm))) (F62_position.ext (ext_keep1 (ext_trans E63 (ext_trans E64 E65)) K66 (Nat.le_of_eq g63.symm))) F66_s64 (F62_s60.ext (ext_keep1 (ext_trans E63 (ext_trans E64 E65)) K66 (Nat.le_of_eq g63.symm))) F66_s65 (F62_s61.ext (ext_keep1 (ext_trans E63 (ext_trans E64 E65)) K66 (Nat.le_of_eq g63.symm))) cz O hO) A66 at_569 (hw _ (List.mem_of_getElem? (i := 72) rfl)) (hw _ (List.mem_of_getElem? (i := 73) rfl)) (hw _ (List.mem_of_getElem? (i := 75) rfl)) (hw _ (List.mem_of_getElem? (i := 74) rfl)) (hw _ (List.mem_of_getElem? (i := 10) rfl)) (hw _ (List.mem_of_getElem? (i := 76) rfl)) (by decide) (fun _ hz => notFace_of_selects (args := #[]) (mvT hz (hw _ (List.mem_of_getElem? (i := 75) rfl)))) (fun _ q => nomatch q) (by decide) (by decide) rfl rfl (by decide) (by decide) rfl rfl (lenOf own_pd8 rfl) rfl (Nat.le_of_eq rfl) rfl (fun v84 vm84 h84 q84 r84 => ?_)
                                obtain ⟨rfl, rfl⟩ := q84
                                rw [if_neg (fun q => hsy ((own_sm_iff hyn1 hm2 hy0 hy1 hx0 hx1).mp q.2.2.2.1.symm))]
                                refine WP.iload (n := 574) at_572 rfl rfl ?_
                                refine WP.icmpN (n' := 577) at_574 (by decide) rfl ?_
                                refine WP.iconst (n := 578) (z := (1 : Int32)) at_577 rfl rfl ?_
                                refine WP.goto (n := 582) at_578 (by decide) (by decide) ?_
                                exact WP.retN at_582 rfl (Or.inl rfl) (by decide : nar .boolean 1 = 1) (by decide) (by decide) rfl
                        · rw [if_neg hst]
                          refine WP.ifcY (n := 550) at_504 (by decide) (by decide) (by decide) ?_
                          refine WP.iconst (n := 551) (z := (0 : Int32)) at_550 rfl rfl ?_
                          refine WP.istore (n := 553) (Ls' := #[.val (.long o1), .second, .val (.long o2), .second, .val (.int te), .val (.int ty), .val (.long po), .second, .val (.int f), .val (.int tn1), .val (.int n2), .val (.int yn1), .val (.int m2), .val (.int fJ1), .val (.int fJ2), .val (.int fJ3), .val (.int fJ4), .val (.int ((XT.ushr f (12 : Int32)) &&& (3 : Int32))), .val (.int c0), .val (.int c1), .val (.int e0), .val (.int e1), .val (.int y0), .val (.int y1), .val (.int x0), .val (.int x1), .val (.int a1), .val (.int b1), .val (.int s1), .val (.int en1), .val (.int a2), .val (.int b2), .val (.int s3), .val (.int en3), .val (.int p1), .val (.int p3), .val (.ref a59), .val (.ref a63), .val (.int (0 : Int32))]) at_551 rfl rfl ?_
                          refine WP.aload (n := 555) at_553 rfl rfl rfl ?_
                          refine WP.aload (n := 557) at_555 rfl rfl rfl ?_
                          refine WP.callV (n := 560) (ce' := 26) (sl' := 130) (Wd := 0) (a := a59) (argsL := [(.ref a63)]) (rest := []) (own_keK l Z a0 hw EL hEL h66 a59 a63 a60 a64 a61 a65 s1 s3 en1 en3 p1 p3 _ _ _ _ A66 (F62_term.ext (ext_keep1 (ext_trans E63 (ext_trans E64 E65)) K66 (Nat.le_of_eq g63.symm))) (F62_type.ext (ext_keep1 (ext_trans E63 (ext_trans E64 E65)) K66 (Nat.le_of_eq g63.symm))) (F62_startOffset.ext (ext_keep1 (ext_trans E63 (ext_trans E64 E65)) K66 (Nat.le_of_eq g63.symm))) (F62_endOffset.ext (ext_keep1 (ext_trans E63 (ext_trans E64 E65)) K66 (Nat.le_of_eq g63.symm))) (F62_position.ext (ext_keep1 (ext_trans E63 (ext_trans E64 E65)) K66 (Nat.le_of_eq g63.symm))) F66_term F66_type F66_startOffset F66_endOffset F66_position (F62_s60.ext (ext_keep1 (ext_trans E63 (ext_trans E64 E65)) K66 (Nat.le_of_eq g63.symm))) F66_s64 (F62_s61.ext (ext_keep1 (ext_trans E63 (ext_trans E64 E65)) K66 (Nat.le_of_eq g63.symm))) F66_s65 cz O hO) (A62.ext (ext_keep1 (ext_trans E63 (ext_trans E64 E65)) K66 (Nat.le_of_eq g63.symm))) at_557 (hw _ (List.mem_of_getElem? (i := 72) rfl)) (hw _ (List.mem_of_getElem? (i := 73) rfl)) (hw _ (List.mem_of_getElem? (i := 75) rfl)) (hw _ (List.mem_of_getElem? (i := 74) rfl)) (hw _ (List.mem_of_getElem? (i := 10) rfl)) (hw _ (List.mem_of_getElem? (i := 76) rfl)) (by decide) (fun _ hz => notFace_of_selects (args := #[]) (mvT hz (hw _ (List.mem_of_getElem? (i := 75) rfl)))) (fun _ q => nomatch q) (by decide) (by decide) rfl rfl (by decide) (by decide) rfl rfl (lenOf own_pd8 rfl) rfl (Nat.le_of_eq rfl) rfl (fun v85 vm85 h85 q85 r85 => ?_)
                          obtain ⟨rfl, rfl⟩ := q85
                          rw [if_neg (fun q => hst ((own_sm_iff htn1 hn2 hc0 hc1 he0 he1).mp q.1))]
                          refine WP.iload (n := 562) at_560 rfl rfl ?_
                          refine WP.icmpN (n' := 565) at_562 (by decide) rfl ?_
                          refine WP.aload (n := 567) at_565 rfl rfl rfl ?_
                          refine WP.aload (n := 569) at_567 rfl rfl rfl ?_
                          refine WP.callV (n := 572) (ce' := 26) (sl' := 130) (Wd := 0) (a := a63) (argsL := [(.ref a59)]) (rest := []) (own_keK l Z a0 hw EL hEL h66 a63 a59 a64 a60 a65 a61 s3 s1 en3 en1 p3 p1 _ _ _ _ (A62.ext (ext_keep1 (ext_trans E63 (ext_trans E64 E65)) K66 (Nat.le_of_eq g63.symm))) F66_term F66_type F66_startOffset F66_endOffset F66_position (F62_term.ext (ext_keep1 (ext_trans E63 (ext_trans E64 E65)) K66 (Nat.le_of_eq g63.symm))) (F62_type.ext (ext_keep1 (ext_trans E63 (ext_trans E64 E65)) K66 (Nat.le_of_eq g63.symm))) (F62_startOffset.ext (ext_keep1 (ext_trans E63 (ext_trans E64 E65)) K66 (Nat.le_of_eq g63.symm))) (F62_endOffset.ext (ext_keep1 (ext_trans E63 (ext_trans E64 E65)) K66 (Nat.le_of_eq g63.symm))) (F62_position.ext (ext_keep1 (ext_trans E63 (ext_trans E64 E65)) K66 (Nat.le_of_eq g63.symm))) F66_s64 (F62_s60.ext (ext_keep1 (ext_trans E63 (ext_trans E64 E65)) K66 (Nat.le_of_eq g63.symm))) F66_s65 (F62_s61.ext (ext_keep1 (ext_trans E63 (ext_trans E64 E65)) K66 (Nat.le_of_eq g63.symm))) cz O hO) A66 at_569 (hw _ (List.mem_of_getElem? (i := 72) rfl)) (hw _ (List.mem_of_getElem? (i := 73) rfl)) (hw _ (List.mem_of_getElem? (i := 75) rfl)) (hw _ (List.mem_of_getElem? (i := 74) rfl)) (hw _ (List.mem_of_getElem? (i := 10) rfl)) (hw _ (List.mem_of_getElem? (i := 76) rfl)) (by decide) (fun _ hz => notFace_of_selects (args := #[]) (mvT hz (hw _ (List.mem_of_getElem? (i := 75) rfl)))) (fun _ q => nomatch q) (by decide) (by decide) rfl rfl (by decide) (by decide) rfl rfl (lenOf own_pd8 rfl) rfl (Nat.le_of_eq rfl) rfl (fun v86 vm86 h86 q86 r86 => ?_)
                          obtain ⟨rfl, rfl⟩ := q86
                          rw [if_neg (fun q => hst ((own_sm_iff htn1 hn2 hc0 hc1 he0 he1).mp q.1.symm))]
                          refine WP.iload (n := 574) at_572 rfl rfl ?_
                          refine WP.icmpN (n' := 577) at_574 (by decide) rfl ?_
                          refine WP.iconst (n := 578) (z := (1 : Int32)) at_577 rfl rfl ?_
                          refine WP.goto (n := 582) at_578 (by decide) (by decide) ?_
                          exact WP.retN at_582 rfl (Or.inl rfl) (by decide : nar .boolean 1 = 1) (by decide) (by decide) rfl
                      · refine WP.aload (n := 483) at_481 rfl rfl rfl ?_
                        refine WP.aload (n := 485) at_483 rfl rfl rfl ?_
                        refine WP.callV (n := 488) (ce' := 26) (sl' := 130) (Wd := 0) (a := a59) (argsL := [(.ref a59)]) (rest := []) (own_keK l Z a0 hw EL hEL h66 a59 a59 a60 a60 a61 a61 s1 s1 en1 en1 p1 p1 _ _ _ _ (A62.ext (ext_keep1 (ext_trans E63 (ext_trans E64 E65)) K66 (Nat.le_of_eq g63.symm))) (F62_term.ext (ext_keep1 (ext_trans E63 (ext_trans E64 E65)) K66 (Nat.le_of_eq g63.symm))) (F62_type.ext (ext_keep1 (ext_trans E63 (ext_trans E64 E65)) K66 (Nat.le_of_eq g63.symm))) (F62_startOffset.ext (ext_keep1 (ext_trans E63 (ext_trans E64 E65)) K66 (Nat.le_of_eq g63.symm))) (F62_endOffset.ext (ext_keep1 (ext_trans E63 (ext_trans E64 E65)) K66 (Nat.le_of_eq g63.symm))) (F62_position.ext (ext_keep1 (ext_trans E63 (ext_trans E64 E65)) K66 (Nat.le_of_eq g63.symm))) (F62_term.ext (ext_keep1 (ext_trans E63 (ext_trans E64 E65)) K66 (Nat.le_of_eq g63.symm))) (F62_type.ext (ext_keep1 (ext_trans E63 (ext_trans E64 E65)) K66 (Nat.le_of_eq g63.symm))) (F62_startOffset.ext (ext_keep1 (ext_trans E63 (ext_trans E64 E65)) K66 (Nat.le_of_eq g63.symm))) (F62_endOffset.ext (ext_keep1 (ext_trans E63 (ext_trans E64 E65)) K66 (Nat.le_of_eq g63.symm))) (F62_position.ext (ext_keep1 (ext_trans E63 (ext_trans E64 E65)) K66 (Nat.le_of_eq g63.symm))) (F62_s60.ext (ext_keep1 (ext_trans E63 (ext_trans E64 E65)) K66 (Nat.le_of_eq g63.symm))) (F62_s60.ext (ext_keep1 (ext_trans E63 (ext_trans E64 E65)) K66 (Nat.le_of_eq g63.symm))) (F62_s61.ext (ext_keep1 (ext_trans E63 (ext_trans E64 E65)) K66 (Nat.le_of_eq g63.symm))) (F62_s61.ext (ext_keep1 (ext_trans E63 (ext_trans E64 E65)) K66 (Nat.le_of_eq g63.symm))) cz O hO) (A62.ext (ext_keep1 (ext_trans E63 (ext_trans E64 E65)) K66 (Nat.le_of_eq g63.symm))) at_485 (hw _ (List.mem_of_getElem? (i := 72) rfl)) (hw _ (List.mem_of_getElem? (i := 73) rfl)) (hw _ (List.mem_of_getElem? (i := 75) rfl)) (hw _ (List.mem_of_getElem? (i := 74) rfl)) (hw _ (List.mem_of_getElem? (i := 10) rfl)) (hw _ (List.mem_of_getElem? (i := 76) rfl)) (by decide) (fun _ hz => notFace_of_selects (args := #[]) (mvT hz (hw _ (List.mem_of_getElem? (i := 75) rfl)))) (fun _ q => nomatch q) (by decide) (by decide) rfl rfl (by decide) (by decide) rfl rfl (lenOf own_pd8 rfl) rfl (Nat.le_of_eq rfl) rfl (fun v87 vm87 h87 q87 r87 => ?_)
                        obtain ⟨rfl, rfl⟩ := q87
                        rw [if_pos ⟨rfl, rfl, rfl, rfl, rfl⟩]
                        exact WP.retN at_488 rfl (Or.inl rfl) (by decide : nar .boolean 1 = 1) (by decide) (by decide) rfl
                    · refine WP.aload (n := 454) at_452 rfl rfl rfl ?_
                      refine WP.callV (n := 457) (ce' := 26) (sl' := 130) (Wd := 0) (a := a59) (argsL := []) (rest := []) (own_term l Z a0 hw EL hEL h66 a59 a60 (F62_term.ext (ext_keep1 (ext_trans E63 (ext_trans E64 E65)) K66 (Nat.le_of_eq g63.symm)))) (A62.ext (ext_keep1 (ext_trans E63 (ext_trans E64 E65)) K66 (Nat.le_of_eq g63.symm))) at_454 (hw _ (List.mem_of_getElem? (i := 101) rfl)) (hw _ (List.mem_of_getElem? (i := 102) rfl)) (hw _ (List.mem_of_getElem? (i := 104) rfl)) (hw _ (List.mem_of_getElem? (i := 103) rfl)) (hw _ (List.mem_of_getElem? (i := 10) rfl)) (hw _ (List.mem_of_getElem? (i := 105) rfl)) (by decide) (fun _ hz => notFace_of_selects (args := #[]) (mvT hz (hw _ (List.mem_of_getElem? (i := 104) rfl)))) (fun _ q => nomatch q) (by decide) (by decide) rfl rfl (by decide) (by decide) rfl rfl (lenOf own_pd13 rfl) rfl (Nat.le_of_eq rfl) rfl (fun v88 vm88 h88 q88 r88 => ?_)
                      obtain ⟨rfl, rfl⟩ := q88
                      refine WP.astore (n := 459) (Ls' := #[.val (.long o1), .second, .val (.long o2), .second, .val (.int te), .val (.int ty), .val (.long po), .second, .val (.int f), .val (.int tn1), .val (.int n2), .val (.int yn1), .val (.int m2), .val (.int fJ1), .val (.int fJ2), .val (.int fJ3), .val (.int fJ4), .val (.int ((XT.ushr f (12 : Int32)) &&& (3 : Int32))), .val (.int c0), .val (.int c1), .val (.int e0), .val (.int e1), .val (.int y0), .val (.int y1), .val (.int x0), .val (.int x1), .val (.int a1), .val (.int b1), .val (.int s1), .val (.int en1), .val (.int a2), .val (.int b2), .val (.int s3), .val (.int en3), .val (.int p1), .val (.int p3), .val (.ref a59), .val (.ref a63), .val (.ref a60)]) at_457 rfl rfl rfl ?_
                      refine WP.aload (n := 461) at_459 rfl rfl rfl ?_
                      refine WP.aload (n := 463) at_461 rfl rfl rfl ?_
                      refine WP.callV (n := 466) (ce' := 26) (sl' := 130) (Wd := 0) (a := a59) (argsL := [(.ref a60)]) (rest := []) (own_keS l Z a0 hw EL hEL h66 a59 a60 (F62_s60.ext (ext_keep1 (ext_trans E63 (ext_trans E64 E65)) K66 (Nat.le_of_eq g63.symm))).1) (A62.ext (ext_keep1 (ext_trans E63 (ext_trans E64 E65)) K66 (Nat.le_of_eq g63.symm))) at_463 (hw _ (List.mem_of_getElem? (i := 72) rfl)) (hw _ (List.mem_of_getElem? (i := 73) rfl)) (hw _ (List.mem_of_getElem? (i := 75) rfl)) (hw _ (List.mem_of_getElem? (i := 74) rfl)) (hw _ (List.mem_of_getElem? (i := 10) rfl)) (hw _ (List.mem_of_getElem? (i := 76) rfl)) (by decide) (fun _ hz => notFace_of_selects (args := #[]) (mvT hz (hw _ (List.mem_of_getElem? (i := 75) rfl)))) (fun _ q => nomatch q) (by decide) (by decide) rfl rfl (by decide) (by decide) rfl rfl (lenOf own_pd8 rfl) rfl (Nat.le_of_eq rfl) rfl (fun v89 vm89 h89 q89 r89 => ?_)
                      obtain ⟨rfl, rfl⟩ := q89
                      refine WP.ifcN (n' := 469) at_466 (by decide) rfl ?_
                      refine WP.iconst (n := 470) (z := (1 : Int32)) at_469 rfl rfl ?_
                      refine WP.goto (n := 474) at_470 (by decide) (by decide) ?_
                      exact WP.retN at_474 rfl (Or.inl rfl) (by decide : nar .boolean 1 = 1) (by decide) (by decide) rfl
                  · refine WP.aload (n := 433) at_431 rfl rfl rfl ?_
                    refine WP.aconstNull (n := 434) at_433  rfl ?_
                    refine WP.callV (n := 437) (ce' := 26) (sl' := 130) (Wd := 0) (a := a59) (argsL := [.null]) (rest := []) (own_keN l Z a0 hw EL hEL h66 a59) (A62.ext (ext_keep1 (ext_trans E63 (ext_trans E64 E65)) K66 (Nat.le_of_eq g63.symm))) at_434 (hw _ (List.mem_of_getElem? (i := 72) rfl)) (hw _ (List.mem_of_getElem? (i := 73) rfl)) (hw _ (List.mem_of_getElem? (i := 75) rfl)) (hw _ (List.mem_of_getElem? (i := 74) rfl)) (hw _ (List.mem_of_getElem? (i := 10) rfl)) (hw _ (List.mem_of_getElem? (i := 76) rfl)) (by decide) (fun _ hz => notFace_of_selects (args := #[]) (mvT hz (hw _ (List.mem_of_getElem? (i := 75) rfl)))) (fun _ q => nomatch q) (by decide) (by decide) rfl rfl (by decide) (by decide) rfl rfl (lenOf own_pd8 rfl) rfl (Nat.le_of_eq rfl) rfl (fun v90 vm90 h90 q90 r90 => ?_)
                    obtain ⟨rfl, rfl⟩ := q90
                    refine WP.ifcN (n' := 440) at_437 (by decide) rfl ?_
                    refine WP.iconst (n := 441) (z := (1 : Int32)) at_440 rfl rfl ?_
                    refine WP.goto (n := 445) at_441 (by decide) (by decide) ?_
                    exact WP.retN at_445 rfl (Or.inl rfl) (by decide : nar .boolean 1 = 1) (by decide) (by decide) rfl
                refine WP.if_eq (n := 359) (n' := 355) at_352 (by decide) (by decide) rfl (fun b91 => ?_) (fun b91 => ?_)
                · exact J8 _ (by assumption)
                · refine WP.iload (n := 357) at_355 rfl rfl ?_
                  refine WP.istore (n := 359) (Ls' := #[.val (.long o1), .second, .val (.long o2), .second, .val (.int te), .val (.int ty), .val (.long po), .second, .val (.int f), .val (.int tn1), .val (.int n2), .val (.int yn1), .val (.int m2), .val (.int fJ1), .val (.int fJ2), .val (.int fJ3), .val (.int fJ4), .val (.int ((XT.ushr f (12 : Int32)) &&& (3 : Int32))), .val (.int c0), .val (.int c1), .val (.int e0), .val (.int e1), .val (.int y0), .val (.int y1), .val (.int x0), .val (.int x1), .val (.int a1), .val (.int b1), .val (.int s1), .val (.int en1), .val (.int a2), .val (.int b2), .val (.int s3), .val (.int en3), .val (.int p1), .val (.int p1), .unset, .unset, .unset]) at_357 rfl rfl ?_
                  exact J8 _ (by assumption)
              refine WP.if_eq (n := 331) (n' := 323) at_320 (by decide) (by decide) rfl (fun b92 => ?_) (fun b92 => ?_)
              · exact J7 _ _ (by assumption) (by assumption)
              · refine WP.iload (n := 325) at_323 rfl rfl ?_
                refine WP.istore (n := 327) (Ls' := #[.val (.long o1), .second, .val (.long o2), .second, .val (.int te), .val (.int ty), .val (.long po), .second, .val (.int f), .val (.int tn1), .val (.int n2), .val (.int yn1), .val (.int m2), .val (.int fJ1), .val (.int fJ2), .val (.int fJ3), .val (.int fJ4), .val (.int ((XT.ushr f (12 : Int32)) &&& (3 : Int32))), .val (.int c0), .val (.int c1), .val (.int e0), .val (.int e1), .val (.int y0), .val (.int y1), .val (.int x0), .val (.int x1), .val (.int a1), .val (.int b1), .val (.int s1), .val (.int en1), .val (.int a2), .val (.int b2), .val (.int s1), .val (.int en2), .unset, .unset, .unset, .unset, .unset]) at_325 rfl rfl ?_
                refine WP.iload (n := 329) at_327 rfl rfl ?_
                refine WP.istore (n := 331) (Ls' := #[.val (.long o1), .second, .val (.long o2), .second, .val (.int te), .val (.int ty), .val (.long po), .second, .val (.int f), .val (.int tn1), .val (.int n2), .val (.int yn1), .val (.int m2), .val (.int fJ1), .val (.int fJ2), .val (.int fJ3), .val (.int fJ4), .val (.int ((XT.ushr f (12 : Int32)) &&& (3 : Int32))), .val (.int c0), .val (.int c1), .val (.int e0), .val (.int e1), .val (.int y0), .val (.int y1), .val (.int x0), .val (.int x1), .val (.int a1), .val (.int b1), .val (.int s1), .val (.int en1), .val (.int a2), .val (.int b2), .val (.int s1), .val (.int en1), .unset, .unset, .unset, .unset, .unset]) at_329 rfl rfl ?_
                exact J7 _ _ (by assumption) (by assumption)
            refine WP.if_eq (n := 248) (n' := 236) at_233 (by decide) (by decide) rfl (fun b93 => ?_) (fun b93 => ?_)
            · exact J6 _ _ _ (by assumption) (by assumption) (by assumption)
            · refine WP.iload (n := 238) at_236 rfl rfl ?_
              refine WP.istore (n := 240) (Ls' := #[.val (.long o1), .second, .val (.long o2), .second, .val (.int te), .val (.int ty), .val (.long po), .second, .val (.int f), .val (.int tn1), .val (.int n2), .val (.int yn1), .val (.int yn1), .val (.int fJ1), .val (.int fJ2), .val (.int fJ3), .val (.int fJ4), .val (.int ((XT.ushr f (12 : Int32)) &&& (3 : Int32))), .val (.int c0), .val (.int c1), .val (.int e0), .val (.int e1), .val (.int y0), .val (.int y1), .val (.int z0), .val (.int z1), .unset, .unset, .unset, .unset, .unset, .unset, .unset, .unset, .unset, .unset, .unset, .unset, .unset]) at_238 rfl rfl ?_
              refine WP.iload (n := 242) at_240 rfl rfl ?_
              refine WP.istore (n := 244) (Ls' := #[.val (.long o1), .second, .val (.long o2), .second, .val (.int te), .val (.int ty), .val (.long po), .second, .val (.int f), .val (.int tn1), .val (.int n2), .val (.int yn1), .val (.int yn1), .val (.int fJ1), .val (.int fJ2), .val (.int fJ3), .val (.int fJ4), .val (.int ((XT.ushr f (12 : Int32)) &&& (3 : Int32))), .val (.int c0), .val (.int c1), .val (.int e0), .val (.int e1), .val (.int y0), .val (.int y1), .val (.int y0), .val (.int z1), .unset, .unset, .unset, .unset, .unset, .unset, .unset, .unset, .unset, .unset, .unset, .unset, .unset]) at_242 rfl rfl ?_
              refine WP.iload (n := 246) at_244 rfl rfl ?_
              refine WP.istore (n := 248) (Ls' := #[.val (.long o1), .second, .val (.long o2), .second, .val (.int te), .val (.int ty), .val (.long po), .second, .val (.int f), .val (.int tn1), .val (.int n2), .val (.int yn1), .val (.int yn1), .val (.int fJ1), .val (.int fJ2), .val (.int fJ3), .val (.int fJ4), .val (.int ((XT.ushr f (12 : Int32)) &&& (3 : Int32))), .val (.int c0), .val (.int c1), .val (.int e0), .val (.int e1), .val (.int y0), .val (.int y1), .val (.int y0), .val (.int y1), .unset, .unset, .unset, .unset, .unset, .unset, .unset, .unset, .unset, .unset, .unset, .unset, .unset]) at_246 rfl rfl ?_
              exact J6 _ _ _ (by assumption) (by assumption) (by assumption)
          refine WP.if_eq (n := 186) (n' := 174) at_171 (by decide) (by decide) rfl (fun b94 => ?_) (fun b94 => ?_)
          · exact J5 _ _ _ (by assumption) (by assumption) (by assumption)
          · refine WP.iload (n := 176) at_174 rfl rfl ?_
            refine WP.istore (n := 178) (Ls' := #[.val (.long o1), .second, .val (.long o2), .second, .val (.int te), .val (.int ty), .val (.long po), .second, .val (.int f), .val (.int tn1), .val (.int tn1), .val (.int yn1), .val (.int yn2), .val (.int fJ1), .val (.int fJ2), .val (.int fJ3), .val (.int fJ4), .val (.int ((XT.ushr f (12 : Int32)) &&& (3 : Int32))), .val (.int c0), .val (.int c1), .val (.int d0), .val (.int d1), .unset, .unset, .unset, .unset, .unset, .unset, .unset, .unset, .unset, .unset, .unset, .unset, .unset, .unset, .unset, .unset, .unset]) at_176 rfl rfl ?_
            refine WP.iload (n := 180) at_178 rfl rfl ?_
            refine WP.istore (n := 182) (Ls' := #[.val (.long o1), .second, .val (.long o2), .second, .val (.int te), .val (.int ty), .val (.long po), .second, .val (.int f), .val (.int tn1), .val (.int tn1), .val (.int yn1), .val (.int yn2), .val (.int fJ1), .val (.int fJ2), .val (.int fJ3), .val (.int fJ4), .val (.int ((XT.ushr f (12 : Int32)) &&& (3 : Int32))), .val (.int c0), .val (.int c1), .val (.int c0), .val (.int d1), .unset, .unset, .unset, .unset, .unset, .unset, .unset, .unset, .unset, .unset, .unset, .unset, .unset, .unset, .unset, .unset, .unset]) at_180 rfl rfl ?_
            refine WP.iload (n := 184) at_182 rfl rfl ?_
            refine WP.istore (n := 186) (Ls' := #[.val (.long o1), .second, .val (.long o2), .second, .val (.int te), .val (.int ty), .val (.long po), .second, .val (.int f), .val (.int tn1), .val (.int tn1), .val (.int yn1), .val (.int yn2), .val (.int fJ1), .val (.int fJ2), .val (.int fJ3), .val (.int fJ4), .val (.int ((XT.ushr f (12 : Int32)) &&& (3 : Int32))), .val (.int c0), .val (.int c1), .val (.int c0), .val (.int c1), .unset, .unset, .unset, .unset, .unset, .unset, .unset, .unset, .unset, .unset, .unset, .unset, .unset, .unset, .unset, .unset, .unset]) at_184 rfl rfl ?_
            exact J5 _ _ _ (by assumption) (by assumption) (by assumption)
        refine WP.if_eq (n := 112) (n' := 108) at_105 (by decide) (by decide) rfl (fun b95 => ?_) (fun b95 => ?_)
        · refine WP.iconst (n := 113) (z := (0 : Int32)) at_112 rfl rfl ?_
          exact J4 _ 
        · refine WP.iconst (n := 109) (z := (1 : Int32)) at_108 rfl rfl ?_
          refine WP.goto (n := 113) at_109 (by decide) (by decide) ?_
          exact J4 _ 
      refine WP.if_eq (n := 95) (n' := 91) at_88 (by decide) (by decide) rfl (fun b96 => ?_) (fun b96 => ?_)
      · refine WP.iconst (n := 96) (z := (0 : Int32)) at_95 rfl rfl ?_
        exact J3 _ 
      · refine WP.iconst (n := 92) (z := (1 : Int32)) at_91 rfl rfl ?_
        refine WP.goto (n := 96) at_92 (by decide) (by decide) ?_
        exact J3 _ 
    refine WP.if_eq (n := 78) (n' := 74) at_71 (by decide) (by decide) rfl (fun b97 => ?_) (fun b97 => ?_)
    · refine WP.iconst (n := 79) (z := (0 : Int32)) at_78 rfl rfl ?_
      exact J2 _ 
    · refine WP.iconst (n := 75) (z := (1 : Int32)) at_74 rfl rfl ?_
      refine WP.goto (n := 79) at_75 (by decide) (by decide) ?_
      exact J2 _ 
  refine WP.if_eq (n := 61) (n' := 57) at_54 (by decide) (by decide) rfl (fun b98 => ?_) (fun b98 => ?_)
  · refine WP.iconst (n := 62) (z := (0 : Int32)) at_61 rfl rfl ?_
    exact J1 _ 
  · refine WP.iconst (n := 58) (z := (1 : Int32)) at_57 rfl rfl ?_
    refine WP.goto (n := 62) at_58 (by decide) (by decide) ?_
    exact J1 _ 
set_option maxRecDepth 65536 in
set_option maxHeartbeats 40000000 in
theorem comes_1 {Post : Tables → Env → Array Value → State → Outcome → State → Prop} (hpost : ∀ tb e args s v u, (limb_1_1.after args s (.returned v) u = true ∧ limb_1_2.after args s (.returned v) u = true ∧ True) → FramedW s (.returned v) u (Jvm.fieldLocs frame_1_writes args s ++ Jvm.arrayLocs frame_1_arrays args s ++ Jvm.staticLocs frame_1_statics s) 48 3264 → Post tb e args s (.returned v) u) :
    ArmFor flags0 classFile x code maxLocals ret World_1 tables_1 room_1 Calls_1 rest_1 Pre_1 Post := by
  intro l hfl _ _ p e ha hc hk s m args below hf hA hF happ hP
  obtain ⟨hcalls, hrest, hpre⟩ := hP
  obtain ⟨-, -, -, hnamed, -, -, -, hat⟩ := (Spec.applies_iff hf).mp happ
  obtain ⟨hg, hn⟩ := and_e (Cond.before_iff.mp (show (Jvm.Cond.and given_1 narrow_1).before args s = true from hpre))
  obtain ⟨h1, g0'⟩ := and_e hg
  obtain ⟨w0, w1, w2, w3, w4, w5, rfl⟩ : ∃ w0 w1 w2 w3 w4 w5 : Value, args = #[w0, w1, w2, w3, w4, w5] := by
    have hs : args.size = 6 := by simpa [Cond.value, given_1] using h1
    obtain ⟨L⟩ := args
    match L, hs with
    | [w0, w1, w2, w3, w4, w5], _ => exact ⟨w0, w1, w2, w3, w4, w5, rfl⟩
  have hw := fun d (hd : d ∈ tables_1) => atoms_spec (ws := Jvm.Cond.code x code maxLocals ret :: tables_1) hat d (List.mem_cons_of_mem _ hd)
  obtain ⟨g0, g1'⟩ := and_e g0'
  obtain ⟨i0, e0⟩ := isL_v g0
  obtain rfl : w0 = (.long i0) := Option.some.inj e0
  obtain ⟨g1, g2'⟩ := and_e g1'
  obtain ⟨i1, e1⟩ := isL_v g1
  obtain rfl : w1 = (.long i1) := Option.some.inj e1
  obtain ⟨g2, g3'⟩ := and_e g2'
  obtain ⟨i2, e2⟩ := is_v g2
  obtain rfl : w2 = (.int i2) := Option.some.inj e2
  obtain ⟨g3, g4'⟩ := and_e g3'
  obtain ⟨i3, e3⟩ := is_v g3
  obtain rfl : w3 = (.int i3) := Option.some.inj e3
  obtain ⟨g4, g5'⟩ := and_e g4'
  obtain ⟨i4, e4⟩ := isL_v g4
  obtain rfl : w4 = (.long i4) := Option.some.inj e4
  have g5 := g5'
  obtain ⟨i5, e5⟩ := is_v g5
  obtain rfl : w5 = (.int i5) := Option.some.inj e5
  obtain ⟨hsets, hown0⟩ := atoms_of _ (rest_1_c_eq ▸ (show rest_1_c.before _ s = true from hrest))
  have n3 := not_v (Cond.before_iff.mp (hsets _ (List.mem_of_getElem? (i := 2) rfl)))
  obtain ⟨i7, e7⟩ := is_v (Cond.before_iff.mp (hsets _ (List.mem_of_getElem? (i := 1) rfl)))
  have S8 : Sta s s.heap "java/lang/String" "COMPACT_STRINGS" "Z" (.int i7) := Sta.start e7 (Or.inl (hsets _ (List.mem_of_getElem? (i := 0) rfl)))
  have c13 : ¬ (i7 = (0 : Int32)) := gotF (Cond.eq_ints e7 (Term.int_eval (0))) n3
  have hEL : EW s _ consts_1 := (EW.cons (text := "term") (hw _ (List.mem_of_getElem? (i := 52) rfl)) (by decide) (EW.cons (text := "type") (hw _ (List.mem_of_getElem? (i := 60) rfl)) (by decide) (EW.cons (text := "") (hw _ (List.mem_of_getElem? (i := 45) rfl)) (by decide) EW.nil)))
  have hCH : CHv s consts_1 s.vm s.heap := CHv.start hEL (fun p hp => hcalls.1 p hp) (hsets _ (List.mem_of_getElem? (i := 2) rfl)) (hw _ (List.mem_of_getElem? (i := 34) rfl)) (hw _ (List.mem_of_getElem? (i := 16) rfl))
  obtain ⟨n, o, h1, h2, h3, _, L, rfl, rfl, hE, N, hCh, hNar, hq⟩ := own_law l s _ hw consts_1 hEL s.heap i0 i1 i2 i3 i4 i5 (by decide) i7 S8 c13 tables_1 p e ha hc hk s m _ below hf ((Spec.applies_iff_loose hf).mp happ).1 ⟨rfl, State.Warmed39.refl s, rfl, ext_refl _, hCH, (fun _ q => nomatch q)⟩ trivial
  obtain ⟨q1, q2, q3, q4⟩ := hq
  refine ⟨n, _, h1, h2, h3, hpost _ _ _ _ _ _ ⟨Cond.after_iff.mpr rfl, Cond.after_iff.mpr (eq_i res_at (Term.int_eval (1)) rfl), trivial⟩ ⟨q1, q2, q3, (q4.sift fun y hy => Or.inr (N y hy)).mono (by decide) (by decide)⟩⟩
theorem main_1_1 : Claimed_1_1 := comes_1 fun _ _ _ _ _ _ h hF => ⟨h.1, hF⟩
theorem main_1_2 : Claimed_1_2 := comes_1 fun _ _ _ _ _ _ h hF => ⟨h.2.1, hF⟩
end Jvm.Pilot.@@N@@
namespace Jvm.Pilot.@@N@@
open Jvm Jvm.ClassFile Sem Op Lib Jvm.Free Jvm.Stand Jvm.Pilot.@@N@@.Jvm.D
/-! MADE BY PROGRAM (witnessworld.py) out of the Statement's table words and the real class files: 22 classes; the members and pool entries that the words name. The judged class is class 1, her method 3. -/
namespace start1
open Jvm.ClassFile
def u (s : String) : CpInfo := .utf8 (stringToUtf16 s)
/-- a pool by its gaps: so many unusable entries, then the entry; so many at the end -/
def gap : Nat → List CpInfo → List CpInfo
  | 0, r => r
  | n + 1, r => .unusable :: gap n r
def poolList (es : List (Nat × CpInfo)) (last : Nat) : List CpInfo := es.foldr (fun e r => gap e.1 (e.2 :: r)) (gap last [])
def pool (es : List (Nat × CpInfo)) (last : Nat) : Array CpInfo := ⟨poolList es last⟩
def fileOf (pool : Array CpInfo) (this : Nat) (attrs : Array Attribute := #[]) (ms : Array MethodInfo := #[]) (fl : Nat := 33) (sup : Nat := 0) (ifs : Array Nat := #[]) (fds : Array FieldInfo := #[]) : ClassFile where
  minorVersion := 0
  majorVersion := 65
  constantPool := pool
  accessFlags := fl
  thisClass := this
  superClass := sup
  interfaces := ifs
  fields := fds
  methods := ms
  attributes := attrs
def plain (name : String) (sup : Option ClassId) : Class where
  name := name
  kind := .ordinary
  loader := none
  accessFlags := 33
  super := sup
  interfaces := #[]
  cf := none
  fields := #[]
  methods := #[]
  instanceTypes := #[]
  staticTypes := #[]
  resolved := #[]
  callSites := []
  init := .initialized
  statics := none
  mirror := none

def pool0 : Array CpInfo := pool [(5, u "<init>"), (0, u "()V"), (1, .class_ 10), (1, u "java/lang/Object")] 113

def k0c0 : Code := { maxStack := 0, maxLocals := 1, code := object_method_1_code, exceptionTable := #[], attributes := #[] }
def k0m0 : Method := { name := "<init>", desc := "()V", sig := { parameters := [], returnType := none }, accessFlags := 1, code := some k0c0 }
/-- java/lang/Object -/
def k0 : Class := { plain "java/lang/Object" none with
  accessFlags := 33
  interfaces := #[]
  cf := some (fileOf pool0 8 #[] #[{ accessFlags := 1, nameIndex := 5, descriptorIndex := 6, attributes := #[] }] 33 0 #[] #[])
  fields := #[]
  methods := #[k0m0]
  instanceTypes := #[]
  staticTypes := #[]
  resolved := Array.replicate 124 none
  statics := none }

def pool1 : Array CpInfo := pool [(2, .class_ 4), (1, u "java/lang/Object"), (0, u "<init>"), (0, u "()V"), (0, .class_ 8), (0, u "java/lang/String"), (0, .methodref 7 10), (0, .nameAndType 5 11), (0, u "([C)V"), (0, .methodref 7 13), (0, .nameAndType 14 15), (0, u "valueOf"), (0, u "(C)Ljava/lang/String;"), (0, .methodref 17 18), (0, .class_ 19), (0, .nameAndType 20 21), (0, u "java/lang/Math"), (0, u "min"), (0, u "(II)I"), (0, .integer 2147483647), (0, .methodref 17 24), (0, .nameAndType 25 21), (0, u "max"), (0, .class_ 27), (0, u "com/example/esteem/esteem/core/analysis/Token"), (0, .methodref 29 30), (0, .class_ 31), (0, .nameAndType 32 33), (0, u "com/example/esteem/esteem/core/analysis/TokenEqualsPinLaw"), (0, u "str"), (0, u "(ICC)Ljava/lang/String;"), (0, .methodref 26 35), (0, .nameAndType 5 36), (0, u "(Ljava/lang/String;IILjava/lang/String;I)V"), (0, .methodref 26 38), (0, .nameAndType 39 40), (0, u "equals"), (0, u "(Ljava/lang/Object;)Z"), (0, .methodref 26 42), (0, .nameAndType 43 44), (0, u "term"), (0, u "()Ljava/lang/String;"), (0, .methodref 29 46), (0, .nameAndType 47 48), (0, u "same"), (0, u "(ICCICC)Z"), (3, u "law"), (0, u "(JJIIJI)Z")] 2

def k1m0 : Method := { name := "<init>", desc := "()V", sig := { parameters := [], returnType := none }, accessFlags := 1, code := none }
def k1c1 : Code := { maxStack := 6, maxLocals := 3, code := method_2_code, exceptionTable := #[], attributes := #[] }
def k1m1 : Method := { name := "str", desc := "(ICC)Ljava/lang/String;", sig := { parameters := [.int, .char, .char], returnType := some (.object "java/lang/String") }, accessFlags := 10, code := some k1c1 }
def k1c2 : Code := { maxStack := 2, maxLocals := 6, code := method_3_code, exceptionTable := #[], attributes := #[] }
def k1m2 : Method := { name := "same", desc := "(ICCICC)Z", sig := { parameters := [.int, .char, .char, .int, .char, .char], returnType := some .boolean }, accessFlags := 10, code := some k1c2 }
def k1c3 : Code := { maxStack := 8, maxLocals := 39, code := code, exceptionTable := #[], attributes := #[] }
def k1m3 : Method := { name := "law", desc := "(JJIIJI)Z", sig := { parameters := [.long, .long, .int, .int, .long, .int], returnType := some .boolean }, accessFlags := 9, code := some k1c3 }
/-- com/example/esteem/esteem/core/analysis/TokenEqualsPinLaw -/
def k1 : Class := { plain "com/example/esteem/esteem/core/analysis/TokenEqualsPinLaw" (some 0) with
  accessFlags := 49
  interfaces := #[]
  cf := some (fileOf pool1 29 #[] #[{ accessFlags := 1, nameIndex := 5, descriptorIndex := 6, attributes := #[] }, { accessFlags := 10, nameIndex := 32, descriptorIndex := 33, attributes := #[] }, { accessFlags := 10, nameIndex := 47, descriptorIndex := 48, attributes := #[] }, { accessFlags := 9, nameIndex := 52, descriptorIndex := 53, attributes := #[] }] 49 2 #[] #[])
  fields := #[]
  methods := #[k1m0, k1m1, k1m2, k1m3]
  instanceTypes := #[]
  staticTypes := #[]
  resolved := Array.replicate 56 none
  statics := none }

def pool2 : Array CpInfo := pool [(1, .class_ 2), (0, u "java/lang/Math"), (1, .class_ 6), (1, u "java/lang/Object"), (0, u "<init>"), (0, u "()V"), (89, .class_ 100), (1, u "java/lang/Math$RandomNumberGeneratorHolder"), (71, u "negativeZeroFloatBits"), (0, u "J"), (2, u "negativeZeroDoubleBits"), (21, u "max"), (2, u "min"), (43, u "$assertionsDisabled"), (0, u "Z"), (88, u "(II)I"), (2, u "twoToTheDoubleScaleDown"), (0, u "D"), (4, u "twoToTheDoubleScaleUp"), (9, u "E"), (3, u "PI"), (2, u "TAU"), (2, u "DEGREES_TO_RADIANS"), (0, u "RADIANS_TO_DEGREES")] 94

def k2m0 : Method := { name := "<init>", desc := "()V", sig := { parameters := [], returnType := none }, accessFlags := 2, code := none }
def k2c1 : Code := { maxStack := 2, maxLocals := 2, code := jdk_29_method_65_code, exceptionTable := #[], attributes := #[] }
def k2m1 : Method := { name := "max", desc := "(II)I", sig := { parameters := [.int, .int], returnType := some .int }, accessFlags := 9, code := some k2c1 }
def k2c2 : Code := { maxStack := 2, maxLocals := 2, code := jdk_29_method_69_code, exceptionTable := #[], attributes := #[] }
def k2m2 : Method := { name := "min", desc := "(II)I", sig := { parameters := [.int, .int], returnType := some .int }, accessFlags := 9, code := some k2c2 }
/-- java/lang/Math -/
def k2 : Class := { plain "java/lang/Math" (some 0) with
  accessFlags := 49
  interfaces := #[]
  cf := some (fileOf pool2 1 #[.nestMembers #[98]] #[{ accessFlags := 2, nameIndex := 7, descriptorIndex := 8, attributes := #[] }, { accessFlags := 9, nameIndex := 198, descriptorIndex := 335, attributes := #[] }, { accessFlags := 9, nameIndex := 201, descriptorIndex := 335, attributes := #[] }] 49 4 #[] #[{ accessFlags := 25, nameIndex := 354, descriptorIndex := 339, attributes := #[] }, { accessFlags := 25, nameIndex := 358, descriptorIndex := 339, attributes := #[] }, { accessFlags := 25, nameIndex := 361, descriptorIndex := 339, attributes := #[] }, { accessFlags := 26, nameIndex := 364, descriptorIndex := 339, attributes := #[] }, { accessFlags := 26, nameIndex := 365, descriptorIndex := 339, attributes := #[] }, { accessFlags := 26, nameIndex := 172, descriptorIndex := 173, attributes := #[] }, { accessFlags := 26, nameIndex := 176, descriptorIndex := 173, attributes := #[] }, { accessFlags := 8, nameIndex := 344, descriptorIndex := 339, attributes := #[] }, { accessFlags := 8, nameIndex := 338, descriptorIndex := 339, attributes := #[] }, { accessFlags := 4120, nameIndex := 245, descriptorIndex := 246, attributes := #[] }])
  fields := #[{ name := "E", type := .double, accessFlags := 25, slot := 0, constantValue := 0 }, { name := "PI", type := .double, accessFlags := 25, slot := 1, constantValue := 0 }, { name := "TAU", type := .double, accessFlags := 25, slot := 2, constantValue := 0 }, { name := "DEGREES_TO_RADIANS", type := .double, accessFlags := 26, slot := 3, constantValue := 0 }, { name := "RADIANS_TO_DEGREES", type := .double, accessFlags := 26, slot := 4, constantValue := 0 }, { name := "negativeZeroFloatBits", type := .long, accessFlags := 26, slot := 5, constantValue := 0 }, { name := "negativeZeroDoubleBits", type := .long, accessFlags := 26, slot := 6, constantValue := 0 }, { name := "twoToTheDoubleScaleUp", type := .double, accessFlags := 8, slot := 7, constantValue := 0 }, { name := "twoToTheDoubleScaleDown", type := .double, accessFlags := 8, slot := 8, constantValue := 0 }, { name := "$assertionsDisabled", type := .boolean, accessFlags := 4120, slot := 9, constantValue := 0 }]
  methods := #[k2m0, k2m1, k2m2]
  instanceTypes := #[]
  staticTypes := #[.double, .double, .double, .double, .double, .long, .long, .double, .double, .boolean]
  resolved := Array.replicate 460 none
  statics := none }

def pool3 : Array CpInfo := pool [(1, .methodref 2 3), (0, .class_ 4), (0, .nameAndType 5 6), (0, u "java/lang/Object"), (0, u "<init>"), (0, u "()V"), (0, .string 8), (0, u "term"), (0, .methodref 10 11), (0, .class_ 12), (0, .nameAndType 13 14), (0, u "java/util/Objects"), (0, u "requireNonNull"), (0, u "(Ljava/lang/Object;Ljava/lang/String;)Ljava/lang/Object;"), (0, .class_ 16), (0, u "java/lang/String"), (0, .fieldref 18 19), (0, .class_ 20), (0, .nameAndType 8 21), (0, u "com/example/esteem/esteem/core/analysis/Token"), (0, u "Ljava/lang/String;"), (0, .string 23), (0, u "type"), (0, .fieldref 18 25), (0, .nameAndType 23 21), (9, .fieldref 18 36), (0, .nameAndType 37 38), (0, u "startOffset"), (0, u "I"), (0, .fieldref 18 40), (0, .nameAndType 41 38), (0, u "endOffset"), (0, .fieldref 18 43), (0, .nameAndType 44 38), (0, u "position"), (2, u "(Ljava/lang/String;IILjava/lang/String;I)V"), (0, .methodref 15 49), (0, .nameAndType 50 51), (0, u "equals"), (0, u "(Ljava/lang/Object;)Z"), (16, u "()Ljava/lang/String;")] 26

def k3c0 : Code := { maxStack := 5, maxLocals := 6, code := prog_9_method_1_code, exceptionTable := #[], attributes := #[] }
def k3m0 : Method := { name := "<init>", desc := "(Ljava/lang/String;IILjava/lang/String;I)V", sig := { parameters := [(.object "java/lang/String"), .int, .int, (.object "java/lang/String"), .int], returnType := none }, accessFlags := 1, code := some k3c0 }
def k3c1 : Code := { maxStack := 1, maxLocals := 1, code := prog_9_method_2_code, exceptionTable := #[], attributes := #[] }
def k3m1 : Method := { name := "term", desc := "()Ljava/lang/String;", sig := { parameters := [], returnType := some (.object "java/lang/String") }, accessFlags := 1, code := some k3c1 }
def k3c2 : Code := { maxStack := 2, maxLocals := 3, code := prog_9_method_9_code, exceptionTable := #[], attributes := #[] }
def k3m2 : Method := { name := "equals", desc := "(Ljava/lang/Object;)Z", sig := { parameters := [(.object "java/lang/Object")], returnType := some .boolean }, accessFlags := 1, code := some k3c2 }
/-- com/example/esteem/esteem/core/analysis/Token -/
def k3 : Class := { plain "com/example/esteem/esteem/core/analysis/Token" (some 0) with
  accessFlags := 49
  interfaces := #[]
  cf := some (fileOf pool3 18 #[] #[{ accessFlags := 1, nameIndex := 5, descriptorIndex := 47, attributes := #[] }, { accessFlags := 1, nameIndex := 8, descriptorIndex := 68, attributes := #[] }, { accessFlags := 1, nameIndex := 50, descriptorIndex := 51, attributes := #[] }] 49 2 #[] #[{ accessFlags := 18, nameIndex := 8, descriptorIndex := 21, attributes := #[] }, { accessFlags := 18, nameIndex := 37, descriptorIndex := 38, attributes := #[] }, { accessFlags := 18, nameIndex := 41, descriptorIndex := 38, attributes := #[] }, { accessFlags := 18, nameIndex := 23, descriptorIndex := 21, attributes := #[] }, { accessFlags := 18, nameIndex := 44, descriptorIndex := 38, attributes := #[] }])
  fields := #[{ name := "term", type := (.object "java/lang/String"), accessFlags := 18, slot := 0, constantValue := 0 }, { name := "startOffset", type := .int, accessFlags := 18, slot := 1, constantValue := 0 }, { name := "endOffset", type := .int, accessFlags := 18, slot := 2, constantValue := 0 }, { name := "type", type := (.object "java/lang/String"), accessFlags := 18, slot := 3, constantValue := 0 }, { name := "position", type := .int, accessFlags := 18, slot := 4, constantValue := 0 }]
  methods := #[k3m0, k3m1, k3m2]
  instanceTypes := #[(.object "java/lang/String"), .int, .int, (.object "java/lang/String"), .int]
  staticTypes := #[]
  resolved := Array.replicate 95 none
  statics := none }

def pool4 : Array CpInfo := pool [(1, .class_ 2), (0, u "java/io/Serializable"), (0, .class_ 4), (0, u "java/lang/Object")] 2

/-- java/io/Serializable -/
def k4 : Class := { plain "java/io/Serializable" (some 0) with
  accessFlags := 1537
  interfaces := #[]
  cf := some (fileOf pool4 1 #[] #[] 1537 3 #[] #[])
  fields := #[]
  methods := #[]
  instanceTypes := #[]
  staticTypes := #[]
  resolved := Array.replicate 7 none
  statics := none }

def pool5 : Array CpInfo := pool [(1, .class_ 2), (0, u "java/lang/Comparable"), (0, .class_ 4), (0, u "java/lang/Object")] 7

/-- java/lang/Comparable -/
def k5 : Class := { plain "java/lang/Comparable" (some 0) with
  accessFlags := 1537
  interfaces := #[]
  cf := some (fileOf pool5 1 #[] #[] 1537 3 #[] #[])
  fields := #[]
  methods := #[]
  instanceTypes := #[]
  staticTypes := #[]
  resolved := Array.replicate 12 none
  statics := none }

def pool6 : Array CpInfo := pool [(2, .class_ 4), (1, u "java/lang/CharSequence"), (42, .class_ 48), (0, u "java/lang/CharSequence$1CodePointIterator"), (10, .class_ 60), (0, u "java/lang/CharSequence$1CharIterator"), (5, .class_ 67), (0, u "java/lang/Object")] 63

/-- java/lang/CharSequence -/
def k6 : Class := { plain "java/lang/CharSequence" (some 0) with
  accessFlags := 1537
  interfaces := #[]
  cf := some (fileOf pool6 2 #[.nestMembers #[47, 59]] #[] 1537 66 #[] #[])
  fields := #[]
  methods := #[]
  instanceTypes := #[]
  staticTypes := #[]
  resolved := Array.replicate 131 none
  statics := none }

def pool7 : Array CpInfo := pool [(1, .class_ 2), (0, u "java/lang/constant/Constable"), (0, .class_ 4), (0, u "java/lang/Object")] 6

/-- java/lang/constant/Constable -/
def k7 : Class := { plain "java/lang/constant/Constable" (some 0) with
  accessFlags := 1537
  interfaces := #[]
  cf := some (fileOf pool7 1 #[] #[] 1537 3 #[] #[])
  fields := #[]
  methods := #[]
  instanceTypes := #[]
  staticTypes := #[]
  resolved := Array.replicate 11 none
  statics := none }

def pool8 : Array CpInfo := pool [(1, .class_ 2), (0, u "java/lang/constant/ConstantDesc"), (0, .class_ 4), (0, u "java/lang/Object")] 32

/-- java/lang/constant/ConstantDesc -/
def k8 : Class := { plain "java/lang/constant/ConstantDesc" (some 0) with
  accessFlags := 1537
  interfaces := #[]
  cf := some (fileOf pool8 1 #[] #[] 1537 3 #[] #[])
  fields := #[]
  methods := #[]
  instanceTypes := #[]
  staticTypes := #[]
  resolved := Array.replicate 37 none
  statics := none }

def pool9 : Array CpInfo := pool [(1, .methodref 2 3), (0, .class_ 4), (0, .nameAndType 5 6), (0, u "java/lang/Object"), (0, u "<init>"), (0, u "()V"), (0, .string 8), (0, u ""), (0, .fieldref 10 11), (0, .class_ 12), (0, .nameAndType 13 14), (0, u "java/lang/String"), (0, u "value"), (0, u "[B"), (0, .fieldref 10 16), (0, .nameAndType 17 18), (0, u "coder"), (0, u "B"), (2, u "hash"), (0, u "I"), (2, u "hashIsZero"), (0, u "Z"), (0, .methodref 10 28), (0, .nameAndType 5 29), (0, u "([CIILjava/lang/Void;)V"), (8, .fieldref 10 39), (0, .nameAndType 40 26), (0, u "COMPACT_STRINGS"), (1, .class_ 44), (1, u "java/lang/StringUTF16"), (0, u "compress"), (1, .methodref 42 48), (0, .nameAndType 49 50), (0, u "coderFromArrayLen"), (0, u "([BI)B"), (2, u "toBytes"), (53, .class_ 109), (1, u "java/lang/StringLatin1"), (67, .methodref 42 178), (0, .nameAndType 45 179), (0, u "([CII)[B"), (29, .methodref 10 210), (0, .nameAndType 5 211), (0, u "([BB)V"), (157, u "(C)Z"), (171, .methodref 107 542), (0, .nameAndType 543 544), (0, u "equals"), (0, u "([B[B)Z"), (28, u "(Ljava/lang/Object;)Z"), (1, .class_ 576), (0, u "java/lang/CharSequence"), (22, u "CASE_INSENSITIVE_ORDER"), (0, u "Ljava/util/Comparator;"), (181, u "valueOf"), (0, u "(C)Ljava/lang/String;"), (226, u "([C)V"), (4, .methodref 107 1016), (0, .nameAndType 1017 369), (0, u "canEncode"), (0, .methodref 107 1019), (0, .nameAndType 53 1020), (0, u "(C)[B"), (80, u "serialPersistentFields"), (0, u "[Ljava/io/ObjectStreamField;"), (0, .class_ 1104), (0, u "java/lang/String$CaseInsensitiveComparator"), (1, .class_ 1107), (0, u "java/io/Serializable"), (0, .class_ 1109), (0, u "java/lang/Comparable"), (0, .class_ 1111), (0, u "java/lang/constant/Constable"), (0, .class_ 1113), (0, u "java/lang/constant/ConstantDesc"), (2, u "serialVersionUID"), (0, u "J"), (3, u "REPL"), (0, u "C"), (2, u "LATIN1"), (1, u "UTF16")] 323

def k9m0 : Method := { name := "<init>", desc := "()V", sig := { parameters := [], returnType := none }, accessFlags := 1, code := none }
def k9c1 : Code := { maxStack := 5, maxLocals := 2, code := jdk_42_method_3_code, exceptionTable := #[], attributes := #[] }
def k9m1 : Method := { name := "<init>", desc := "([C)V", sig := { parameters := [(.array .char)], returnType := none }, accessFlags := 1, code := some k9c1 }
def k9c2 : Code := { maxStack := 2, maxLocals := 3, code := jdk_42_method_66_code, exceptionTable := #[], attributes := #[] }
def k9m2 : Method := { name := "equals", desc := "(Ljava/lang/Object;)Z", sig := { parameters := [(.object "java/lang/Object")], returnType := some .boolean }, accessFlags := 1, code := some k9c2 }
def k9c3 : Code := { maxStack := 4, maxLocals := 1, code := jdk_42_method_139_code, exceptionTable := #[], attributes := #[] }
def k9m3 : Method := { name := "valueOf", desc := "(C)Ljava/lang/String;", sig := { parameters := [.char], returnType := some (.object "java/lang/String") }, accessFlags := 9, code := some k9c3 }
def k9c4 : Code := { maxStack := 4, maxLocals := 6, code := jdk_42_method_149_code, exceptionTable := #[], attributes := #[] }
def k9m4 : Method := { name := "<init>", desc := "([CIILjava/lang/Void;)V", sig := { parameters := [(.array .char), .int, .int, (.object "java/lang/Void")], returnType := none }, accessFlags := 2, code := some k9c4 }
def k9c5 : Code := { maxStack := 2, maxLocals := 3, code := jdk_42_method_151_code, exceptionTable := #[], attributes := #[] }
def k9m5 : Method := { name := "<init>", desc := "([BB)V", sig := { parameters := [(.array .byte), .byte], returnType := none }, accessFlags := 0, code := some k9c5 }
/-- java/lang/String -/
def k9 : Class := { plain "java/lang/String" (some 0) with
  accessFlags := 49
  interfaces := #[4, 5, 6, 7, 8]
  cf := some (fileOf pool9 10 #[.nestMembers #[1103]] #[{ accessFlags := 1, nameIndex := 5, descriptorIndex := 6, attributes := #[] }, { accessFlags := 1, nameIndex := 5, descriptorIndex := 1010, attributes := #[] }, { accessFlags := 1, nameIndex := 543, descriptorIndex := 573, attributes := #[] }, { accessFlags := 9, nameIndex := 782, descriptorIndex := 783, attributes := #[] }, { accessFlags := 2, nameIndex := 5, descriptorIndex := 29, attributes := #[] }, { accessFlags := 0, nameIndex := 5, descriptorIndex := 211, attributes := #[] }] 49 2 #[1106, 1108, 575, 1110, 1112] #[{ accessFlags := 18, nameIndex := 13, descriptorIndex := 14, attributes := #[] }, { accessFlags := 18, nameIndex := 17, descriptorIndex := 18, attributes := #[] }, { accessFlags := 2, nameIndex := 21, descriptorIndex := 22, attributes := #[] }, { accessFlags := 2, nameIndex := 25, descriptorIndex := 26, attributes := #[] }, { accessFlags := 26, nameIndex := 1116, descriptorIndex := 1117, attributes := #[] }, { accessFlags := 24, nameIndex := 40, descriptorIndex := 26, attributes := #[] }, { accessFlags := 26, nameIndex := 1101, descriptorIndex := 1102, attributes := #[] }, { accessFlags := 26, nameIndex := 1121, descriptorIndex := 1122, attributes := #[] }, { accessFlags := 25, nameIndex := 599, descriptorIndex := 600, attributes := #[] }, { accessFlags := 24, nameIndex := 1125, descriptorIndex := 18, attributes := #[] }, { accessFlags := 24, nameIndex := 1127, descriptorIndex := 18, attributes := #[] }])
  fields := #[{ name := "value", type := (.array .byte), accessFlags := 18, slot := 0, constantValue := 0 }, { name := "coder", type := .byte, accessFlags := 18, slot := 1, constantValue := 0 }, { name := "hash", type := .int, accessFlags := 2, slot := 2, constantValue := 0 }, { name := "hashIsZero", type := .boolean, accessFlags := 2, slot := 3, constantValue := 0 }, { name := "serialVersionUID", type := .long, accessFlags := 26, slot := 0, constantValue := 0 }, { name := "COMPACT_STRINGS", type := .boolean, accessFlags := 24, slot := 1, constantValue := 0 }, { name := "serialPersistentFields", type := (.array (.object "java/io/ObjectStreamField")), accessFlags := 26, slot := 2, constantValue := 0 }, { name := "REPL", type := .char, accessFlags := 26, slot := 3, constantValue := 0 }, { name := "CASE_INSENSITIVE_ORDER", type := (.object "java/util/Comparator"), accessFlags := 25, slot := 4, constantValue := 0 }, { name := "LATIN1", type := .byte, accessFlags := 24, slot := 5, constantValue := 0 }, { name := "UTF16", type := .byte, accessFlags := 24, slot := 6, constantValue := 0 }]
  methods := #[k9m0, k9m1, k9m2, k9m3, k9m4, k9m5]
  instanceTypes := #[(.array .byte), .byte, .int, .boolean]
  staticTypes := #[.long, .boolean, (.array (.object "java/io/ObjectStreamField")), .char, (.object "java/util/Comparator"), .byte, .byte]
  resolved := Array.replicate 1451 none
  statics := some 0 }

def pool10 : Array CpInfo := pool [(6, .class_ 8), (1, u "java/lang/Object"), (0, u "<init>"), (0, u "()V"), (1, .class_ 14), (1, u "java/lang/StringUTF16"), (31, u "$assertionsDisabled"), (0, u "Z"), (13, u "HI_BYTE_SHIFT"), (0, u "I"), (2, u "LO_BYTE_SHIFT"), (49, .methodref 12 116), (0, .nameAndType 117 118), (0, u "compress"), (0, u "([CI[BII)I"), (3, u "([CII)[B"), (138, u "coderFromArrayLen"), (0, u "([BI)B"), (106, .class_ 371), (1, u "java/lang/StringUTF16$LinesSpliterator"), (58, u "MAX_LENGTH"), (196, .class_ 628), (0, u "java/lang/StringUTF16$CodePointsSpliterator"), (0, .class_ 630), (0, u "java/lang/StringUTF16$CharsSpliterator")] 4

def k10m0 : Method := { name := "<init>", desc := "()V", sig := { parameters := [], returnType := none }, accessFlags := 0, code := none }
def k10c1 : Code := { maxStack := 2, maxLocals := 2, code := jdk_52_method_15_code, exceptionTable := #[], attributes := #[] }
def k10m1 : Method := { name := "coderFromArrayLen", desc := "([BI)B", sig := { parameters := [(.array .byte), .int], returnType := some .byte }, accessFlags := 8, code := some k10c1 }
def k10c2 : Code := { maxStack := 5, maxLocals := 6, code := jdk_52_method_16_code, exceptionTable := #[], attributes := #[] }
def k10m2 : Method := { name := "compress", desc := "([CII)[B", sig := { parameters := [(.array .char), .int, .int], returnType := some (.array .byte) }, accessFlags := 9, code := some k10c2 }
def k10c3 : Code := { maxStack := 3, maxLocals := 7, code := jdk_52_method_21_code, exceptionTable := #[], attributes := #[] }
def k10m3 : Method := { name := "compress", desc := "([CI[BII)I", sig := { parameters := [(.array .char), .int, (.array .byte), .int, .int], returnType := some .int }, accessFlags := 9, code := some k10c3 }
/-- java/lang/StringUTF16 -/
def k10 : Class := { plain "java/lang/StringUTF16" (some 0) with
  accessFlags := 48
  interfaces := #[]
  cf := some (fileOf pool10 12 #[.nestMembers #[627, 629, 369]] #[{ accessFlags := 0, nameIndex := 9, descriptorIndex := 10, attributes := #[] }, { accessFlags := 8, nameIndex := 261, descriptorIndex := 262, attributes := #[] }, { accessFlags := 9, nameIndex := 117, descriptorIndex := 122, attributes := #[] }, { accessFlags := 9, nameIndex := 117, descriptorIndex := 118, attributes := #[] }] 48 6 #[] #[{ accessFlags := 26, nameIndex := 61, descriptorIndex := 62, attributes := #[] }, { accessFlags := 26, nameIndex := 65, descriptorIndex := 62, attributes := #[] }, { accessFlags := 24, nameIndex := 430, descriptorIndex := 62, attributes := #[] }, { accessFlags := 4120, nameIndex := 46, descriptorIndex := 47, attributes := #[] }])
  fields := #[{ name := "HI_BYTE_SHIFT", type := .int, accessFlags := 26, slot := 0, constantValue := 0 }, { name := "LO_BYTE_SHIFT", type := .int, accessFlags := 26, slot := 1, constantValue := 0 }, { name := "MAX_LENGTH", type := .int, accessFlags := 24, slot := 2, constantValue := 0 }, { name := "$assertionsDisabled", type := .boolean, accessFlags := 4120, slot := 3, constantValue := 0 }]
  methods := #[k10m0, k10m1, k10m2, k10m3]
  instanceTypes := #[]
  staticTypes := #[.int, .int, .int, .boolean]
  resolved := Array.replicate 635 none
  statics := none }

def pool11 : Array CpInfo := pool [(2, .class_ 4), (1, u "java/lang/Object"), (0, u "<init>"), (0, u "()V"), (35, .class_ 44), (1, u "java/util/Objects"), (0, u "requireNonNull"), (48, u "(Ljava/lang/Object;Ljava/lang/String;)Ljava/lang/Object;")] 89

def k11m0 : Method := { name := "<init>", desc := "()V", sig := { parameters := [], returnType := none }, accessFlags := 2, code := none }
def k11c1 : Code := { maxStack := 3, maxLocals := 2, code := jdk_31_method_11_code, exceptionTable := #[], attributes := #[] }
def k11m1 : Method := { name := "requireNonNull", desc := "(Ljava/lang/Object;Ljava/lang/String;)Ljava/lang/Object;", sig := { parameters := [(.object "java/lang/Object"), (.object "java/lang/String")], returnType := some (.object "java/lang/Object") }, accessFlags := 9, code := some k11c1 }
/-- java/util/Objects -/
def k11 : Class := { plain "java/util/Objects" (some 0) with
  accessFlags := 49
  interfaces := #[]
  cf := some (fileOf pool11 42 #[] #[{ accessFlags := 2, nameIndex := 5, descriptorIndex := 6, attributes := #[] }, { accessFlags := 9, nameIndex := 45, descriptorIndex := 94, attributes := #[] }] 49 2 #[] #[])
  fields := #[]
  methods := #[k11m0, k11m1]
  instanceTypes := #[]
  staticTypes := #[]
  resolved := Array.replicate 184 none
  statics := none }

def pool12 : Array CpInfo := pool [(4, .class_ 6), (1, u "java/lang/Object"), (0, u "<init>"), (0, u "()V"), (5, .class_ 16), (1, u "java/lang/StringLatin1"), (73, u "canEncode"), (14, u "(C)Z"), (15, u "$assertionsDisabled"), (0, u "Z"), (98, .class_ 223), (1, u "java/lang/StringLatin1$LinesSpliterator"), (57, u "equals"), (0, u "([B[B)Z"), (97, u "toBytes"), (1, u "(C)[B"), (7, .class_ 391), (0, u "java/lang/StringLatin1$CharsSpliterator")] 3

def k12m0 : Method := { name := "<init>", desc := "()V", sig := { parameters := [], returnType := none }, accessFlags := 0, code := none }
def k12c1 : Code := { maxStack := 2, maxLocals := 1, code := jdk_43_method_3_code, exceptionTable := #[], attributes := #[] }
def k12m1 : Method := { name := "canEncode", desc := "(C)Z", sig := { parameters := [.char], returnType := some .boolean }, accessFlags := 9, code := some k12c1 }
def k12c2 : Code := { maxStack := 3, maxLocals := 3, code := jdk_43_method_13_code, exceptionTable := #[], attributes := #[] }
def k12m2 : Method := { name := "equals", desc := "([B[B)Z", sig := { parameters := [(.array .byte), (.array .byte)], returnType := some .boolean }, accessFlags := 9, code := some k12c2 }
def k12c3 : Code := { maxStack := 4, maxLocals := 1, code := jdk_43_method_46_code, exceptionTable := #[], attributes := #[] }
def k12m3 : Method := { name := "toBytes", desc := "(C)[B", sig := { parameters := [.char], returnType := some (.array .byte) }, accessFlags := 9, code := some k12c3 }
/-- java/lang/StringLatin1 -/
def k12 : Class := { plain "java/lang/StringLatin1" (some 0) with
  accessFlags := 48
  interfaces := #[]
  cf := some (fileOf pool12 14 #[.nestMembers #[390, 221]] #[{ accessFlags := 0, nameIndex := 7, descriptorIndex := 8, attributes := #[] }, { accessFlags := 9, nameIndex := 90, descriptorIndex := 105, attributes := #[] }, { accessFlags := 9, nameIndex := 281, descriptorIndex := 282, attributes := #[] }, { accessFlags := 9, nameIndex := 380, descriptorIndex := 382, attributes := #[] }] 48 4 #[] #[{ accessFlags := 4120, nameIndex := 121, descriptorIndex := 122, attributes := #[] }])
  fields := #[{ name := "$assertionsDisabled", type := .boolean, accessFlags := 4120, slot := 0, constantValue := 0 }]
  methods := #[k12m0, k12m1, k12m2, k12m3]
  instanceTypes := #[]
  staticTypes := #[.boolean]
  resolved := Array.replicate 395 none
  statics := none }

def pool13 : Array CpInfo := pool [(2, .class_ 4), (1, u "java/lang/Object"), (0, u "<init>"), (0, u "()V"), (17, .class_ 26), (1, u "jdk/internal/util/Preconditions"), (28, .class_ 56), (0, u "jdk/internal/util/Preconditions$4"), (57, .class_ 115), (0, u "jdk/internal/util/Preconditions$1"), (7, u "SIOOBE_FORMATTER"), (0, u "Ljava/util/function/BiFunction;"), (0, .class_ 126), (0, u "jdk/internal/util/Preconditions$2"), (3, u "AIOOBE_FORMATTER"), (0, .class_ 132), (0, u "jdk/internal/util/Preconditions$3"), (3, u "IOOBE_FORMATTER")] 57

def k13m0 : Method := { name := "<init>", desc := "()V", sig := { parameters := [], returnType := none }, accessFlags := 1, code := none }
/-- jdk/internal/util/Preconditions -/
def k13 : Class := { plain "jdk/internal/util/Preconditions" (some 0) with
  accessFlags := 33
  interfaces := #[]
  cf := some (fileOf pool13 24 #[.nestMembers #[55, 131, 125, 114]] #[{ accessFlags := 1, nameIndex := 5, descriptorIndex := 6, attributes := #[] }] 33 2 #[] #[{ accessFlags := 25, nameIndex := 123, descriptorIndex := 124, attributes := #[] }, { accessFlags := 25, nameIndex := 130, descriptorIndex := 124, attributes := #[] }, { accessFlags := 25, nameIndex := 136, descriptorIndex := 124, attributes := #[] }])
  fields := #[{ name := "SIOOBE_FORMATTER", type := (.object "java/util/function/BiFunction"), accessFlags := 25, slot := 0, constantValue := 0 }, { name := "AIOOBE_FORMATTER", type := (.object "java/util/function/BiFunction"), accessFlags := 25, slot := 1, constantValue := 0 }, { name := "IOOBE_FORMATTER", type := (.object "java/util/function/BiFunction"), accessFlags := 25, slot := 2, constantValue := 0 }]
  methods := #[k13m0]
  instanceTypes := #[]
  staticTypes := #[(.object "java/util/function/BiFunction"), (.object "java/util/function/BiFunction"), (.object "java/util/function/BiFunction")]
  resolved := Array.replicate 194 none
  statics := some 1 }

def pool14 : Array CpInfo := pool [(9, u "<init>"), (6, .class_ 18), (1, u "java/lang/Object"), (0, u "()V"), (1, .class_ 23), (1, u "jdk/internal/util/ArraysSupport"), (0, u "LOG2_ARRAY_LONG_INDEX_SCALE"), (0, u "I"), (2, u "U"), (0, u "Ljdk/internal/misc/Unsafe;"), (8, u "BIG_ENDIAN"), (0, u "Z"), (8, u "LOG2_BYTE_BIT_SIZE"), (4, u "LOG2_ARRAY_INT_INDEX_SCALE"), (54, u "JLA"), (0, u "Ljdk/internal/access/JavaLangAccess;"), (11, u "LOG2_ARRAY_BOOLEAN_INDEX_SCALE"), (9, u "LOG2_ARRAY_BYTE_INDEX_SCALE"), (5, u "LOG2_ARRAY_CHAR_INDEX_SCALE"), (5, u "LOG2_ARRAY_SHORT_INDEX_SCALE"), (18, u "LOG2_ARRAY_FLOAT_INDEX_SCALE"), (24, u "LOG2_ARRAY_DOUBLE_INDEX_SCALE"), (89, u "T_BOOLEAN"), (2, u "T_CHAR"), (1, u "T_FLOAT"), (1, u "T_DOUBLE"), (1, u "T_BYTE"), (1, u "T_SHORT"), (1, u "T_INT"), (1, u "T_LONG"), (1, u "SOFT_MAX_ARRAY_LENGTH")] 83

def k14m0 : Method := { name := "<init>", desc := "()V", sig := { parameters := [], returnType := none }, accessFlags := 2, code := none }
/-- jdk/internal/util/ArraysSupport -/
def k14 : Class := { plain "jdk/internal/util/ArraysSupport" (some 0) with
  accessFlags := 33
  interfaces := #[]
  cf := some (fileOf pool14 21 #[] #[{ accessFlags := 2, nameIndex := 9, descriptorIndex := 19, attributes := #[] }] 33 16 #[] #[{ accessFlags := 24, nameIndex := 28, descriptorIndex := 29, attributes := #[] }, { accessFlags := 26, nameIndex := 38, descriptorIndex := 39, attributes := #[] }, { accessFlags := 25, nameIndex := 121, descriptorIndex := 25, attributes := #[] }, { accessFlags := 25, nameIndex := 131, descriptorIndex := 25, attributes := #[] }, { accessFlags := 25, nameIndex := 137, descriptorIndex := 25, attributes := #[] }, { accessFlags := 25, nameIndex := 143, descriptorIndex := 25, attributes := #[] }, { accessFlags := 25, nameIndex := 53, descriptorIndex := 25, attributes := #[] }, { accessFlags := 25, nameIndex := 24, descriptorIndex := 25, attributes := #[] }, { accessFlags := 25, nameIndex := 162, descriptorIndex := 25, attributes := #[] }, { accessFlags := 25, nameIndex := 187, descriptorIndex := 25, attributes := #[] }, { accessFlags := 26, nameIndex := 48, descriptorIndex := 25, attributes := #[] }, { accessFlags := 25, nameIndex := 277, descriptorIndex := 25, attributes := #[] }, { accessFlags := 25, nameIndex := 280, descriptorIndex := 25, attributes := #[] }, { accessFlags := 25, nameIndex := 282, descriptorIndex := 25, attributes := #[] }, { accessFlags := 25, nameIndex := 284, descriptorIndex := 25, attributes := #[] }, { accessFlags := 25, nameIndex := 286, descriptorIndex := 25, attributes := #[] }, { accessFlags := 25, nameIndex := 288, descriptorIndex := 25, attributes := #[] }, { accessFlags := 25, nameIndex := 290, descriptorIndex := 25, attributes := #[] }, { accessFlags := 25, nameIndex := 292, descriptorIndex := 25, attributes := #[] }, { accessFlags := 26, nameIndex := 108, descriptorIndex := 109, attributes := #[] }, { accessFlags := 25, nameIndex := 294, descriptorIndex := 25, attributes := #[] }])
  fields := #[{ name := "U", type := (.object "jdk/internal/misc/Unsafe"), accessFlags := 24, slot := 0, constantValue := 0 }, { name := "BIG_ENDIAN", type := .boolean, accessFlags := 26, slot := 1, constantValue := 0 }, { name := "LOG2_ARRAY_BOOLEAN_INDEX_SCALE", type := .int, accessFlags := 25, slot := 2, constantValue := 0 }, { name := "LOG2_ARRAY_BYTE_INDEX_SCALE", type := .int, accessFlags := 25, slot := 3, constantValue := 0 }, { name := "LOG2_ARRAY_CHAR_INDEX_SCALE", type := .int, accessFlags := 25, slot := 4, constantValue := 0 }, { name := "LOG2_ARRAY_SHORT_INDEX_SCALE", type := .int, accessFlags := 25, slot := 5, constantValue := 0 }, { name := "LOG2_ARRAY_INT_INDEX_SCALE", type := .int, accessFlags := 25, slot := 6, constantValue := 0 }, { name := "LOG2_ARRAY_LONG_INDEX_SCALE", type := .int, accessFlags := 25, slot := 7, constantValue := 0 }, { name := "LOG2_ARRAY_FLOAT_INDEX_SCALE", type := .int, accessFlags := 25, slot := 8, constantValue := 0 }, { name := "LOG2_ARRAY_DOUBLE_INDEX_SCALE", type := .int, accessFlags := 25, slot := 9, constantValue := 0 }, { name := "LOG2_BYTE_BIT_SIZE", type := .int, accessFlags := 26, slot := 10, constantValue := 0 }, { name := "T_BOOLEAN", type := .int, accessFlags := 25, slot := 11, constantValue := 0 }, { name := "T_CHAR", type := .int, accessFlags := 25, slot := 12, constantValue := 0 }, { name := "T_FLOAT", type := .int, accessFlags := 25, slot := 13, constantValue := 0 }, { name := "T_DOUBLE", type := .int, accessFlags := 25, slot := 14, constantValue := 0 }, { name := "T_BYTE", type := .int, accessFlags := 25, slot := 15, constantValue := 0 }, { name := "T_SHORT", type := .int, accessFlags := 25, slot := 16, constantValue := 0 }, { name := "T_INT", type := .int, accessFlags := 25, slot := 17, constantValue := 0 }, { name := "T_LONG", type := .int, accessFlags := 25, slot := 18, constantValue := 0 }, { name := "JLA", type := (.object "jdk/internal/access/JavaLangAccess"), accessFlags := 26, slot := 19, constantValue := 0 }, { name := "SOFT_MAX_ARRAY_LENGTH", type := .int, accessFlags := 25, slot := 20, constantValue := 0 }]
  methods := #[k14m0]
  instanceTypes := #[]
  staticTypes := #[(.object "jdk/internal/misc/Unsafe"), .boolean, .int, .int, .int, .int, .int, .int, .int, .int, .int, .int, .int, .int, .int, .int, .int, .int, .int, (.object "jdk/internal/access/JavaLangAccess"), .int]
  resolved := Array.replicate 378 none
  statics := none }

def pool15 : Array CpInfo := pool [(1, u "java/lang/Cloneable"), (0, .class_ 1), (0, u "java/lang/Object"), (0, .class_ 3)] 3

/-- java/lang/Cloneable -/
def k15 : Class := { plain "java/lang/Cloneable" (some 0) with
  accessFlags := 1537
  interfaces := #[]
  cf := some (fileOf pool15 2 #[] #[] 1537 4 #[] #[])
  fields := #[]
  methods := #[]
  instanceTypes := #[]
  staticTypes := #[]
  resolved := Array.replicate 8 none
  statics := none }

/-- the primitive byte -/
def k16 : Class := { plain "byte" none with kind := .primitive 'B', accessFlags := 0x411 }
/-- [B -/
def k17 : Class := { plain "[B" (some 0) with kind := .array 16 .byte, interfaces := #[15, 4], accessFlags := 1041 }

/-- the primitive char -/
def k18 : Class := { plain "char" none with kind := .primitive 'C', accessFlags := 0x411 }
/-- [C -/
def k19 : Class := { plain "[C" (some 0) with kind := .array 18 .char, interfaces := #[15, 4], accessFlags := 1041 }

/-- the primitive int -/
def k20 : Class := { plain "int" none with kind := .primitive 'I', accessFlags := 0x411 }
/-- [I -/
def k21 : Class := { plain "[I" (some 0) with kind := .array 20 .int, interfaces := #[15, 4], accessFlags := 1041 }

def heap : Heap := #[{ cls := 9, slots := #[.long 0, .int 1, .null, .int 0, .null, .int 0, .int 0], vm := .statics 9 },
  { cls := 13, slots := #[.null, .null, .null], vm := .statics 13 }]
def classes : Array Class := #[k0, k1, k2, k3, k4, k5, k6, k7, k8, k9, k10, k11, k12, k13, k14, k15, k16, k17, k18, k19, k20, k21]
def interned : List (Array UInt16 × Addr) := []
def slotsUsed : Nat := 10
def theMethod : MethodId := ⟨1, 3⟩
def args0 : Array Value := #[.long 1, .long 2, .int 3, .int 4, .long 5, .int 6]
def aboutOver (below : List Frame) : State where
  vm := { classes := classes, interned := interned.toArray }
  heap := heap
  slotsUsed := slotsUsed
  threads := #[{ frames := .invoking theMethod args0 :: below }]
def below0 : List Frame := [.native { method := ⟨0, 0⟩, args := #[] }]
def about1 : State := aboutOver below0
def p0 : Program := .bare "" "" ""
def e0 : Env := launch0.env 0 0 0
theorem w_frames : about1.frames = Frame.invoking theMethod args0 :: below0 := rfl
set_option maxRecDepth 65536 in
theorem w_args : argsFit about1.vm theMethod args0 = true := by decide +kernel
set_option maxRecDepth 65536 in
theorem w_heap : heapFits about1 = true := by decide +kernel
set_option maxRecDepth 65536 in
theorem w_runnable : about1.curStatus? = some .runnable := by decide +kernel
set_option maxRecDepth 65536 in
theorem w_alone : about1.alone = true := by decide +kernel
set_option maxRecDepth 65536 in
theorem w_named : about1.methodNamed? x = some theMethod := by decide +kernel
set_option maxRecDepth 65536 in
theorem w_hears : about1.hears theMethod below0 = true := by decide +kernel
set_option maxRecDepth 65536 in
theorem w_ripe : about1.ripe theMethod args0 below0 = true := by decide +kernel
theorem w_running : about1.status = .running := rfl
set_option maxRecDepth 65536 in
theorem w_room : about1.hasRoom e0.platform room_1 = true :=
  launch0.hasRoom_least _ room_1 (by decide +kernel) (by decide +kernel) (by decide +kernel) (by decide +kernel) (by decide +kernel) (by decide +kernel)
theorem allAtoms_all (ts : List Jvm.Cond) (a : Array Jvm.Value) (st : Jvm.State) : (allAtoms ts).before a st = ts.all (fun c => c.before a st) := by
  induction ts with
  | nil => rfl
  | cons c t ih =>
    show (Jvm.Cond.and c (allAtoms t)).before a st = _
    rw [Jvm.Cond.before_and, ih, List.all_cons]
def words1 : List Jvm.Cond := Jvm.Cond.code x code maxLocals ret :: tables_1
/-- a 'code' word, met by the world's own term for the bytes: nothing is compared byte by byte -/
theorem code_word {y : MethodName} {bytes : ByteArray} {mx : Nat} {rt : Option FieldType} {a : Array Value} {s : State} {m : MethodId} {meth : Method} {c : Code} (h1 : s.methodNamed? y = some m) (h2 : s.vm.method? m = some meth) (h3 : meth.code = some c) (h4 : c.code = bytes)
    (h5 : (c.maxLocals == mx && c.exceptionTable.isEmpty && decide (c.maxStack ≤ mostOperands) && decide (meth.sig.returnType = rt) && !meth.locks && decide (parseMethodDescriptor y.desc = some meth.sig)) = true) : (Jvm.Cond.code y bytes mx rt).before a s = true := by
  simp only [Bool.and_eq_true, beq_iff_eq, Bool.not_eq_true', decide_eq_true_eq] at h5
  obtain ⟨⟨⟨⟨⟨g1, g2⟩, g3⟩, g4⟩, g5⟩, g6⟩ := h5
  simp [Cond.before, Cond.holds, Cond.value, h1, h2, h3, h4, g1, g2, g3, g4, g5, g6]
def isCode : Jvm.Cond → Bool
  | .code _ _ _ _ => true
  | _ => false
theorem all_split {L : List Jvm.Cond} {P : Jvm.Cond → Bool} (h1 : L.all (fun c => isCode c || P c) = true) (h2 : ∀ c ∈ L.filter isCode, P c = true) : L.all P = true := by
  refine List.all_eq_true.mpr fun c hc => ?_
  have h := List.all_eq_true.mp h1 c hc
  rcases Bool.eq_false_or_eq_true (isCode c) with hi | hi
  · exact h2 c (List.mem_filter.mpr ⟨hc, hi⟩)
  · simpa [hi] using h
set_option maxRecDepth 65536 in
theorem w_c0 : (Jvm.Cond.code x code maxLocals ret).before args0 about1 = true := code_word (m := ⟨1, 3⟩) (meth := k1m3) (c := k1c3) (by decide +kernel) rfl rfl rfl (by decide +kernel)
set_option maxRecDepth 65536 in
theorem w_c1 : (Jvm.Cond.code ({ cls := "java/lang/Math", name := "min", desc := "(II)I" } : Jvm.MethodName) jdk_29_method_69_code (2 : Nat) (Option.some Jvm.ClassFile.FieldType.int)).before args0 about1 = true := code_word (m := ⟨2, 2⟩) (meth := k2m2) (c := k2c2) (by decide +kernel) rfl rfl rfl (by decide +kernel)
set_option maxRecDepth 65536 in
theorem w_c2 : (Jvm.Cond.code ({ cls := "java/lang/Math", name := "max", desc := "(II)I" } : Jvm.MethodName) jdk_29_method_65_code (2 : Nat) (Option.some Jvm.ClassFile.FieldType.int)).before args0 about1 = true := code_word (m := ⟨2, 1⟩) (meth := k2m1) (c := k2c1) (by decide +kernel) rfl rfl rfl (by decide +kernel)
set_option maxRecDepth 65536 in
theorem w_c3 : (Jvm.Cond.code ({ cls := "com/example/esteem/esteem/core/analysis/TokenEqualsPinLaw", name := "str", desc := "(ICC)Ljava/lang/String;" } : Jvm.MethodName) method_2_code (3 : Nat) (Option.some (Jvm.ClassFile.FieldType.object "java/lang/String"))).before args0 about1 = true := code_word (m := ⟨1, 1⟩) (meth := k1m1) (c := k1c1) (by decide +kernel) rfl rfl rfl (by decide +kernel)
set_option maxRecDepth 65536 in
theorem w_c4 : (Jvm.Cond.code ({ cls := "java/lang/String", name := "<init>", desc := "([C)V" } : Jvm.MethodName) jdk_42_method_3_code (2 : Nat) (Option.none : Option Jvm.ClassFile.FieldType)).before args0 about1 = true := code_word (m := ⟨9, 1⟩) (meth := k9m1) (c := k9c1) (by decide +kernel) rfl rfl rfl (by decide +kernel)
set_option maxRecDepth 65536 in
theorem w_c5 : (Jvm.Cond.code ({ cls := "java/lang/String", name := "<init>", desc := "([CIILjava/lang/Void;)V" } : Jvm.MethodName) jdk_42_method_149_code (6 : Nat) (Option.none : Option Jvm.ClassFile.FieldType)).before args0 about1 = true := code_word (m := ⟨9, 4⟩) (meth := k9m4) (c := k9c4) (by decide +kernel) rfl rfl rfl (by decide +kernel)
set_option maxRecDepth 65536 in
theorem w_c6 : (Jvm.Cond.code ({ cls := "java/lang/Object", name := "<init>", desc := "()V" } : Jvm.MethodName) object_method_1_code (1 : Nat) (Option.none : Option Jvm.ClassFile.FieldType)).before args0 about1 = true := code_word (m := ⟨0, 0⟩) (meth := k0m0) (c := k0c0) (by decide +kernel) rfl rfl rfl (by decide +kernel)
set_option maxRecDepth 65536 in
theorem w_c7 : (Jvm.Cond.code ({ cls := "java/lang/StringUTF16", name := "compress", desc := "([CII)[B" } : Jvm.MethodName) jdk_52_method_16_code (6 : Nat) (Option.some (Jvm.ClassFile.FieldType.array Jvm.ClassFile.FieldType.byte))).before args0 about1 = true := code_word (m := ⟨10, 2⟩) (meth := k10m2) (c := k10c2) (by decide +kernel) rfl rfl rfl (by decide +kernel)
set_option maxRecDepth 65536 in
theorem w_c8 : (Jvm.Cond.code ({ cls := "java/lang/StringUTF16", name := "compress", desc := "([CI[BII)I" } : Jvm.MethodName) jdk_52_method_21_code (7 : Nat) (Option.some Jvm.ClassFile.FieldType.int)).before args0 about1 = true := code_word (m := ⟨10, 3⟩) (meth := k10m3) (c := k10c3) (by decide +kernel) rfl rfl rfl (by decide +kernel)
set_option maxRecDepth 65536 in
theorem w_c9 : (Jvm.Cond.code ({ cls := "java/lang/StringUTF16", name := "coderFromArrayLen", desc := "([BI)B" } : Jvm.MethodName) jdk_52_method_15_code (2 : Nat) (Option.some Jvm.ClassFile.FieldType.byte)).before args0 about1 = true := code_word (m := ⟨10, 1⟩) (meth := k10m1) (c := k10c1) (by decide +kernel) rfl rfl rfl (by decide +kernel)
set_option maxRecDepth 65536 in
theorem w_c10 : (Jvm.Cond.code ({ cls := "com/example/esteem/esteem/core/analysis/Token", name := "<init>", desc := "(Ljava/lang/String;IILjava/lang/String;I)V" } : Jvm.MethodName) prog_9_method_1_code (6 : Nat) (Option.none : Option Jvm.ClassFile.FieldType)).before args0 about1 = true := code_word (m := ⟨3, 0⟩) (meth := k3m0) (c := k3c0) (by decide +kernel) rfl rfl rfl (by decide +kernel)
set_option maxRecDepth 65536 in
theorem w_c11 : (Jvm.Cond.code ({ cls := "java/util/Objects", name := "requireNonNull", desc := "(Ljava/lang/Object;Ljava/lang/String;)Ljava/lang/Object;" } : Jvm.MethodName) jdk_31_method_11_code (2 : Nat) (Option.some (Jvm.ClassFile.FieldType.object "java/lang/Object"))).before args0 about1 = true := code_word (m := ⟨11, 1⟩) (meth := k11m1) (c := k11c1) (by decide +kernel) rfl rfl rfl (by decide +kernel)
set_option maxRecDepth 65536 in
theorem w_c12 : (Jvm.Cond.code ({ cls := "com/example/esteem/esteem/core/analysis/TokenEqualsPinLaw", name := "same", desc := "(ICCICC)Z" } : Jvm.MethodName) method_3_code (6 : Nat) (Option.some Jvm.ClassFile.FieldType.boolean)).before args0 about1 = true := code_word (m := ⟨1, 2⟩) (meth := k1m2) (c := k1c2) (by decide +kernel) rfl rfl rfl (by decide +kernel)
set_option maxRecDepth 65536 in
theorem w_c13 : (Jvm.Cond.code ({ cls := "com/example/esteem/esteem/core/analysis/Token", name := "equals", desc := "(Ljava/lang/Object;)Z" } : Jvm.MethodName) prog_9_method_9_code (3 : Nat) (Option.some Jvm.ClassFile.FieldType.boolean)).before args0 about1 = true := code_word (m := ⟨3, 2⟩) (meth := k3m2) (c := k3c2) (by decide +kernel) rfl rfl rfl (by decide +kernel)
set_option maxRecDepth 65536 in
theorem w_c14 : (Jvm.Cond.code ({ cls := "java/lang/String", name := "equals", desc := "(Ljava/lang/Object;)Z" } : Jvm.MethodName) jdk_42_method_66_code (3 : Nat) (Option.some Jvm.ClassFile.FieldType.boolean)).before args0 about1 = true := code_word (m := ⟨9, 2⟩) (meth := k9m2) (c := k9c2) (by decide +kernel) rfl rfl rfl (by decide +kernel)
set_option maxRecDepth 65536 in
theorem w_c15 : (Jvm.Cond.code ({ cls := "java/lang/StringLatin1", name := "equals", desc := "([B[B)Z" } : Jvm.MethodName) jdk_43_method_13_code (3 : Nat) (Option.some Jvm.ClassFile.FieldType.boolean)).before args0 about1 = true := code_word (m := ⟨12, 2⟩) (meth := k12m2) (c := k12c2) (by decide +kernel) rfl rfl rfl (by decide +kernel)
set_option maxRecDepth 65536 in
theorem w_c16 : (Jvm.Cond.code ({ cls := "java/lang/String", name := "valueOf", desc := "(C)Ljava/lang/String;" } : Jvm.MethodName) jdk_42_method_139_code (1 : Nat) (Option.some (Jvm.ClassFile.FieldType.object "java/lang/String"))).before args0 about1 = true := code_word (m := ⟨9, 3⟩) (meth := k9m3) (c := k9c3) (by decide +kernel) rfl rfl rfl (by decide +kernel)
set_option maxRecDepth 65536 in
theorem w_c17 : (Jvm.Cond.code ({ cls := "java/lang/StringLatin1", name := "canEncode", desc := "(C)Z" } : Jvm.MethodName) jdk_43_method_3_code (1 : Nat) (Option.some Jvm.ClassFile.FieldType.boolean)).before args0 about1 = true := code_word (m := ⟨12, 1⟩) (meth := k12m1) (c := k12c1) (by decide +kernel) rfl rfl rfl (by decide +kernel)
set_option maxRecDepth 65536 in
theorem w_c18 : (Jvm.Cond.code ({ cls := "java/lang/StringLatin1", name := "toBytes", desc := "(C)[B" } : Jvm.MethodName) jdk_43_method_46_code (1 : Nat) (Option.some (Jvm.ClassFile.FieldType.array Jvm.ClassFile.FieldType.byte))).before args0 about1 = true := code_word (m := ⟨12, 3⟩) (meth := k12m3) (c := k12c3) (by decide +kernel) rfl rfl rfl (by decide +kernel)
set_option maxRecDepth 65536 in
theorem w_c19 : (Jvm.Cond.code ({ cls := "java/lang/String", name := "<init>", desc := "([BB)V" } : Jvm.MethodName) jdk_42_method_151_code (3 : Nat) (Option.none : Option Jvm.ClassFile.FieldType)).before args0 about1 = true := code_word (m := ⟨9, 5⟩) (meth := k9m5) (c := k9c5) (by decide +kernel) rfl rfl rfl (by decide +kernel)
set_option maxRecDepth 65536 in
theorem w_c20 : (Jvm.Cond.code ({ cls := "com/example/esteem/esteem/core/analysis/Token", name := "term", desc := "()Ljava/lang/String;" } : Jvm.MethodName) prog_9_method_2_code (1 : Nat) (Option.some (Jvm.ClassFile.FieldType.object "java/lang/String"))).before args0 about1 = true := code_word (m := ⟨3, 1⟩) (meth := k3m1) (c := k3c1) (by decide +kernel) rfl rfl rfl (by decide +kernel)
def codes1 : List Jvm.Cond := [Jvm.Cond.code x code maxLocals ret, Jvm.Cond.code ({ cls := "java/lang/Math", name := "min", desc := "(II)I" } : Jvm.MethodName) jdk_29_method_69_code (2 : Nat) (Option.some Jvm.ClassFile.FieldType.int), Jvm.Cond.code ({ cls := "java/lang/Math", name := "max", desc := "(II)I" } : Jvm.MethodName) jdk_29_method_65_code (2 : Nat) (Option.some Jvm.ClassFile.FieldType.int), Jvm.Cond.code ({ cls := "com/example/esteem/esteem/core/analysis/TokenEqualsPinLaw", name := "str", desc := "(ICC)Ljava/lang/String;" } : Jvm.MethodName) method_2_code (3 : Nat) (Option.some (Jvm.ClassFile.FieldType.object "java/lang/String")), Jvm.Cond.code ({ cls := "java/lang/String", name := "<init>", desc := "([C)V" } : Jvm.MethodName) jdk_42_method_3_code (2 : Nat) (Option.none : Option Jvm.ClassFile.FieldType), Jvm.Cond.code ({ cls := "java/lang/String", name := "<init>", desc := "([CIILjava/lang/Void;)V" } : Jvm.MethodName) jdk_42_method_149_code (6 : Nat) (Option.none : Option Jvm.ClassFile.FieldType), Jvm.Cond.code ({ cls := "java/lang/Object", name := "<init>", desc := "()V" } : Jvm.MethodName) object_method_1_code (1 : Nat) (Option.none : Option Jvm.ClassFile.FieldType), Jvm.Cond.code ({ cls := "java/lang/StringUTF16", name := "compress", desc := "([CII)[B" } : Jvm.MethodName) jdk_52_method_16_code (6 : Nat) (Option.some (Jvm.ClassFile.FieldType.array Jvm.ClassFile.FieldType.byte)), Jvm.Cond.code ({ cls := "java/lang/StringUTF16", name := "compress", desc := "([CI[BII)I" } : Jvm.MethodName) jdk_52_method_21_code (7 : Nat) (Option.some Jvm.ClassFile.FieldType.int), Jvm.Cond.code ({ cls := "java/lang/StringUTF16", name := "coderFromArrayLen", desc := "([BI)B" } : Jvm.MethodName) jdk_52_method_15_code (2 : Nat) (Option.some Jvm.ClassFile.FieldType.byte), Jvm.Cond.code ({ cls := "com/example/esteem/esteem/core/analysis/Token", name := "<init>", desc := "(Ljava/lang/String;IILjava/lang/String;I)V" } : Jvm.MethodName) prog_9_method_1_code (6 : Nat) (Option.none : Option Jvm.ClassFile.FieldType), Jvm.Cond.code ({ cls := "java/util/Objects", name := "requireNonNull", desc := "(Ljava/lang/Object;Ljava/lang/String;)Ljava/lang/Object;" } : Jvm.MethodName) jdk_31_method_11_code (2 : Nat) (Option.some (Jvm.ClassFile.FieldType.object "java/lang/Object")), Jvm.Cond.code ({ cls := "com/example/esteem/esteem/core/analysis/TokenEqualsPinLaw", name := "same", desc := "(ICCICC)Z" } : Jvm.MethodName) method_3_code (6 : Nat) (Option.some Jvm.ClassFile.FieldType.boolean), Jvm.Cond.code ({ cls := "com/example/esteem/esteem/core/analysis/Token", name := "equals", desc := "(Ljava/lang/Object;)Z" } : Jvm.MethodName) prog_9_method_9_code (3 : Nat) (Option.some Jvm.ClassFile.FieldType.boolean), Jvm.Cond.code ({ cls := "java/lang/String", name := "equals", desc := "(Ljava/lang/Object;)Z" } : Jvm.MethodName) jdk_42_method_66_code (3 : Nat) (Option.some Jvm.ClassFile.FieldType.boolean), Jvm.Cond.code ({ cls := "java/lang/StringLatin1", name := "equals", desc := "([B[B)Z" } : Jvm.MethodName) jdk_43_method_13_code (3 : Nat) (Option.some Jvm.ClassFile.FieldType.boolean), Jvm.Cond.code ({ cls := "java/lang/String", name := "valueOf", desc := "(C)Ljava/lang/String;" } : Jvm.MethodName) jdk_42_method_139_code (1 : Nat) (Option.some (Jvm.ClassFile.FieldType.object "java/lang/String")), Jvm.Cond.code ({ cls := "java/lang/StringLatin1", name := "canEncode", desc := "(C)Z" } : Jvm.MethodName) jdk_43_method_3_code (1 : Nat) (Option.some Jvm.ClassFile.FieldType.boolean), Jvm.Cond.code ({ cls := "java/lang/StringLatin1", name := "toBytes", desc := "(C)[B" } : Jvm.MethodName) jdk_43_method_46_code (1 : Nat) (Option.some (Jvm.ClassFile.FieldType.array Jvm.ClassFile.FieldType.byte)), Jvm.Cond.code ({ cls := "java/lang/String", name := "<init>", desc := "([BB)V" } : Jvm.MethodName) jdk_42_method_151_code (3 : Nat) (Option.none : Option Jvm.ClassFile.FieldType), Jvm.Cond.code ({ cls := "com/example/esteem/esteem/core/analysis/Token", name := "term", desc := "()Ljava/lang/String;" } : Jvm.MethodName) prog_9_method_2_code (1 : Nat) (Option.some (Jvm.ClassFile.FieldType.object "java/lang/String"))]
set_option maxRecDepth 65536 in
theorem codes_eq : words1.filter isCode = codes1 := rfl
theorem w_codes : ∀ c ∈ words1.filter isCode, c.before args0 about1 = true := by
  rw [codes_eq]
  intro c hc
  simp only [codes1, List.mem_cons, List.not_mem_nil, or_false] at hc
  rcases hc with rfl | rfl | rfl | rfl | rfl | rfl | rfl | rfl | rfl | rfl | rfl | rfl | rfl | rfl | rfl | rfl | rfl | rfl | rfl | rfl | rfl
  · exact w_c0
  · exact w_c1
  · exact w_c2
  · exact w_c3
  · exact w_c4
  · exact w_c5
  · exact w_c6
  · exact w_c7
  · exact w_c8
  · exact w_c9
  · exact w_c10
  · exact w_c11
  · exact w_c12
  · exact w_c13
  · exact w_c14
  · exact w_c15
  · exact w_c16
  · exact w_c17
  · exact w_c18
  · exact w_c19
  · exact w_c20
set_option maxRecDepth 65536 in
theorem w_t1 : (words1.take 24).all (fun c => isCode c || c.before args0 about1) = true := by decide +kernel
set_option maxRecDepth 65536 in
theorem w_t2 : ((words1.drop 24).take 24).all (fun c => isCode c || c.before args0 about1) = true := by decide +kernel
set_option maxRecDepth 65536 in
theorem w_t3 : (((words1.drop 24).drop 24).take 24).all (fun c => isCode c || c.before args0 about1) = true := by decide +kernel
set_option maxRecDepth 65536 in
theorem w_t4 : ((((words1.drop 24).drop 24).drop 24).take 24).all (fun c => isCode c || c.before args0 about1) = true := by decide +kernel
set_option maxRecDepth 65536 in
theorem w_t5 : ((((words1.drop 24).drop 24).drop 24).drop 24).all (fun c => isCode c || c.before args0 about1) = true := by decide +kernel
theorem w_tables : (allAtoms (Jvm.Cond.code x code maxLocals ret :: tables_1)).before args0 about1 = true := by
  rw [allAtoms_all]
  show words1.all (fun c => c.before args0 about1) = true
  refine all_split ?_ w_codes
  rw [← List.take_append_drop 24 words1, List.all_append, w_t1, ← List.take_append_drop 24 (words1.drop 24), List.all_append, w_t2, ← List.take_append_drop 24 ((words1.drop 24).drop 24), List.all_append, w_t3, ← List.take_append_drop 24 (((words1.drop 24).drop 24).drop 24), List.all_append, w_t4, w_t5]
  rfl
set_option maxRecDepth 65536 in
theorem w_rest : rest_1_c.before args0 about1 = true := by decide +kernel
set_option maxRecDepth 65536 in
theorem w_case : (Jvm.Cond.and given_1 narrow_1).before args0 about1 = true := by decide +kernel
set_option maxRecDepth 65536 in
theorem w_consts : constsHeld consts_1 about1 := Jvm.Lit.constsHeldB_iff.mp (by decide +kernel)
theorem w_applies : (headSpec (Jvm.Cond.code x code maxLocals ret :: tables_1) room_1).applies x e0.platform about1 = true :=
  (Spec.applies_iff w_frames).mpr ⟨w_running, w_runnable, w_alone, w_named, w_hears, w_ripe, w_room, w_tables⟩
theorem atStart : AtStart classFile x code maxLocals ret World_1 tables_1 room_1 Calls_1 rest_1 Pre_1 launch0 p0 e0 about1 theMethod args0 below0 :=
  ⟨lists_1, trivial, launch0.admits_env _ _ _, launch0.least_env, fairChoices_fair.cas, fairChoices_fair.clock, w_frames, w_args, w_heap, w_applies, ⟨w_consts, trivial⟩, w_rest, w_case⟩
end start1
theorem witness_1 : WitnessClaimed_1 := ⟨start1.p0, start1.e0, start1.about1, start1.theMethod, start1.args0, start1.below0, start1.atStart⟩
end Jvm.Pilot.@@N@@
