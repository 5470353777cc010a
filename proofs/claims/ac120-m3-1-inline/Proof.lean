import JvmDerived
import JvmDerived.Pilot.@@N@@Statement
import JvmDerived.Pilot.@@N@@Code
set_option linter.unusedVariables false
set_option linter.unusedSimpArgs false
/- laws to paste: Road.backV (cut by pick.py; bodies as the Statement names them) -/
namespace Jvm.Pilot.@@N@@
namespace StrChars
open Jvm Sem ClassFile Op Lib Jvm.Stand Jvm.Free.XT Jvm.Free.ALB Jvm.Free.JM Jvm.Free
open Jvm.Lib.Cold (StaticIs)
/-- a char array whose places are chars -/
def Ch (a : Addr) (A : Cell) (U : State) : Prop := Arr .char a A U ∧ Typed .char A
theorem Ch.mv {a : Addr} {A : Cell} {U U' : State} (h : Ch a A U) (hal : U.vm.Alike U'.vm) (hh : U'.heap = U.heap) : Ch a A U' := ⟨h.1.mv hal hh, h.2⟩
theorem Ch.keep {a : Addr} {A : Cell} {U U' : State} (h : Ch a A U) (hal : U.vm.Alike U'.vm) (hk : U'.heap[a]? = some A) : Ch a A U' := ⟨h.1.keep hal hk, h.2⟩
/-- what place i of a char[]'s cell holds -/
def cv (A : Cell) (i : Nat) : Int32 := match A.slots[i]? with | some (.int x) => x | _ => 0
theorem Ch.get {a : Addr} {A : Cell} {U : State} (h : Ch a A U) {i : Nat} (hi : i < A.slots.size) : A.slots[i]? = some (.int (cv A i)) := by
  have e := Array.getElem?_eq_getElem hi
  have f := h.2 i _ e
  unfold cv; rw [e]
  generalize A.slots[i] = v at f
  cases v <;> simp [fits] at f ⊢
/-- the byte that i2b leaves of a char -/
def lo8 (x : Int32) : Int32 := x.toInt8.toInt32
theorem fits_lo8 (y : Int32) : fits .byte (.int (lo8 y)) = true := by
  have h1 := y.toInt8.le_toInt
  have h2 := y.toInt8.toInt_lt
  simp only [lo8, fits, Bool.and_eq_true, decide_eq_true_eq, Int32.le_iff_toInt_le, Int8.toInt_toInt32, show (-128 : Int32).toInt = -128 from by decide, show (127 : Int32).toInt = 127 from by decide]
  omega
/-- A' is A but that each place j of lo .. hi - 1 holds f j -/
def Laid (A A' : Cell) (lo hi : Nat) (f : Nat → Value) : Prop := A'.cls = A.cls ∧ A'.vm = A.vm ∧ A'.slots.size = A.slots.size ∧ ∀ i, A'.slots[i]? = if lo ≤ i ∧ i < hi then some (f i) else A.slots[i]?
theorem Laid.zero (A : Cell) (lo : Nat) (f : Nat → Value) : Laid A A lo (lo + 0) f := ⟨rfl, rfl, rfl, fun i => by rw [if_neg (by omega)]⟩
theorem Laid.step {A Ak : Cell} {lo k : Nat} {f : Nat → Value} {v : Value} (h : Laid A Ak lo k f) (hlo : lo ≤ k) (hk : k < Ak.slots.size) (hv : v = f k) : Laid A (Ak.setSlot k v) lo (k + 1) f := by
  refine ⟨h.1, h.2.1, by simpa [Cell.setSlot] using h.2.2.1, fun i => ?_⟩
  by_cases e : k = i
  · subst e; rw [Cell.slots_setSlot_self v hk, if_pos (by omega), hv]
  · rw [Cell.slots_setSlot_ne v e, h.2.2.2 i]
    by_cases q : lo ≤ i ∧ i < k
    · rw [if_pos q, if_pos (by omega)]
    · rw [if_neg q, if_neg (by omega)]
def U16 : String := "java/lang/StringUTF16"
namespace Cmp5
def yN : MethodName := ⟨"java/lang/StringUTF16", "compress", "([CI[BII)I"⟩
abbrev yB : ByteArray := jdk_52_method_21_code
theorem d0 : decode yB 0 = .ok (.iconst 0, 1) := by decide +kernel
theorem d1 : decode yB 1 = .ok (.istore 5, 2) := by decide +kernel
theorem d3 : decode yB 3 = .ok (.iload 5, 2) := by decide +kernel
theorem d5 : decode yB 5 = .ok (.iload 4, 2) := by decide +kernel
theorem d7 : decode yB 7 = .ok (.if_icmp (.ge) 37, 3) := by decide +kernel
theorem d10 : decode yB 10 = .ok (.aload_n 0, 1) := by decide +kernel
theorem d11 : decode yB 11 = .ok (.iload_n 1, 1) := by decide +kernel
theorem d12 : decode yB 12 = .ok (.caload, 1) := by decide +kernel
theorem d13 : decode yB 13 = .ok (.istore 6, 2) := by decide +kernel
theorem d15 : decode yB 15 = .ok (.iload 6, 2) := by decide +kernel
theorem d17 : decode yB 17 = .ok (.sipush 255, 3) := by decide +kernel
theorem d20 : decode yB 20 = .ok (.if_icmp (.le) 6, 3) := by decide +kernel
theorem d26 : decode yB 26 = .ok (.aload_n 2, 1) := by decide +kernel
theorem d27 : decode yB 27 = .ok (.iload_n 3, 1) := by decide +kernel
theorem d28 : decode yB 28 = .ok (.iload 6, 2) := by decide +kernel
theorem d30 : decode yB 30 = .ok (.i2b, 1) := by decide +kernel
theorem d31 : decode yB 31 = .ok (.bastore, 1) := by decide +kernel
theorem d32 : decode yB 32 = .ok (.iinc 1 1, 3) := by decide +kernel
theorem d35 : decode yB 35 = .ok (.iinc 3 1, 3) := by decide +kernel
theorem d38 : decode yB 38 = .ok (.iinc 5 1, 3) := by decide +kernel
theorem d41 : decode yB 41 = .ok (.goto (-38), 3) := by decide +kernel
theorem d44 : decode yB 44 = .ok (.iload 4, 2) := by decide +kernel
theorem d46 : decode yB 46 = .ok (.ireturn, 1) := by decide +kernel
def site : List Cond := []
def tab : Cond := tabOf yN yB 7 (some .int) site
def P (b : Addr) (A : Cell) (d : Addr) (B : Cell) (o q len : Nat) (args : Array Value) (s : State) : Prop := args = #[.ref b, .int (Int32.ofNat o), .ref d, .int (Int32.ofNat q), .int (Int32.ofNat len)] ∧ Ch b A s ∧ Arr .byte d B s ∧ b ≠ d ∧ o + len ≤ A.slots.size ∧ q + len ≤ B.slots.size ∧ ∀ i, i < len → ¬ 255 < cv A (o + i)
def E (b : Addr) (A : Cell) (d : Addr) (B : Cell) (o q len : Nat) (r : Option Value) (s u : State) : Prop := r = some (.int (Int32.ofNat len)) ∧ ∃ B', Put d B' s u ∧ Laid B B' q (q + len) (fun j => Value.int (lo8 (cv A (o + (j - q)))))
/-- no char of the range above 255: len; the places written hold each char's low byte -/
theorem law (l : Launch) (b : Addr) (A : Cell) (d : Addr) (B : Cell) (o q len : Nat) : Law l yN 5 5 0 0 yB 7 (some .int) site (P b A d B o q len) (E b A d B o q len) (copyLocs d q len) 0 0 := by
  refine Law.of_walk (plainFor_of_name (by decide +kernel)) (by decide +kernel) (by decide +kernel) (by decide) (fun _ _ h => by rw [h.1]; rfl) (fun _ U U' hal hh h => ⟨h.1, h.2.1.mv hal hh, h.2.2.1.mv hal hh, h.2.2.2⟩) (fun r U U' V V' h1 hal h2 h => ⟨h.1, h.2.elim fun B' q => ⟨B', q.1.mv h1 h2, q.2⟩⟩) ?_
  intro p e s m args below meth c s₁ X0 hexec hbytes hml hret hlk hnm hown hh0 W hP
  obtain ⟨rfl, hA, hB, hne, l1, l2, hp⟩ := hP
  have c1 : Steps p.tables e below (s₁.setTop (entryFrame m #[.ref b, .int (Int32.ofNat o), .ref d, .int (Int32.ofNat q), .int (Int32.ofNat len)] 7)) (s₁.setTop (mkF m 0 #[.val (.ref b), .val (.int (Int32.ofNat o)), .val (.ref d), .val (.int (Int32.ofNat q)), .val (.int (Int32.ofNat len)), .unset, .unset] [])) := entry rfl
  have hA0 := hA.1.mv X0.warmed.alike hh0
  have hB0 := hB.mv X0.warmed.alike hh0
  have a31 := hA.1.2.2.2
  have c2 : Steps p.tables e below (s₁.setTop (entryFrame m #[.ref b, .int (Int32.ofNat o), .ref d, .int (Int32.ofNat q), .int (Int32.ofNat len)] 7)) (s₁.setTop (mkF m 3 #[.val (.ref b), .val (.int (Int32.ofNat o)), .val (.ref d), .val (.int (Int32.ofNat q)), .val (.int (Int32.ofNat len)), .val (.int 0), .unset] [])) := c1.trans (by
    refine iconstV X0.here hexec rfl 0 (hb hbytes d0) (by decide) ?_
    refine XS.istore X0.here hexec rfl (hb hbytes d1) rfl rfl ?_
    exact Steps.refl _)
  have loop : ∀ (r i : Nat), i + r = len → ∀ (z : Slot), (z = .unset ∨ ∃ w, z = .val w ∧ w.category = 1) → ∀ (Tl : State) (Bk : Cell), Stand p l e { frames := 0, locals := 0, cells := 0, slots := 0 } s m #[.ref b, .int (Int32.ofNat o), .ref d, .int (Int32.ofNat q), .int (Int32.ofNat len)] below meth c Tl ([] ++ copyLocs d q i) 0 0 → Put d Bk s₁ Tl → Laid B Bk q (q + i) (fun j => Value.int (lo8 (cv A (o + (j - q))))) →
      Steps p.tables e below (s₁.setTop (entryFrame m #[.ref b, .int (Int32.ofNat o), .ref d, .int (Int32.ofNat q), .int (Int32.ofNat len)] 7)) (Tl.setTop (mkF m 3 #[.val (.ref b), .val (.int (Int32.ofNat (o + i))), .val (.ref d), .val (.int (Int32.ofNat (q + i))), .val (.int (Int32.ofNat len)), .val (.int (Int32.ofNat i)), z] [])) → ∃ (T' : State) (B' : Cell) (z' : Slot), Stand p l e { frames := 0, locals := 0, cells := 0, slots := 0 } s m #[.ref b, .int (Int32.ofNat o), .ref d, .int (Int32.ofNat q), .int (Int32.ofNat len)] below meth c T' ([] ++ copyLocs d q len) 0 0 ∧ Put d B' s₁ T' ∧ Laid B B' q (q + len) (fun j => Value.int (lo8 (cv A (o + (j - q))))) ∧
      Steps p.tables e below (s₁.setTop (entryFrame m #[.ref b, .int (Int32.ofNat o), .ref d, .int (Int32.ofNat q), .int (Int32.ofNat len)] 7)) (T'.setTop (mkF m 3 #[.val (.ref b), .val (.int (Int32.ofNat (o + len))), .val (.ref d), .val (.int (Int32.ofNat (q + len))), .val (.int (Int32.ofNat len)), .val (.int (Int32.ofNat len)), z'] [])) := by
    intro r
    induction r with
    | zero =>
      intro i hi z hz Tl Bk Xl pl fl cl
      have hil : i = len := by omega
      rw [hil] at Xl fl cl
      exact ⟨Tl, Bk, z, Xl, pl, fl, cl⟩
    | succ r ih =>
      intro i hi z hz Tl Bk Xl pl fl cl
      have all := X0.warmed.alike.symm.trans Xl.warmed.alike
      have hAl := hA0.keep all (pl.other hne hA0.1)
      have hBk := hB0.like all pl.1 fl.1 fl.2.1 fl.2.2.1
      have hlt : q + i < Bk.slots.size := by rw [fl.2.2.1]; omega
      have c3 : Steps p.tables e below (s₁.setTop (entryFrame m #[.ref b, .int (Int32.ofNat o), .ref d, .int (Int32.ofNat q), .int (Int32.ofNat len)] 7)) (Tl.setTop (mkF m 12 #[.val (.ref b), .val (.int (Int32.ofNat (o + i))), .val (.ref d), .val (.int (Int32.ofNat (q + i))), .val (.int (Int32.ofNat len)), .val (.int (Int32.ofNat i)), z] [.int (Int32.ofNat (o + i)), .ref b])) := cl.trans (by
        refine XS.iload Xl.here hexec rfl (hb hbytes d3) rfl ?_
        refine XS.iload Xl.here hexec rfl (hb hbytes d5) rfl ?_
        refine XS.icmpNo Xl.here hexec rfl (hb hbytes d7) rfl (ii_ge_f (lt32 (by omega) (by omega))) ?_
        refine XS.aloadN Xl.here hexec rfl (hb hbytes d10) rfl rfl ?_
        refine XS.iloadN Xl.here hexec rfl (hb hbytes d11) rfl ?_
        exact Steps.refl _)
      have c4 : Steps p.tables e below (s₁.setTop (entryFrame m #[.ref b, .int (Int32.ofNat o), .ref d, .int (Int32.ofNat q), .int (Int32.ofNat len)] 7)) (Tl.setTop (mkF m 13 #[.val (.ref b), .val (.int (Int32.ofNat (o + i))), .val (.ref d), .val (.int (Int32.ofNat (q + i))), .val (.int (Int32.ofNat len)), .val (.int (Int32.ofNat i)), z] [.int (cv A (o + i))])) := c3.trans (by
        refine Xl.aget hexec hAl rfl (hA.get (i := o + i) (by omega)) rfl rfl (hb hbytes d12) ?_
        exact Steps.refl _)
      have c5 : Steps p.tables e below (s₁.setTop (entryFrame m #[.ref b, .int (Int32.ofNat o), .ref d, .int (Int32.ofNat q), .int (Int32.ofNat len)] 7)) (Tl.setTop (mkF m 15 #[.val (.ref b), .val (.int (Int32.ofNat (o + i))), .val (.ref d), .val (.int (Int32.ofNat (q + i))), .val (.int (Int32.ofNat len)), .val (.int (Int32.ofNat i)), .val (.int (cv A (o + i)))] [])) := c4.trans (by
        refine XS.istoreS Xl.here hexec rfl (hb hbytes d13) rfl rfl hz ?_
        exact Steps.refl _)
      have c6 : Steps p.tables e below (s₁.setTop (entryFrame m #[.ref b, .int (Int32.ofNat o), .ref d, .int (Int32.ofNat q), .int (Int32.ofNat len)] 7)) (Tl.setTop (mkF m 31 #[.val (.ref b), .val (.int (Int32.ofNat (o + i))), .val (.ref d), .val (.int (Int32.ofNat (q + i))), .val (.int (Int32.ofNat len)), .val (.int (Int32.ofNat i)), .val (.int (cv A (o + i)))] [.int (lo8 (cv A (o + i))), .int (Int32.ofNat (q + i)), .ref d])) := c5.trans (by
        refine XS.iload Xl.here hexec rfl (hb hbytes d15) rfl ?_
        refine sipushV Xl.here hexec rfl 255 (hb hbytes d17) (by decide) ?_
        refine XS.icmpYes Xl.here hexec rfl (pc0 := 20) rfl (hb hbytes d20) rfl (ii_le_t (hp i (by omega))) (by decide) rfl ?_
        refine XS.aloadN Xl.here hexec rfl (hb hbytes d26) rfl rfl ?_
        refine XS.iloadN Xl.here hexec rfl (hb hbytes d27) rfl ?_
        refine XS.iload Xl.here hexec rfl (hb hbytes d28) rfl ?_
        refine i2b Xl.here hexec rfl (hb hbytes d30) rfl ?_
        exact Steps.refl _)
      obtain ⟨T7, X7, p7, st7⟩ := Xl.aput hexec hBk rfl hlt rfl (fits_lo8 (cv A (o + i))) (g := (mkF m 31 #[.val (.ref b), .val (.int (Int32.ofNat (o + i))), .val (.ref d), .val (.int (Int32.ofNat (q + i))), .val (.int (Int32.ofNat len)), .val (.int (Int32.ofNat i)), .val (.int (cv A (o + i)))] [.int (lo8 (cv A (o + i))), .int (Int32.ofNat (q + i)), .ref d])) rfl (rest := []) rfl (hb hbytes d31)
      have c8 : Steps p.tables e below (s₁.setTop (entryFrame m #[.ref b, .int (Int32.ofNat o), .ref d, .int (Int32.ofNat q), .int (Int32.ofNat len)] 7)) (T7.setTop (mkF m 32 #[.val (.ref b), .val (.int (Int32.ofNat (o + i))), .val (.ref d), .val (.int (Int32.ofNat (q + i))), .val (.int (Int32.ofNat len)), .val (.int (Int32.ofNat i)), .val (.int (cv A (o + i)))] [])) := c6.trans (st7 _ (Steps.refl _))
      have c9 : Steps p.tables e below (s₁.setTop (entryFrame m #[.ref b, .int (Int32.ofNat o), .ref d, .int (Int32.ofNat q), .int (Int32.ofNat len)] 7)) (T7.setTop (mkF m 3 #[.val (.ref b), .val (.int (Int32.ofNat (o + i) + 1)), .val (.ref d), .val (.int (Int32.ofNat (q + i) + 1)), .val (.int (Int32.ofNat len)), .val (.int (Int32.ofNat i + 1)), .val (.int (cv A (o + i)))] [])) := c8.trans (by
        refine iincV X7.here hexec rfl 1 (hb hbytes d32) (by decide) rfl rfl ?_
        refine iincV X7.here hexec rfl 1 (hb hbytes d35) (by decide) rfl rfl ?_
        refine iincV X7.here hexec rfl 1 (hb hbytes d38) (by decide) rfl rfl ?_
        refine XS.goto X7.here hexec rfl (pc0 := 41) rfl (hb hbytes d41) (by decide) rfl ?_
        exact Steps.refl _)
      have c10 : Steps p.tables e below (s₁.setTop (entryFrame m #[.ref b, .int (Int32.ofNat o), .ref d, .int (Int32.ofNat q), .int (Int32.ofNat len)] 7)) (T7.setTop (mkF m 3 #[.val (.ref b), .val (.int (Int32.ofNat (o + (i + 1)))), .val (.ref d), .val (.int (Int32.ofNat (q + (i + 1)))), .val (.int (Int32.ofNat len)), .val (.int (Int32.ofNat (i + 1))), .val (.int (cv A (o + i)))] [])) := by
        have := c9
        rw [succ32, succ32, succ32] at this
        exact this
      exact ih (i + 1) (by omega) _ (Or.inr ⟨_, rfl, rfl⟩) T7 _ (by rw [copyLocs_step, ← List.append_assoc]; exact X7) (pl.trans p7) (fl.step (by omega) hlt (by simp)) c10
  obtain ⟨T9, B9, z9, X9, p9, f9, g9⟩ := loop len 0 (by omega) .unset (Or.inl rfl) s₁ B (by simpa [copyLocs] using X0) ⟨hB0.1, fun _ _ => rfl, rfl⟩ (Laid.zero _ _ _) c2
  have c11 : Steps p.tables e below (s₁.setTop (entryFrame m #[.ref b, .int (Int32.ofNat o), .ref d, .int (Int32.ofNat q), .int (Int32.ofNat len)] 7)) (T9.setTop (mkF m 46 #[.val (.ref b), .val (.int (Int32.ofNat (o + len))), .val (.ref d), .val (.int (Int32.ofNat (q + len))), .val (.int (Int32.ofNat len)), .val (.int (Int32.ofNat len)), z9] [.int (Int32.ofNat len)])) := g9.trans (by
    refine XS.iload X9.here hexec rfl (hb hbytes d3) rfl ?_
    refine XS.iload X9.here hexec rfl (hb hbytes d5) rfl ?_
    refine XS.icmpYes X9.here hexec rfl (pc0 := 7) rfl (hb hbytes d7) rfl (ii_ge_t (nlt32 (by omega) (Nat.le_refl _))) (by decide) rfl ?_
    refine XS.iload X9.here hexec rfl (hb hbytes d44) rfl ?_
    exact Steps.refl _)
  exact ⟨T9, some (.int (Int32.ofNat len)), _, _, _, X9, by simp, rfl, rfl, (fun h => by cases h), ⟨rfl, B9, p9.from hh0, f9⟩, fun fs hl => c11.trans (X9.ireturnOut hexec hret rfl (Or.inl rfl) (hb hbytes d46) hl)⟩
end Cmp5
namespace Cmp3
def yN : MethodName := ⟨"java/lang/StringUTF16", "compress", "([CII)[B"⟩
abbrev yB : ByteArray := jdk_52_method_16_code
theorem d0 : decode yB 0 = .ok (.iload_n 2, 1) := by decide +kernel
theorem d1 : decode yB 1 = .ok (.newarray .byte, 2) := by decide +kernel
theorem d3 : decode yB 3 = .ok (.astore_n 3, 1) := by decide +kernel
theorem d4 : decode yB 4 = .ok (.aload_n 0, 1) := by decide +kernel
theorem d5 : decode yB 5 = .ok (.iload_n 1, 1) := by decide +kernel
theorem d6 : decode yB 6 = .ok (.aload_n 3, 1) := by decide +kernel
theorem d7 : decode yB 7 = .ok (.iconst 0, 1) := by decide +kernel
theorem d8 : decode yB 8 = .ok (.iload_n 2, 1) := by decide +kernel
theorem d9 : decode yB 9 = .ok (.invokestatic 115, 3) := by decide +kernel
theorem d12 : decode yB 12 = .ok (.istore 4, 2) := by decide +kernel
theorem d14 : decode yB 14 = .ok (.iload 4, 2) := by decide +kernel
theorem d16 : decode yB 16 = .ok (.iload_n 2, 1) := by decide +kernel
theorem d17 : decode yB 17 = .ok (.if_icmp (.eq) 40, 3) := by decide +kernel
theorem d57 : decode yB 57 = .ok (.aload_n 3, 1) := by decide +kernel
theorem d58 : decode yB 58 = .ok (.areturn, 1) := by decide +kernel
def site : List Cond := [.arrayClass .byte, Cmp5.tab] ++ staticW U16 115 Cmp5.yN
def tab : Cond := tabOf yN yB 6 (some (.array .byte)) site
def P (b : Addr) (A : Cell) (o len : Nat) (args : Array Value) (s : State) : Prop := args = #[.ref b, .int (Int32.ofNat o), .int (Int32.ofNat len)] ∧ Ch b A s ∧ o + len ≤ A.slots.size ∧ len ≤ 536870912 ∧ ∀ i, i < len → ¬ 255 < cv A (o + i)
def E (b : Addr) (A : Cell) (o len : Nat) (r : Option Value) (s u : State) : Prop := NewArr .byte "[B" len (fun j => .int (lo8 (cv A (o + j)))) r s u ∧ u.heap.size = s.heap.size + 1
/-- no char of the range above 255: a new byte[] of their low bytes -/
theorem law (l : Launch) (b : Addr) (A : Cell) (o len : Nat) : Law l yN 3 3 1 18 yB 6 (some (.array .byte)) site (P b A o len) (E b A o len) [] 1 len := by
  refine Law.of_walk (plainFor_of_name (by decide +kernel)) (by decide +kernel) (by decide +kernel) (by decide) (fun _ _ h => by rw [h.1]; rfl) (fun _ U U' hal hh h => ⟨h.1, h.2.1.mv hal hh, h.2.2⟩) (fun r U U' V V' h1 hal h2 h => ⟨NewArr.mv r U U' V V' h1 hal h2 h.1, by rw [h1, h2]; exact h.2⟩) ?_
  intro p e s m args below meth c s₁ X0 hexec hbytes hml hret hlk hnm hown hh0 W hP
  obtain ⟨rfl, hA, l1, l2, hp⟩ := hP
  have a31 := hA.1.2.2.2
  have c1 : Steps p.tables e below (s₁.setTop (entryFrame m #[.ref b, .int (Int32.ofNat o), .int (Int32.ofNat len)] 6)) (s₁.setTop (mkF m 0 #[.val (.ref b), .val (.int (Int32.ofNat o)), .val (.int (Int32.ofNat len)), .unset, .unset, .unset] [])) := entry rfl
  have c2 : Steps p.tables e below (s₁.setTop (entryFrame m #[.ref b, .int (Int32.ofNat o), .int (Int32.ofNat len)] 6)) (s₁.setTop (mkF m 1 #[.val (.ref b), .val (.int (Int32.ofNat o)), .val (.int (Int32.ofNat len)), .unset, .unset, .unset] [.int (Int32.ofNat len)])) := c1.trans (by
    refine XS.iloadN X0.here hexec rfl (hb hbytes d0) rfl ?_
    exact Steps.refl _)
  obtain ⟨T3, B3, X3, ba3, bs3, bv3, bh3, bf3, st3⟩ := X0.anew hexec (atype := .byte) (wk W (.arrayClass .byte)) rfl (by show len * 1 ≤ _; omega) (by omega) (g := (mkF m 1 #[.val (.ref b), .val (.int (Int32.ofNat o)), .val (.int (Int32.ofNat len)), .unset, .unset, .unset] [.int (Int32.ofNat len)])) rfl (hb hbytes d1) (rest := []) rfl (Nat.le_refl _) (by show 0 + len ≤ len; omega)
  rw [hh0] at ba3 st3
  have kp3 : XT.Kept s T3 := (XT.Kept.of_eq hh0).push bh3
  have hA3 := hA.keep X3.warmed.alike (kp3 _ _ hA.1.1)
  have hne : b ≠ s.heap.size := hA.1.ne
  have c4 : Steps p.tables e below (s₁.setTop (entryFrame m #[.ref b, .int (Int32.ofNat o), .int (Int32.ofNat len)] 6)) (T3.setTop (mkF m 3 #[.val (.ref b), .val (.int (Int32.ofNat o)), .val (.int (Int32.ofNat len)), .unset, .unset, .unset] [.ref s.heap.size])) := c2.trans (st3 _ (Steps.refl _))
  have c5 : Steps p.tables e below (s₁.setTop (entryFrame m #[.ref b, .int (Int32.ofNat o), .int (Int32.ofNat len)] 6)) (T3.setTop (mkF m 9 #[.val (.ref b), .val (.int (Int32.ofNat o)), .val (.int (Int32.ofNat len)), .val (.ref s.heap.size), .unset, .unset] [.int (Int32.ofNat len), .int 0, .ref s.heap.size, .int (Int32.ofNat o), .ref b])) := c4.trans (by
    refine XS.astoreN X3.here hexec rfl (hb hbytes d3) rfl rfl rfl ?_
    refine XS.aloadN X3.here hexec rfl (hb hbytes d4) rfl rfl ?_
    refine XS.iloadN X3.here hexec rfl (hb hbytes d5) rfl ?_
    refine XS.aloadN X3.here hexec rfl (hb hbytes d6) rfl rfl ?_
    refine iconstV X3.here hexec rfl 0 (hb hbytes d7) (by decide) ?_
    refine XS.iloadN X3.here hexec rfl (hb hbytes d8) rfl ?_
    exact Steps.refl _)
  obtain ⟨v6, T6, X6, E6, g6⟩ := X3.callS hexec (Cmp5.law l b A s.heap.size B3 o 0 len) hown (wks W (staticW U16 115 Cmp5.yN)) (wk W Cmp5.tab) (W := 0) (Nat.le_of_ble_eq_true rfl) (Nat.le_of_ble_eq_true rfl) (Nat.le_refl _) (by show 0 + len + 0 ≤ len; omega) (g := (mkF m 9 #[.val (.ref b), .val (.int (Int32.ofNat o)), .val (.int (Int32.ofNat len)), .val (.ref s.heap.size), .unset, .unset] [.int (Int32.ofNat len), .int (Int32.ofNat 0), .ref s.heap.size, .int (Int32.ofNat o), .ref b])) rfl (by rw [hml]; rfl) c5 (argsL := [.ref b, .int (Int32.ofNat o), .ref s.heap.size, .int (Int32.ofNat 0), .int (Int32.ofNat len)]) (rest := []) rfl rfl (by show 2 * 0 + 0 ≤ _; decide) (hb hbytes d9) (⟨rfl, hA3, ba3, hne, l1, by rw [bs3]; simp, hp⟩)
  obtain ⟨rfl, B6, p6, f6⟩ := E6
  have c7 : Steps p.tables e below (s₁.setTop (entryFrame m #[.ref b, .int (Int32.ofNat o), .int (Int32.ofNat len)] 6)) (T6.setTop (mkF m 12 #[.val (.ref b), .val (.int (Int32.ofNat o)), .val (.int (Int32.ofNat len)), .val (.ref s.heap.size), .unset, .unset] [.int (Int32.ofNat len)])) := g6
  have c8 : Steps p.tables e below (s₁.setTop (entryFrame m #[.ref b, .int (Int32.ofNat o), .int (Int32.ofNat len)] 6)) (T6.setTop (mkF m 58 #[.val (.ref b), .val (.int (Int32.ofNat o)), .val (.int (Int32.ofNat len)), .val (.ref s.heap.size), .val (.int (Int32.ofNat len)), .unset] [.ref s.heap.size])) := c7.trans (by
    refine XS.istore X6.here hexec rfl (hb hbytes d12) rfl rfl ?_
    refine XS.iload X6.here hexec rfl (hb hbytes d14) rfl ?_
    refine XS.iloadN X6.here hexec rfl (hb hbytes d16) rfl ?_
    refine XS.icmpYes X6.here hexec rfl (pc0 := 17) rfl (hb hbytes d17) rfl (ii_eq_t rfl) (by decide) rfl ?_
    refine XS.aloadN X6.here hexec rfl (hb hbytes d57) rfl rfl ?_
    exact Steps.refl _)
  have X8 := X6.wide (L' := []) (cells' := 1) (slots' := len) (fun x hx hlt => by
    simp only [List.nil_append, copyLocs, List.mem_map, List.mem_range] at hx
    obtain ⟨i, -, rfl⟩ := hx
    exact absurd hlt (Nat.lt_irrefl _)) (Nat.le_refl _) (by omega)
  exact ⟨T6, some (.ref s.heap.size), _, _, _, X8, rfl, rfl, rfl, (fun h => by cases h), ⟨⟨rfl, B6, ba3.like (X3.warmed.alike.symm.trans X6.warmed.alike) p6.1 f6.1 f6.2.1 f6.2.2.1, f6.2.1.trans bv3, by rw [X6.warmed.alike.findClass, f6.1]; exact bf3, by rw [f6.2.2.1, bs3]; simp, fun j hj => by rw [f6.2.2.2 j, if_pos (by omega)]; rfl, kp3.put p6 (Nat.le_refl _)⟩, by rw [p6.2.2, bh3, hh0]; simp⟩, fun fs hl => c8.trans (X8.areturnOut hexec rfl hret rfl (hb hbytes d58) hl)⟩
end Cmp3
namespace CodL
def yN : MethodName := ⟨"java/lang/StringUTF16", "coderFromArrayLen", "([BI)B"⟩
abbrev yB : ByteArray := jdk_52_method_15_code
theorem d0 : decode yB 0 = .ok (.iload_n 1, 1) := by decide +kernel
theorem d1 : decode yB 1 = .ok (.aload_n 0, 1) := by decide +kernel
theorem d2 : decode yB 2 = .ok (.arraylength, 1) := by decide +kernel
theorem d3 : decode yB 3 = .ok (.isub, 1) := by decide +kernel
theorem d4 : decode yB 4 = .ok (.bipush 31, 2) := by decide +kernel
theorem d6 : decode yB 6 = .ok (.iushr, 1) := by decide +kernel
theorem d7 : decode yB 7 = .ok (.i2b, 1) := by decide +kernel
theorem d8 : decode yB 8 = .ok (.ireturn, 1) := by decide +kernel
def site : List Cond := []
def tab : Cond := tabOf yN yB 2 (some .byte) site
def P (d : Addr) (B : Cell) (args : Array Value) (s : State) : Prop := args = #[.ref d, .int (Int32.ofNat B.slots.size)] ∧ Arr .byte d B s
def E (r : Option Value) (s u : State) : Prop := XT.PureE (some (.int 0)) r s u
/-- an array as long as the number of chars: LATIN1 -/
theorem law (l : Launch) (d : Addr) (B : Cell) : Law l yN 2 2 0 0 yB 2 (some .byte) site (P d B) E [] 0 0 := by
  refine Law.of_walk (plainFor_of_name (by decide +kernel)) (by decide +kernel) (by decide +kernel) (by decide) (fun _ _ h => by rw [h.1]; rfl) (fun _ U U' hal hh h => ⟨h.1, h.2.mv hal hh⟩) (fun r U U' V V' h1 hal h2 h => XT.PureE.mv r U U' V V' h1 hal h2 h) ?_
  intro p e s m args below meth c s₁ X0 hexec hbytes hml hret hlk hnm hown hh0 W hP
  obtain ⟨rfl, hB⟩ := hP
  have hB0 := hB.mv X0.warmed.alike hh0
  have c1 : Steps p.tables e below (s₁.setTop (entryFrame m #[.ref d, .int (Int32.ofNat B.slots.size)] 2)) (s₁.setTop (mkF m 0 #[.val (.ref d), .val (.int (Int32.ofNat B.slots.size))] [])) := entry rfl
  have c2 : Steps p.tables e below (s₁.setTop (entryFrame m #[.ref d, .int (Int32.ofNat B.slots.size)] 2)) (s₁.setTop (mkF m 2 #[.val (.ref d), .val (.int (Int32.ofNat B.slots.size))] [.ref d, .int (Int32.ofNat B.slots.size)])) := c1.trans (by
    refine XS.iloadN X0.here hexec rfl (hb hbytes d0) rfl ?_
    refine XS.aloadN X0.here hexec rfl (hb hbytes d1) rfl rfl ?_
    exact Steps.refl _)
  have c3 : Steps p.tables e below (s₁.setTop (entryFrame m #[.ref d, .int (Int32.ofNat B.slots.size)] 2)) (s₁.setTop (mkF m 8 #[.val (.ref d), .val (.int (Int32.ofNat B.slots.size))] [.int (lo8 (ushr (Int32.ofNat B.slots.size - Int32.ofNat B.slots.size) 31))])) := c2.trans (by
    refine X0.alen hexec hB0 rfl rfl (hb hbytes d2) ?_
    refine XS.isub X0.here hexec rfl (hb hbytes d3) rfl ?_
    refine bipushV X0.here hexec rfl 31 (hb hbytes d4) (by decide) ?_
    refine iushr X0.here hexec rfl (hb hbytes d6) rfl ?_
    refine i2b X0.here hexec rfl (hb hbytes d7) rfl ?_
    exact Steps.refl _)
  have e0 : lo8 (ushr (Int32.ofNat B.slots.size - Int32.ofNat B.slots.size) 31) = 0 := by rw [Int32.sub_self]; decide
  rw [e0] at c3
  exact ⟨s₁, some (.int 0), _, _, _, X0, rfl, rfl, rfl, (fun h => by cases h), ⟨rfl, hh0⟩, fun fs hl => c3.trans (X0.ireturnOut hexec hret rfl (Or.inr (Or.inr (Or.inl rfl))) (hb hbytes d8) hl)⟩
end CodL
/-- the String at a is Latin-1 over a new byte[] (the heap's one new cell): the low bytes of the len chars of A from o on; every cell but a is kept -/
def Got (a : Addr) (D : Cell) (fV fC : Field) (A : Cell) (o len : Nat) (r : Option Value) (s u : State) : Prop := r = none ∧ ∃ D' V : Cell, Blank "java/lang/String" a D' u ∧ Same D D' [fV.slot, fC.slot] ∧ D'.slots[fV.slot]? = some (.ref s.heap.size) ∧ D'.slots[fC.slot]? = some (.int 0) ∧ Arr .byte s.heap.size V u ∧ V.vm = .none ∧ u.vm.findClass "[B" = some V.cls ∧ V.slots.size = len ∧ (∀ j, j < len → V.slots[j]? = some (.int (lo8 (cv A (o + j))))) ∧ (∀ (y : Addr) (c : Cell), y ≠ a → s.heap[y]? = some c → u.heap[y]? = some c) ∧ u.heap.size = s.heap.size + 1
theorem Got.mv {a : Addr} {D A : Cell} {fV fC : Field} {o len : Nat} : ∀ r (U U' V V' : State), U'.heap = U.heap → V.vm.Alike V'.vm → V'.heap = V.heap → Got a D fV fC A o len r U V → Got a D fV fC A o len r U' V' :=
  fun r U U' V V' h1 hal h2 ⟨e0, D', X, a1, a2, a3, a4, a5, a6, a7, a8, a9, a10, a11⟩ => ⟨e0, D', X, a1.mv hal h2, a2, by rw [h1]; exact a3, a4, by rw [h1]; exact a5.mv hal h2, a6, by rw [hal.findClass]; exact a7, a8, a9, by rw [h1, h2]; exact a10, by rw [h1, h2]; exact a11⟩
namespace New4
def yN : MethodName := ⟨"java/lang/String", "<init>", "([CIILjava/lang/Void;)V"⟩
abbrev yB : ByteArray := jdk_42_method_149_code
theorem d0 : decode yB 0 = .ok (.aload_n 0, 1) := by decide +kernel
theorem d1 : decode yB 1 = .ok (.invokespecial 1, 3) := by decide +kernel
theorem d4 : decode yB 4 = .ok (.iload_n 3, 1) := by decide +kernel
theorem d5 : decode yB 5 = .ok (.ifCond (.ne) 22, 3) := by decide +kernel
theorem d27 : decode yB 27 = .ok (.getstatic 38, 3) := by decide +kernel
theorem d30 : decode yB 30 = .ok (.ifCond (.eq) 28, 3) := by decide +kernel
theorem d33 : decode yB 33 = .ok (.aload_n 1, 1) := by decide +kernel
theorem d34 : decode yB 34 = .ok (.iload_n 2, 1) := by decide +kernel
theorem d35 : decode yB 35 = .ok (.iload_n 3, 1) := by decide +kernel
theorem d36 : decode yB 36 = .ok (.invokestatic 177, 3) := by decide +kernel
theorem d39 : decode yB 39 = .ok (.astore 5, 2) := by decide +kernel
theorem d41 : decode yB 41 = .ok (.aload_n 0, 1) := by decide +kernel
theorem d42 : decode yB 42 = .ok (.aload 5, 2) := by decide +kernel
theorem d44 : decode yB 44 = .ok (.iload_n 3, 1) := by decide +kernel
theorem d45 : decode yB 45 = .ok (.invokestatic 47, 3) := by decide +kernel
theorem d48 : decode yB 48 = .ok (.putfield 15, 3) := by decide +kernel
theorem d51 : decode yB 51 = .ok (.aload_n 0, 1) := by decide +kernel
theorem d52 : decode yB 52 = .ok (.aload 5, 2) := by decide +kernel
theorem d54 : decode yB 54 = .ok (.putfield 9, 3) := by decide +kernel
theorem d57 : decode yB 57 = .ok (.return_, 1) := by decide +kernel
def site : List Cond := [.fieldLink "java/lang/String" 38 "java/lang/String" "COMPACT_STRINGS" "Z", Cmp3.tab, CodL.tab, .laysFinal "java/lang/String" "java/lang/String" "value" "[B", .fieldLink "java/lang/String" 9 "java/lang/String" "value" "[B", .laysFinal "java/lang/String" "java/lang/String" "coder" "B", .fieldLink "java/lang/String" 15 "java/lang/String" "coder" "B"] ++ objW "java/lang/String" 1 ++ staticW "java/lang/String" 177 Cmp3.yN ++ staticW "java/lang/String" 47 CodL.yN
def tab : Cond := tabOf yN yB 6 none site
def P (a : Addr) (D : Cell) (fV fC : Field) (b : Addr) (A : Cell) (z : Int32) (o len : Nat) (args : Array Value) (s : State) : Prop := args = #[.ref a, .ref b, .int (Int32.ofNat o), .int (Int32.ofNat len), .null] ∧ Blank "java/lang/String" a D s ∧ Found "java/lang/String" "value" "[B" fV s ∧ Found "java/lang/String" "coder" "B" fC s ∧ Ch b A s ∧ StaticIs s "java/lang/String" "COMPACT_STRINGS" "Z" (.int z) ∧ ¬ z = 0 ∧ 0 < len ∧ o + len ≤ A.slots.size ∧ len ≤ 536870912 ∧ ∀ i, i < len → ¬ 255 < cv A (o + i)
def E (a : Addr) (D : Cell) (fV fC : Field) (A : Cell) (o len : Nat) (r : Option Value) (s u : State) : Prop := Got a D fV fC A o len r s u
/-- len > 0, no char of the range above 255: a Latin-1 String of their low bytes -/
theorem law (l : Launch) (a : Addr) (D : Cell) (fV fC : Field) (b : Addr) (A : Cell) (z : Int32) (o len : Nat) : Law l yN 5 4 2 35 yB 6 none site (P a D fV fC b A z o len) (E a D fV fC A o len) [⟨a, fC.slot⟩, ⟨a, fV.slot⟩] 1 len := by
  refine Law.of_walk (plainFor_of_name (by decide +kernel)) (by decide +kernel) (by decide +kernel) (by decide) (fun _ _ h => by rw [h.1]; rfl) (fun _ U U' hal hh h => ⟨h.1, h.2.1.mv hal hh, h.2.2.1.al hal, h.2.2.2.1.al hal, h.2.2.2.2.1.mv hal hh, h.2.2.2.2.2.1.there hal hh, h.2.2.2.2.2.2⟩) (fun r U U' V V' h1 hal h2 h => Got.mv r U U' V V' h1 hal h2 h) ?_
  intro p e s m args below meth c s₁ X0 hexec hbytes hml hret hlk hnm hown hh0 W hP
  obtain ⟨rfl, hB, f1, f2, hA, s1, hz, l0, l1, l2, hp⟩ := hP
  have a31 := hA.1.2.2.2
  have c1 : Steps p.tables e below (s₁.setTop (entryFrame m #[.ref a, .ref b, .int (Int32.ofNat o), .int (Int32.ofNat len), .null] 6)) (s₁.setTop (mkF m 0 #[.val (.ref a), .val (.ref b), .val (.int (Int32.ofNat o)), .val (.int (Int32.ofNat len)), .val .null, .unset] [])) := entry rfl
  have c2 : Steps p.tables e below (s₁.setTop (entryFrame m #[.ref a, .ref b, .int (Int32.ofNat o), .int (Int32.ofNat len), .null] 6)) (s₁.setTop (mkF m 1 #[.val (.ref a), .val (.ref b), .val (.int (Int32.ofNat o)), .val (.int (Int32.ofNat len)), .val .null, .unset] [.ref a])) := c1.trans (by
    refine XS.aloadN X0.here hexec rfl (hb hbytes d0) rfl rfl ?_
    exact Steps.refl _)
  obtain ⟨T3, X3, q3, st3⟩ := X0.oinit hexec hown (wks W (objW "java/lang/String" 1)) (g := (mkF m 1 #[.val (.ref a), .val (.ref b), .val (.int (Int32.ofNat o)), .val (.int (Int32.ofNat len)), .val .null, .unset] [.ref a])) rfl (by rw [hml]; rfl) (rest := []) rfl (hb hbytes d1) (W := 0) (by show 2 * 0 + 0 ≤ _; decide) (Nat.le_of_ble_eq_true rfl) (Nat.le_of_ble_eq_true rfl)
  have hh3 := q3.trans hh0
  have c4 : Steps p.tables e below (s₁.setTop (entryFrame m #[.ref a, .ref b, .int (Int32.ofNat o), .int (Int32.ofNat len), .null] 6)) (T3.setTop (mkF m 27 #[.val (.ref a), .val (.ref b), .val (.int (Int32.ofNat o)), .val (.int (Int32.ofNat len)), .val .null, .unset] [])) := (c2.trans (st3 _ (Steps.refl _))).trans (by
    refine XS.iloadN X3.here hexec rfl (hb hbytes d4) rfl ?_
    refine XS.ifYes X3.here hexec rfl (pc0 := 5) rfl (hb hbytes d5) rfl (i0_ne_t (nz32 (by omega) l0)) (by decide) rfl ?_
    exact Steps.refl _)
  obtain ⟨T5, X5, q5, st5⟩ := X3.sget hexec hown (wk W (.fieldLink "java/lang/String" 38 "java/lang/String" "COMPACT_STRINGS" "Z")) s1 (fun _ _ h => by rw [hh3]; exact h) (g := (mkF m 27 #[.val (.ref a), .val (.ref b), .val (.int (Int32.ofNat o)), .val (.int (Int32.ofNat len)), .val .null, .unset] [])) rfl (hb hbytes d27)
  have hh5 := q5.trans hh3
  have c6 : Steps p.tables e below (s₁.setTop (entryFrame m #[.ref a, .ref b, .int (Int32.ofNat o), .int (Int32.ofNat len), .null] 6)) (T5.setTop (mkF m 30 #[.val (.ref a), .val (.ref b), .val (.int (Int32.ofNat o)), .val (.int (Int32.ofNat len)), .val .null, .unset] [.int z])) := c4.trans (st5 _ (Steps.refl _))
  have c7 : Steps p.tables e below (s₁.setTop (entryFrame m #[.ref a, .ref b, .int (Int32.ofNat o), .int (Int32.ofNat len), .null] 6)) (T5.setTop (mkF m 36 #[.val (.ref a), .val (.ref b), .val (.int (Int32.ofNat o)), .val (.int (Int32.ofNat len)), .val .null, .unset] [.int (Int32.ofNat len), .int (Int32.ofNat o), .ref b])) := c6.trans (by
    refine XS.ifNo X5.here hexec rfl (hb hbytes d30) rfl (i0_eq_f hz) ?_
    refine XS.aloadN X5.here hexec rfl (hb hbytes d33) rfl rfl ?_
    refine XS.iloadN X5.here hexec rfl (hb hbytes d34) rfl ?_
    refine XS.iloadN X5.here hexec rfl (hb hbytes d35) rfl ?_
    exact Steps.refl _)
  obtain ⟨v8, T8, X8, E8, g8⟩ := X5.callS hexec (Cmp3.law l b A o len) hown (wks W (staticW "java/lang/String" 177 Cmp3.yN)) (wk W Cmp3.tab) (W := 0) (Nat.le_of_ble_eq_true rfl) (Nat.le_of_ble_eq_true rfl) (Nat.le_refl _) (by show 0 + len ≤ len; omega) (g := (mkF m 36 #[.val (.ref a), .val (.ref b), .val (.int (Int32.ofNat o)), .val (.int (Int32.ofNat len)), .val .null, .unset] [.int (Int32.ofNat len), .int (Int32.ofNat o), .ref b])) rfl (by rw [hml]; rfl) c7 (argsL := [.ref b, .int (Int32.ofNat o), .int (Int32.ofNat len)]) (rest := []) rfl rfl (by show 2 * 0 + 0 ≤ _; decide) (hb hbytes d36) (⟨rfl, hA.mv X5.warmed.alike hh5, l1, l2, hp⟩)
  obtain ⟨e8, z8⟩ := E8
  obtain ⟨rfl, N, n1, n2, n3, n4, n5, n6⟩ := NewArr.mv _ T5 s _ _ hh5.symm (Vm.Alike.refl _) rfl e8
  rw [hh5] at z8
  have hB1 := hB.keep X8.warmed.alike (n6 _ _ hB.1)
  have hne : s.heap.size ≠ a := (Nat.ne_of_lt (Array.getElem?_eq_some_iff.mp hB.1).1).symm
  have c9 : Steps p.tables e below (s₁.setTop (entryFrame m #[.ref a, .ref b, .int (Int32.ofNat o), .int (Int32.ofNat len), .null] 6)) (T8.setTop (mkF m 39 #[.val (.ref a), .val (.ref b), .val (.int (Int32.ofNat o)), .val (.int (Int32.ofNat len)), .val .null, .unset] [.ref s.heap.size])) := g8
  have c10 : Steps p.tables e below (s₁.setTop (entryFrame m #[.ref a, .ref b, .int (Int32.ofNat o), .int (Int32.ofNat len), .null] 6)) (T8.setTop (mkF m 45 #[.val (.ref a), .val (.ref b), .val (.int (Int32.ofNat o)), .val (.int (Int32.ofNat len)), .val .null, .val (.ref s.heap.size)] [.int (Int32.ofNat N.slots.size), .ref s.heap.size, .ref a])) := by
    have hc : Steps p.tables e below (s₁.setTop (entryFrame m #[.ref a, .ref b, .int (Int32.ofNat o), .int (Int32.ofNat len), .null] 6)) (T8.setTop (mkF m 45 #[.val (.ref a), .val (.ref b), .val (.int (Int32.ofNat o)), .val (.int (Int32.ofNat len)), .val .null, .val (.ref s.heap.size)] [.int (Int32.ofNat len), .ref s.heap.size, .ref a])) := c9.trans (by
      refine XS.astore X8.here hexec rfl (hb hbytes d39) rfl rfl rfl ?_
      refine XS.aloadN X8.here hexec rfl (hb hbytes d41) rfl rfl ?_
      refine XS.aload X8.here hexec rfl (hb hbytes d42) rfl rfl ?_
      refine XS.iloadN X8.here hexec rfl (hb hbytes d44) rfl ?_
      exact Steps.refl _)
    rw [n4]; exact hc
  obtain ⟨v11, T11, X11, E11, g11⟩ := X8.callS hexec (CodL.law l s.heap.size N) hown (wks W (staticW "java/lang/String" 47 CodL.yN)) (wk W CodL.tab) (W := 1) (Nat.le_of_ble_eq_true rfl) (Nat.le_of_ble_eq_true rfl) (Nat.le_refl _) (by show 0 + len + 0 ≤ len; omega) (g := (mkF m 45 #[.val (.ref a), .val (.ref b), .val (.int (Int32.ofNat o)), .val (.int (Int32.ofNat len)), .val .null, .val (.ref s.heap.size)] [.int (Int32.ofNat N.slots.size), .ref s.heap.size, .ref a])) rfl (by rw [hml]; rfl) c10 (argsL := [.ref s.heap.size, .int (Int32.ofNat N.slots.size)]) (rest := [.ref a]) rfl rfl (by show 2 * 0 + (1 + 0) ≤ _; decide) (hb hbytes d45) (⟨rfl, n1⟩)
  obtain ⟨rfl, q11⟩ := E11
  have hB11 := hB1.mv (X8.warmed.alike.symm.trans X11.warmed.alike) q11
  have c12 : Steps p.tables e below (s₁.setTop (entryFrame m #[.ref a, .ref b, .int (Int32.ofNat o), .int (Int32.ofNat len), .null] 6)) (T11.setTop (mkF m 48 #[.val (.ref a), .val (.ref b), .val (.int (Int32.ofNat o)), .val (.int (Int32.ofNat len)), .val .null, .val (.ref s.heap.size)] [.int 0, .ref a])) := g11
  obtain ⟨T13, X13, p13, bl13, sl13, st13⟩ := X11.finit hexec hown (wk W (.fieldLink "java/lang/String" 15 "java/lang/String" "coder" "B")) (Or.inr ⟨_, (wk W (.laysFinal "java/lang/String" "java/lang/String" "coder" "B"))⟩) (Or.inl ⟨rfl, hnm⟩) f2 (Or.inl rfl) hB11 (t := .byte) (by decide +kernel) rfl (g := (mkF m 48 #[.val (.ref a), .val (.ref b), .val (.int (Int32.ofNat o)), .val (.int (Int32.ofNat len)), .val .null, .val (.ref s.heap.size)] [.int 0, .ref a])) rfl (rest := []) rfl (hb hbytes d48)
  have c14 : Steps p.tables e below (s₁.setTop (entryFrame m #[.ref a, .ref b, .int (Int32.ofNat o), .int (Int32.ofNat len), .null] 6)) (T13.setTop (mkF m 54 #[.val (.ref a), .val (.ref b), .val (.int (Int32.ofNat o)), .val (.int (Int32.ofNat len)), .val .null, .val (.ref s.heap.size)] [.ref s.heap.size, .ref a])) := (c12.trans (st13 _ (Steps.refl _))).trans (by
    refine XS.aloadN X13.here hexec rfl (hb hbytes d51) rfl rfl ?_
    refine XS.aload X13.here hexec rfl (hb hbytes d52) rfl rfl ?_
    exact Steps.refl _)
  obtain ⟨T15, X15, p15, bl15, sl15, st15⟩ := X13.finit hexec hown (wk W (.fieldLink "java/lang/String" 9 "java/lang/String" "value" "[B")) (Or.inr ⟨_, (wk W (.laysFinal "java/lang/String" "java/lang/String" "value" "[B"))⟩) (Or.inl ⟨rfl, hnm⟩) f1 (Or.inl rfl) bl13 (t := (.array .byte)) (by decide +kernel) rfl (g := (mkF m 54 #[.val (.ref a), .val (.ref b), .val (.int (Int32.ofNat o)), .val (.int (Int32.ofNat len)), .val .null, .val (.ref s.heap.size)] [.ref s.heap.size, .ref a])) rfl (rest := []) rfl (hb hbytes d54)
  have c16 : Steps p.tables e below (s₁.setTop (entryFrame m #[.ref a, .ref b, .int (Int32.ofNat o), .int (Int32.ofNat len), .null] 6)) (T15.setTop (mkF m 57 #[.val (.ref a), .val (.ref b), .val (.int (Int32.ofNat o)), .val (.int (Int32.ofNat len)), .val .null, .val (.ref s.heap.size)] [])) := c14.trans (st15 _ (Steps.refl _))
  have ap := apart (Or.inr ⟨_, (wk W (.laysFinal "java/lang/String" "java/lang/String" "value" "[B"))⟩) (Or.inr ⟨_, (wk W (.laysFinal "java/lang/String" "java/lang/String" "coder" "B"))⟩) f1 f2 (t₁ := .array .byte) (t₂ := .byte) (by decide +kernel) (by decide +kernel) (by decide)
  have al := X8.warmed.alike.symm.trans X15.warmed.alike
  have n7 : T11.heap[s.heap.size]? = some N := by rw [q11]; exact n1.1
  exact ⟨T15, none, _, _, _, X15, by simp, rfl, by omega, (fun _ => rfl), ⟨rfl, _, N, bl15, ((Same.refl D _).set _ (by simp)).set _ (by simp), sl15, (Cell.slots_setSlot_ne _ ap).trans sl13, n1.keep al (p15.other hne (p13.other hne n7)), n2, by rw [al.findClass]; exact n3, n4, n5, fun y c h1 h2 => p15.other h1 (p13.other h1 (by rw [q11]; exact n6 y c h2)), by rw [p15.2.2, p13.2.2, q11]; exact z8⟩, fun fs hl => c16.trans (X15.returnOut hexec hret (hb hbytes d57) hl)⟩
end New4
namespace New1
def yN : MethodName := ⟨"java/lang/String", "<init>", "([C)V"⟩
abbrev yB : ByteArray := jdk_42_method_3_code
theorem d0 : decode yB 0 = .ok (.aload_n 0, 1) := by decide +kernel
theorem d1 : decode yB 1 = .ok (.aload_n 1, 1) := by decide +kernel
theorem d2 : decode yB 2 = .ok (.iconst 0, 1) := by decide +kernel
theorem d3 : decode yB 3 = .ok (.aload_n 1, 1) := by decide +kernel
theorem d4 : decode yB 4 = .ok (.arraylength, 1) := by decide +kernel
theorem d5 : decode yB 5 = .ok (.aconst_null, 1) := by decide +kernel
theorem d6 : decode yB 6 = .ok (.invokespecial 27, 3) := by decide +kernel
theorem d9 : decode yB 9 = .ok (.return_, 1) := by decide +kernel
def site : List Cond := [New4.tab] ++ initW "java/lang/String" 27 New4.yN
def tab : Cond := tabOf yN yB 2 none site
def P (a : Addr) (D : Cell) (fV fC : Field) (b : Addr) (A : Cell) (z : Int32) (args : Array Value) (s : State) : Prop := args = #[.ref a, .ref b] ∧ Blank "java/lang/String" a D s ∧ Found "java/lang/String" "value" "[B" fV s ∧ Found "java/lang/String" "coder" "B" fC s ∧ Ch b A s ∧ StaticIs s "java/lang/String" "COMPACT_STRINGS" "Z" (.int z) ∧ ¬ z = 0 ∧ 0 < A.slots.size ∧ A.slots.size ≤ 536870912 ∧ ∀ i, i < A.slots.size → ¬ 255 < cv A i
def E (a : Addr) (D : Cell) (fV fC : Field) (A : Cell) (r : Option Value) (s u : State) : Prop := Got a D fV fC A 0 A.slots.size r s u
/-- new String(chars), not empty, no char above 255: a Latin-1 String of their low bytes -/
theorem law (l : Launch) (a : Addr) (D : Cell) (fV fC : Field) (b : Addr) (A : Cell) (z : Int32) : Law l yN 2 1 3 52 yB 2 none site (P a D fV fC b A z) (E a D fV fC A) [⟨a, fC.slot⟩, ⟨a, fV.slot⟩] 1 A.slots.size := by
  refine Law.of_walk (plainFor_of_name (by decide +kernel)) (by decide +kernel) (by decide +kernel) (by decide) (fun _ _ h => by rw [h.1]; rfl) (fun _ U U' hal hh h => ⟨h.1, h.2.1.mv hal hh, h.2.2.1.al hal, h.2.2.2.1.al hal, h.2.2.2.2.1.mv hal hh, h.2.2.2.2.2.1.there hal hh, h.2.2.2.2.2.2⟩) (fun r U U' V V' h1 hal h2 h => Got.mv r U U' V V' h1 hal h2 h) ?_
  intro p e s m args below meth c s₁ X0 hexec hbytes hml hret hlk hnm hown hh0 W hP
  obtain ⟨rfl, hB, f1, f2, hA, s1, hz, l0, l2, hp⟩ := hP
  have c1 : Steps p.tables e below (s₁.setTop (entryFrame m #[.ref a, .ref b] 2)) (s₁.setTop (mkF m 0 #[.val (.ref a), .val (.ref b)] [])) := entry rfl
  have c2 : Steps p.tables e below (s₁.setTop (entryFrame m #[.ref a, .ref b] 2)) (s₁.setTop (mkF m 6 #[.val (.ref a), .val (.ref b)] [.null, .int (Int32.ofNat A.slots.size), .int 0, .ref b, .ref a])) := c1.trans (by
    refine XS.aloadN X0.here hexec rfl (hb hbytes d0) rfl rfl ?_
    refine XS.aloadN X0.here hexec rfl (hb hbytes d1) rfl rfl ?_
    refine iconstV X0.here hexec rfl 0 (hb hbytes d2) (by decide) ?_
    refine XS.aloadN X0.here hexec rfl (hb hbytes d3) rfl rfl ?_
    refine X0.alen hexec (hA.1.mv X0.warmed.alike hh0) rfl rfl (hb hbytes d4) ?_
    refine XS.aconstNull X0.here hexec rfl (hb hbytes d5) ?_
    exact Steps.refl _)
  obtain ⟨v3, T3, X3, E3, g3⟩ := X0.callN hexec (New4.law l a D fV fC b A z 0 A.slots.size) rfl hown (wks W (initW "java/lang/String" 27 New4.yN)) (W New4.tab (by simp only [site, List.mem_cons, List.mem_append, true_or, or_true])) (W := 0) (Nat.le_of_ble_eq_true rfl) (Nat.le_of_ble_eq_true rfl) (Nat.le_refl _) (by show 0 + A.slots.size ≤ A.slots.size; omega) (g := (mkF m 6 #[.val (.ref a), .val (.ref b)] [.null, .int (Int32.ofNat A.slots.size), .int (Int32.ofNat 0), .ref b, .ref a])) rfl (by rw [hml]; rfl) c2 (argsL := [.ref b, .int (Int32.ofNat 0), .int (Int32.ofNat A.slots.size), .null]) (rest := []) rfl rfl (by show 2 * 0 + 0 ≤ _; decide) (hb hbytes d6) (⟨rfl, hB.mv X0.warmed.alike hh0, f1.al X0.warmed.alike, f2.al X0.warmed.alike, hA.mv X0.warmed.alike hh0, s1.there X0.warmed.alike hh0, hz, l0, by omega, l2, fun i hi => by rw [Nat.zero_add]; exact hp i hi⟩)
  have e0 := Got.mv _ s₁ s _ _ hh0.symm (Vm.Alike.refl _) rfl E3
  obtain rfl := e0.1
  have c4 : Steps p.tables e below (s₁.setTop (entryFrame m #[.ref a, .ref b] 2)) (T3.setTop (mkF m 9 #[.val (.ref a), .val (.ref b)] [])) := g3
  exact ⟨T3, none, _, _, _, X3, by simp, rfl, by omega, (fun _ => rfl), e0, fun fs hl => c4.trans (X3.returnOut hexec hret (hb hbytes d9) hl)⟩
theorem pays {l : Launch} {R : Room} {p : Program} {e : Env} {below : List Frame} {s : State} {sargs : Array Value} {len W : Nat} (a : Addr) (D : Cell) (fV fC : Field) (b : Addr) (A : Cell) (z : Int32) (htab : tab.before sargs s = true) (hfr : 4 ≤ R.frames) (hlo : W + 65 ≤ R.locals) :
    Back l R p e below s sargs yN len W (fun A₁ a₁ => A₁.cells + 1 ≤ R.cells ∧ A₁.slots + A.slots.size ≤ R.slots ∧ P a D fV fC b A z a₁ A₁.U) (fun A₁ _ v₁ B₁ => E a D fV fC A v₁ A₁.U B₁.U ∧ B₁.locs = A₁.locs ++ [⟨a, fC.slot⟩, ⟨a, fV.slot⟩] ∧ B₁.cells = A₁.cells + 1 ∧ B₁.slots = A₁.slots + A.slots.size) :=
  (law l a D fV fC b A z).pays htab hfr (by omega)
end New1
end StrChars
namespace StrChars.Road
open Jvm Sem ClassFile Op Lib Jvm.Stand Jvm.Free Jvm.Free.XT
open Jvm.Lib.Cold (StaticIs)
abbrev ST : String := "java/lang/String"
/-- every table word that New1's law asks, flat -/
abbrev words : List Jvm.Cond := [.code New1.yN New1.yB 2 none, .initialized ST, .methodLink ST 27 New4.yN, .instanceMethod New4.yN,
  .code New4.yN New4.yB 6 none, .fieldLink ST 38 ST "COMPACT_STRINGS" "Z", .laysFinal ST ST "value" "[B", .fieldLink ST 9 ST "value" "[B", .laysFinal ST ST "coder" "B", .fieldLink ST 15 ST "coder" "B",
  .methodLink ST 1 Lib.objectInit, .instanceMethod Lib.objectInit, .code Lib.objectInit ⟨#[0xb1]⟩ 1 none, .methodLink ST 177 Cmp3.yN, .static Cmp3.yN, .methodLink ST 47 CodL.yN, .static CodL.yN,
  .code Cmp3.yN Cmp3.yB 6 (some (.array .byte)), .initialized U16, .arrayClass .byte, .methodLink U16 115 Cmp5.yN, .static Cmp5.yN, .code Cmp5.yN Cmp5.yB 7 (some .int), .code CodL.yN CodL.yB 2 (some .byte)]
theorem tab_of {a : Array Value} {s : State} (h : ∀ w ∈ words, w.before a s = true) : New1.tab.before a s = true := by
  have h5 : Cmp5.tab.before a s = true := unparts (wk h (.code Cmp5.yN Cmp5.yB 7 (some .int))) (wks h (.initialized Cmp5.yN.cls :: Cmp5.site))
  have hc : CodL.tab.before a s = true := unparts (wk h (.code CodL.yN CodL.yB 2 (some .byte))) (wks h (.initialized CodL.yN.cls :: CodL.site))
  have q5 : ∀ w ∈ Cmp5.tab :: words, w.before a s = true := fun w hw => (List.mem_cons.mp hw).elim (fun e => e ▸ h5) (h w)
  have h3 : Cmp3.tab.before a s = true := unparts (wk q5 (.code Cmp3.yN Cmp3.yB 6 (some (.array .byte)))) (wks q5 (.initialized Cmp3.yN.cls :: Cmp3.site))
  have q3 : ∀ w ∈ Cmp3.tab :: CodL.tab :: words, w.before a s = true := fun w hw => (List.mem_cons.mp hw).elim (fun e => e ▸ h3) fun hw => (List.mem_cons.mp hw).elim (fun e => e ▸ hc) (h w)
  have h4 : New4.tab.before a s = true := unparts (wk q3 (.code New4.yN New4.yB 6 none)) (wks q3 (.initialized New4.yN.cls :: New4.site))
  have q4 : ∀ w ∈ New4.tab :: words, w.before a s = true := fun w hw => (List.mem_cons.mp hw).elim (fun e => e ▸ h4) (h w)
  exact unparts (wk q4 (.code New1.yN New1.yB 2 none)) (wks q4 (.initialized New1.yN.cls :: New1.site))
/-- the words ride from the start Z to the walk's own state -/
theorem moved {Z s : State} {a0 args : Array Value} (hZ : Z.Warmed39 s.vm) (hw : ∀ d ∈ words, d.before a0 Z = true) : ∀ d ∈ words, d.before args s = true := fun d hd => by
  have q := hw d hd
  have t : ∀ d ∈ words, d = .arrayClass .byte ∨ (d.onTables && d.keepsFace) = true := by decide +kernel
  rcases t d hd with rfl | t
  · exact RoadKit.mvA hZ q
  · exact RoadKit.mv hZ q t
/-- WHAT COMES BACK, over the tables of the start Z: h the heap at the call, h' behind it -/
def Q (Z : State) (x : Addr) (A : Cell) (h : Heap) (v : Option Value) (h' : Heap) (L : List Loc) : Prop := v = none ∧ (∀ y ∈ L, y.base = x) ∧ RoadKit.Keep h h' [x] ∧ h'.size = h.size + 1 ∧ RoadKit.Exa Z h' x ST ∧ RoadKit.Fld Z h' x ST "value" "[B" (.ref h.size) ∧ RoadKit.Fld Z h' x ST "coder" "B" (.int 0) ∧
  (∃ V : Cell, RoadKit.Arr Z h' h.size V .byte ∧ V.vm = .none ∧ Z.vm.findClass "[B" = some V.cls ∧ V.slots.size = A.slots.size ∧ ∀ j, j < A.slots.size → V.slots[j]? = some (.int (lo8 (cv A j)))) ∧
  ∀ (O n d : String) (w : Value), RoadKit.Fld Z h x O n d w → RoadKit.slotOf Z O n d ≠ RoadKit.slotOf Z ST "value" "[B" → RoadKit.slotOf Z O n d ≠ RoadKit.slotOf Z ST "coder" "B" → RoadKit.Fld Z h' x O n d w
/-- **new String(chars) AT A CALL, IN THE ROAD'S FORM**: for specialBack behind newO: x the fresh String, b the char[] with the cell A -/
theorem back {p : Program} {l : Launch} {e : Env} {R : Room} {s : State} {args : Array Value} {below : List Frame} {len W : Nat} {Z : State} {a0 : Array Value} {h : Heap} (hZ : Z.Warmed39 s.vm) (hw : ∀ d ∈ words, d.before a0 Z = true) {kI : Nat} (wi : (Jvm.Cond.instantiable ST kI).before a0 Z = true)
    {x b : Addr} {A : Cell} {z : Int32} {v0 c0 : Value} (E : RoadKit.Exa Z h x ST) (V : RoadKit.Fld Z h x ST "value" "[B" v0) (C : RoadKit.Fld Z h x ST "coder" "B" c0) (K : RoadKit.Arr Z h b A .char) (hty : Typed .char A) (S : RoadKit.Sta Z h ST "COMPACT_STRINGS" "Z" (.int z)) (hz : ¬ z = 0)
    (l0 : 0 < A.slots.size) (l2 : A.slots.size ≤ 536870912) (hp : ∀ i, i < A.slots.size → ¬ 255 < cv A i) (hfr : 4 ≤ R.frames) (hlo : W + 65 ≤ R.locals) :
    Back l R p e below s args New1.yN len W (fun P a => a = #[.ref x, .ref b] ∧ P.U.heap = h ∧ P.cells + 1 ≤ R.cells ∧ P.slots + A.slots.size ≤ R.slots)
      (fun P _ v B => ∃ L, Q Z x A h v B.U.heap L ∧ B.locs = P.locs ++ L ∧ B.cells = P.cells + 1 ∧ B.slots = P.slots + A.slots.size) := by
  intro m meth c P g ig mk a X hg hsize hdg hW hn hp'
  obtain ⟨rfl, rfl, r1, r2⟩ := hp'
  have al : Z.vm.Alike P.U.vm := hZ.alike.trans X.warmed.alike
  obtain ⟨D, cfV, kV, iV, fV, hD, gV, stV, knV, obV, asV, slV⟩ := id V
  obtain ⟨D', cfC, kC, iC, fC, hD', gC, stC, -, -, asC, slC⟩ := id C
  cases hD.symm.trans hD'
  obtain ⟨D2, kD, e1, e2, e3, e4, e5⟩ := id E
  cases hD.symm.trans e1
  obtain ⟨c2, k2, i1, i2, i3, -⟩ := Cond.instantiable_spec wi
  cases e2.symm.trans i1
  cases e3.symm.trans i2
  obtain ⟨kU, u1, u2⟩ := al.2.2 _ _ e3
  have hB : Blank ST x D P.U := ⟨hD, ⟨knV, fun q hq => by rw [hq] at obV; cases obV⟩, by rw [al.findClass]; exact e2, kU, u1, by rw [u2]; exact i3, by rw [u2]; exact e5 i3⟩
  have F1 : Found ST "value" "[B" fV P.U := ⟨SBG.found_only al ⟨cfV, kV, iV, gV⟩, stV⟩
  have F2 : Found ST "coder" "B" fC P.U := ⟨SBG.found_only al ⟨cfC, kC, iC, gC⟩, stC⟩
  have hA : Ch b A P.U := ⟨⟨K.1, State.isArrayOf_alike al K.2.1, K.2.2, by omega⟩, hty⟩
  have hS : StaticIs P.U ST "COMPACT_STRINGS" "Z" (.int z) := by
    obtain ⟨cfS, iS, kS, fS, st, cS, t1, t2, t3, t4, t5, t6, t7⟩ := S
    exact StaticIs.there (s := { Z with heap := P.U.heap }) ⟨cfS, iS, kS, fS, st, cS, t1, t2, t3, t4, t5, (fun q => by rw [q] at t6; cases t6), t7⟩ al rfl
  obtain ⟨v, B, X', ⟨⟨hv, E', V', q1, q2, q3, q4, q5, q6, q7, q8, q9, q10, q11⟩, hl, hc, hs⟩, st⟩ := New1.pays x D fV fC b A z (tab_of (moved hZ hw)) hfr hlo m meth c P g ig mk _ X hg hsize hdg hW hn ⟨r1, r2, rfl, hB, F1, F2, hA, hS, hz, l0, l2, hp⟩
  have al' : Z.vm.Alike B.U.vm := hZ.alike.trans X'.warmed.alike
  have hsz : E'.slots.size = D.slots.size := by
    obtain ⟨-, -, -, kB, w1, w2, w3⟩ := q1
    obtain ⟨kB', y1, y2⟩ := al'.2.2 _ _ e3
    rw [q2.2.1] at w1
    cases w1.symm.trans y1
    rw [w3, e5 i3, y2]
  refine ⟨v, B, X', ⟨_, ⟨hv, ?_, ⟨by omega, fun y cy hy hn' => q10 y cy (by simpa using hn') hy, fun y cy hy => ?_⟩, q11, ⟨E', _, q1.1, by rw [q2.2.1]; exact e2, by rw [q2.2.1]; exact e3, by rw [q2.1]; exact obV, fun _ => by rw [hsz]; exact e5 i3⟩,
    ⟨E', cfV, kV, iV, fV, q1.1, gV, stV, by rw [q2.1]; exact knV, by rw [q2.1]; exact obV, by rw [q2.2.1]; exact asV, q3⟩, ⟨E', cfC, kC, iC, fC, q1.1, gC, stC, by rw [q2.1]; exact knV, by rw [q2.1]; exact obV, by rw [q2.2.1]; exact asC, q4⟩,
    ⟨V', ⟨q5.1, State.isArrayOf_alike al'.symm q5.2.1, q5.2.2.1⟩, q6, by rw [← al'.findClass]; exact q7, q8, fun j hj => by have := q9 j hj; rwa [Nat.zero_add] at this⟩, fun O n d w F n1 n2 => ?_⟩, hl, hc, hs⟩, st⟩
  · intro y hy
    simp only [List.mem_cons, List.not_mem_nil, or_false] at hy
    rcases hy with rfl | rfl <;> rfl
  · by_cases q : y = x
    · subst q
      cases hD.symm.trans hy
      exact ⟨E', q1.1, q2.2.1, q2.1, hsz⟩
    · exact ⟨cy, q10 y cy q hy, rfl, rfl, rfl⟩
  · obtain ⟨D3, cf, k, i, f, g1, g2, g3, g4, g5, g6, g7⟩ := F
    cases hD.symm.trans g1
    simp only [RoadKit.slotOf, g2, gV, gC, Option.map_some, Option.getD_some] at n1 n2
    exact ⟨E', cf, k, i, f, q1.1, g2, g3, by rw [q2.1]; exact g4, by rw [q2.1]; exact g5, by rw [q2.2.1]; exact g6, by rw [q2.2.2 f.slot (by simp [n1, n2])]; exact g7⟩
end StrChars.Road
namespace StrChars.Road
open Jvm Sem ClassFile Op Lib Jvm.Stand Jvm.Free Jvm.Free.XT
/-- WHAT COMES BACK, the byte[] as a list of values -/
def QA (Z : State) (x : Addr) (zn : Int32) (cs : List Int32) (h : Heap) (v : Option Value) (h' : Heap) (L : List Loc) : Prop := v = none ∧ (∀ y ∈ L, y.base = x) ∧ RoadKit.Keep h h' [x] ∧ h'.size = h.size + 1 ∧ RoadKit.Exa Z h' x ST ∧ RoadKit.Fld Z h' x ST "value" "[B" (.ref h.size) ∧ RoadKit.Fld Z h' x ST "coder" "B" (.int 0) ∧
  (∃ kb, Z.vm.findClass "[B" = some kb ∧ RoadKit.Arv Z h' h.size kb .byte zn (cs.map fun c => .int (lo8 c)) (.int 0)) ∧
  ∀ (O n d : String) (w : Value), RoadKit.Fld Z h x O n d w → RoadKit.slotOf Z O n d ≠ RoadKit.slotOf Z ST "value" "[B" → RoadKit.slotOf Z O n d ≠ RoadKit.slotOf Z ST "coder" "B" → RoadKit.Fld Z h' x O n d w
/-- **new String(chars) AT A CALL, THE ARRAYS AS LISTS**: the char[] at b holds cs, not empty, no char above 255 -/
theorem backArv {p : Program} {l : Launch} {e : Env} {R : Room} {s : State} {args : Array Value} {below : List Frame} {len W : Nat} {Z : State} {a0 : Array Value} {h : Heap} (hZ : Z.Warmed39 s.vm) (hw : ∀ d ∈ words, d.before a0 Z = true) {kI : Nat} (wi : (Jvm.Cond.instantiable ST kI).before a0 Z = true)
    {x b : Addr} {k : ClassId} {zn z : Int32} {cs : List Int32} {dv v0 c0 : Value} (E : RoadKit.Exa Z h x ST) (V : RoadKit.Fld Z h x ST "value" "[B" v0) (C : RoadKit.Fld Z h x ST "coder" "B" c0) (K : RoadKit.Arv Z h b k .char zn (cs.map Value.int) dv) (S : RoadKit.Sta Z h ST "COMPACT_STRINGS" "Z" (.int z)) (hz : ¬ z = 0)
    (hlen : zn.toNatClampNeg = cs.length) (h0 : 0 < cs.length) (hbig : cs.length ≤ 536870912) (hall : ∀ c ∈ cs, ¬ 255 < c) (hfr : 4 ≤ R.frames) (hlo : W + 65 ≤ R.locals) :
    Back l R p e below s args New1.yN len W (fun P a => a = #[.ref x, .ref b] ∧ P.U.heap = h ∧ P.cells + 1 ≤ R.cells ∧ P.slots + cs.length ≤ R.slots)
      (fun P _ v B => ∃ L, QA Z x zn cs h v B.U.heap L ∧ B.locs = P.locs ++ L ∧ B.cells = P.cells + 1 ∧ B.slots = P.slots + cs.length) := by
  obtain ⟨A, K1, K2, K3, K4, K5, K6⟩ := K
  have e : A.slots.size = cs.length := K3.trans hlen
  have hat : ∀ (i : Nat) (hi : i < cs.length), A.slots[i]? = some (.int cs[i]) := fun i hi => by rw [K5 i (by omega)]; simp [List.getD_eq_getElem?_getD, hi]
  have hcv : ∀ (i : Nat) (hi : i < cs.length), cv A i = cs[i] := fun i hi => by unfold cv; rw [hat i hi]
  have hty : Typed .char A := fun i v hv => by
    have hi : i < A.slots.size := (Array.getElem?_eq_some_iff.mp hv).1
    have q := K5 i hi
    rw [hv] at q
    rw [Option.some.inj q]
    exact K6 i hi
  refine Back.mono (back hZ hw wi E V C K1 hty S hz (by omega) (by omega) (fun i hi => by rw [hcv i (by omega)]; exact hall _ (List.getElem_mem _)) hfr hlo) (fun P a hp => ⟨hp.1, hp.2.1, hp.2.2.1, by rw [e]; exact hp.2.2.2⟩) (fun P a v B hp hq => ?_)
  obtain ⟨L, ⟨q1, q2, q3, q4, q5, q6, q7, ⟨V', v1, v2, v3, v4, v5⟩, q9⟩, hl, hc, hs⟩ := hq
  refine ⟨L, ⟨q1, q2, q3, q4, q5, q6, q7, ⟨V'.cls, v3, V', v1, rfl, by rw [v4, e, hlen], K4, fun i hi => ?_, fun i hi => ?_⟩, q9⟩, hl, hc, by rw [hs, e]⟩
  · have hi' : i < cs.length := by omega
    rw [v5 i (by omega), hcv i hi']; simp [List.getD_eq_getElem?_getD, hi']
  · have hi' : i < cs.length := by omega
    simp only [List.getD_eq_getElem?_getD, List.getElem?_map, List.getElem?_eq_getElem hi', Option.map_some, Option.getD_some]
    exact fits_lo8 _
end StrChars.Road
namespace StrChars.Road
open Jvm Sem ClassFile Op Lib Jvm.Stand Jvm.Free Jvm.Free.XT
/-- WHAT COMES BACK, in the writer's own shape -/
def QV (Z : State) (x : Addr) (N : Int32) (bs : List Int32) (h : Heap) (n0 : Nat) (v : Option Value) (h' : Heap) (L : List Loc) : Prop := v = none ∧ RoadKit.Fr n0 L ∧ RoadKit.Keep h h' [x] ∧ RoadKit.Exa Z h' x ST ∧ RoadKit.Fld Z h' x ST "coder" "B" (.int 0) ∧
  ∃ (t : Addr) (kb : ClassId), n0 ≤ t ∧ h.size ≤ t ∧ ¬ t = x ∧ RoadKit.Fld Z h' x ST "value" "[B" (.ref t) ∧ RoadKit.Arv Z h' t kb .byte N (bs.map Value.int) (.int 0)
/-- **new String(chars) AT A CALL, FOR THE WRITER**: a char[] of n known ints, each 0 to 255 -/
theorem backV {p : Program} {l : Launch} {e : Env} {R : Room} {s : State} {args : Array Value} {below : List Frame} {len W : Nat} {Z : State} {a0 : Array Value} {h : Heap} (hZ : Z.Warmed39 s.vm) (hw : ∀ d ∈ words, d.before a0 Z = true) {kI : Nat} (wi : (Jvm.Cond.instantiable ST kI).before a0 Z = true)
    {x b : Addr} {kC : ClassId} {cs bs : List Int32} {d v0 c0 : Value} {z N : Int32} {n n0 : Nat} (hx0 : n0 ≤ x) (hh0 : n0 ≤ h.size) (E : RoadKit.Exa Z h x ST) (V : RoadKit.Fld Z h x ST "value" "[B" v0) (C : RoadKit.Fld Z h x ST "coder" "B" c0) (K : RoadKit.Arv Z h b kC .char N (cs.map Value.int) d) (S : RoadKit.Sta Z h ST "COMPACT_STRINGS" "Z" (.int z)) (hz : ¬ z = 0)
    (hn : cs.length = n) (hN : N = Int32.ofNat n) (l0 : 0 < n) (l2 : n ≤ 4000) (hp : ∀ c ∈ cs, ¬ c < 0 ∧ ¬ (255 : Int32) < c) (hb : bs = cs.map (fun c => c.toInt8.toInt32)) (hfr : 4 ≤ R.frames) (hlo : W + 65 ≤ R.locals) :
    Back l R p e below s args (⟨"java/lang/String", "<init>", "([C)V"⟩ : MethodName) len W (fun P a => a = #[.ref x, .ref b] ∧ P.U.heap = h ∧ P.cells + 1 ≤ R.cells ∧ P.slots + n ≤ R.slots)
      (fun P _ v B => ∃ L, QV Z x N bs h n0 v B.U.heap L ∧ B.locs = P.locs ++ L ∧ B.cells = P.cells + 1 ∧ B.slots = P.slots + n) := by
  subst hn hN hb
  refine Back.mono (backArv hZ hw wi E V C K S hz (n32 (by omega)) l0 (by omega) (fun c hc => (hp c hc).2) hfr hlo) (fun P a hp => hp) (fun P a v B hp hq => ?_)
  obtain ⟨L, ⟨q1, q2, q3, q4, q5, q6, q7, ⟨kb, v1, v2⟩, q9⟩, hl, hc, hs⟩ := hq
  exact ⟨L, ⟨q1, fun y hy => by rw [q2 y hy]; exact hx0, q3, q5, q7, h.size, kb, hh0, Nat.le_refl _, Nat.ne_of_gt E.lt, q6, by rw [List.map_map]; exact v2⟩, hl, hc, hs⟩
end StrChars.Road
end Jvm.Pilot.@@N@@

namespace Jvm.OwnW
open Jvm Jvm.ClassFile Sem Op Lib Jvm.Free Jvm.Stand Jvm.LawKit Jvm.RoadKit Bundle
/-! A small calculus of weakest preconditions over the library's Stand: own text. WP says: from this place every run of this body ends well. -/
def Cx (p : Program) (meth : Method) (c : Code) (nm : String) (bytes : ByteArray) (maxL : Nat) (ret : Option FieldType) : Prop :=
  p.tables.exec = Jvm.exec ∧ c.code = bytes ∧ c.maxLocals = maxL ∧ meth.sig.returnType = ret ∧ meth.locks = false ∧ meth.name = nm
def Pl (l : Launch) (Z : State) (EL : List (String × Nat)) (nar : Bool) (own : String) (R : Room) (p : Program) (e : Env) (s : State) (m : MethodId) (args : Array Value) (below : List Frame) (meth : Method) (c : Code) (vm : Vm) (h : Heap) (T : State) (L : List Loc) (ce sl : Nat) : Prop :=
  Stand p l e R (s.setVm vm) m args below meth c T L ce sl ∧ (∃ k0, s.Since vm k0 ∧ k0 ≤ h.size) ∧ Z.Warmed39 vm ∧ vm.findClass own = some m.cls ∧ T.heap = h ∧ Fr Z.heap.size L ∧ Ext Z.heap h ∧ CHr Z EL s.vm s.heap vm h ∧ (nar = true → s.WarmedH vm) ∧ ∃ a0, EW Z a0 EL
def Fine (Z : State) (EL : List (String × Nat)) (nar : Bool) (R : Room) (Q : Option Value → Heap → Prop) (p : Program) (e : Env) (s : State) (below : List Frame) (S0 : State) : Prop :=
  ∃ t o, Steps p.tables e below S0 t ∧ t.status = .running ∧ Ended t below o ∧ ∃ v L, o = .returned v ∧ Q v t.heap ∧ Ext Z.heap t.heap ∧ Fr Z.heap.size L ∧ CHr Z EL s.vm s.heap t.vm t.heap ∧ (nar = true → s.WarmedH t.vm) ∧ ReturnedEndW s o t L R.cells R.slots
def WP (l : Launch) (Z : State) (EL : List (String × Nat)) (nar : Bool) (own nm : String) (bytes : ByteArray) (maxL : Nat) (ret : Option FieldType) (R : Room) (Q : Option Value → Heap → Prop) (vm : Vm) (h : Heap) (ce sl pc : Nat) (Ls : Array Slot) (st : List Value) : Prop :=
  ∀ p e s m args below meth c T L, Cx p meth c nm bytes maxL ret → Pl l Z EL nar own R p e s m args below meth c vm h T L ce sl → Fine Z EL nar R Q p e s below (T.setTop (mkF m pc Ls st))
def Con (l : Launch) (Z : State) (EL : List (String × Nat)) (nar : Bool) (sf : List Addr) (y : MethodName) (bytes : ByteArray) (maxL : Nat) (ret : Option FieldType) (rm : Room) (as' : Array Value) (h0 : Heap) (Q : Option Value → Heap → Prop) : Prop :=
  ∀ ws, MetFree l y (head1 (Cond.code y bytes maxL ret :: ws) rm) (fun a U => a = as' ∧ Z.Warmed39 U.vm ∧ U.heap = h0 ∧ Ext Z.heap h0 ∧ CHv Z EL U.vm h0 ∧ ∀ x ∈ sf, Safe Z EL U.vm h0 x) (fun _ _ _ _ _ => True)
    (fun _ U o U' => ∃ v L, o = .returned v ∧ Q v U'.heap ∧ Ext Z.heap U'.heap ∧ Fr Z.heap.size L ∧ CHr Z EL U.vm U.heap U'.vm U'.heap ∧ (nar = true → U.WarmedH U'.vm) ∧ ReturnedEndW U o U' L rm.cells rm.slots)
section Basic
variable {l : Launch} {Z : State} {EL : List (String × Nat)} {nar : Bool} {own nm : String} {bytes : ByteArray} {maxL : Nat} {ret : Option FieldType} {R : Room} {Q : Option Value → Heap → Prop} {vm : Vm} {h : Heap} {ce sl pc n : Nat} {Ls Ls' : Array Slot} {st st' : List Value} {a0 : Array Value}
theorem ext_refl (h : Heap) : Ext h h := ⟨Nat.le_refl _, fun _ _ q => q⟩
theorem ext_trans {h1 h2 h3 : Heap} (E : Ext h1 h2) (F : Ext h2 h3) : Ext h1 h3 := ⟨Nat.le_trans E.1 F.1, fun a c q => F.2 a c (E.2 a c q)⟩
theorem ext_keep {h1 h2 h3 : Heap} {ws : List Addr} (E : Ext h1 h2) (K : Keep h2 h3 ws) (q : ∀ x ∈ ws, h1.size ≤ x) : Ext h1 h3 :=
  ⟨Nat.le_trans E.1 K.1, fun a c r => K.2.1 a c (E.2 a c r) fun z => absurd (Array.getElem?_eq_some_iff.mp r).1 (Nat.not_lt.mpr (q a z))⟩
theorem ext_wr {h1 h2 h3 : Heap} {a : Addr} {i : Nat} {v : Value} (E : Ext h1 h2) (W : Wr h2 h3 a i v) (q : h1.size ≤ a) : Ext h1 h3 :=
  ext_keep E (Keep.of_wr W) fun x hx => by cases List.mem_singleton.mp hx; exact q
theorem ext_keep1 {h1 h2 h3 : Heap} {a : Addr} (E : Ext h1 h2) (K : Keep h2 h3 [a]) (q : h1.size ≤ a) : Ext h1 h3 := ext_keep E K fun x hx => by cases List.mem_singleton.mp hx; exact q
theorem ext_keep0 {h1 h2 : Heap} (K : Keep h1 h2 []) : Ext h1 h2 := ext_keep (ext_refl _) K fun x hx => nomatch hx
/-- what always holds where the walk stands -/
theorem WP.inv (k : Z.Warmed39 vm → Ext Z.heap h → CHv Z EL vm h → WP l Z EL nar own nm bytes maxL ret R Q vm h ce sl pc Ls st) : WP l Z EL nar own nm bytes maxL ret R Q vm h ce sl pc Ls st := by
  intro p e s m args below meth c T L cx pl
  exact k pl.2.2.1 pl.2.2.2.2.2.2.1 pl.2.2.2.2.2.2.2.1.1 p e s m args below meth c T L cx pl
/-- fewer cells and slots made are at most more -/
theorem WP.more {ce' sl' : Nat} (hc : ce ≤ ce') (hs : sl ≤ sl') (k : WP l Z EL nar own nm bytes maxL ret R Q vm h ce' sl' pc Ls st) : WP l Z EL nar own nm bytes maxL ret R Q vm h ce sl pc Ls st := by
  intro p e s m args below meth c T L cx pl
  exact k p e s m args below meth c T L cx ⟨pl.1.mono hc hs, pl.2⟩
theorem WP.post {Q' : Option Value → Heap → Prop} (hq : ∀ v h', Q' v h' → Q v h') (k : WP l Z EL nar own nm bytes maxL ret R Q' vm h ce sl pc Ls st) : WP l Z EL nar own nm bytes maxL ret R Q vm h ce sl pc Ls st := by
  intro p e s m args below meth c T L cx pl
  obtain ⟨t, o, h1, h2, h3, v, L', h4, h5, r⟩ := k p e s m args below meth c T L cx pl
  exact ⟨t, o, h1, h2, h3, v, L', h4, hq _ _ h5, r⟩
/-- a step that leaves the state as it is -/
theorem WP.step (hs : ∀ (p : Program) (e : Env) (below : List Frame) (T target : State) (m : MethodId) (c : Code), p.tables.exec = Jvm.exec → c.code = bytes → At T m c below → Steps p.tables e below (T.setTop (mkF m n Ls' st')) target → Steps p.tables e below (T.setTop (mkF m pc Ls st)) target)
    (k : WP l Z EL nar own nm bytes maxL ret R Q vm h ce sl n Ls' st') : WP l Z EL nar own nm bytes maxL ret R Q vm h ce sl pc Ls st := by
  intro p e s m args below meth c T L cx pl
  obtain ⟨t, o, h1, r⟩ := k p e s m args below meth c T L cx pl
  exact ⟨t, o, hs p e below T t m c cx.1 cx.2.1 pl.1.here h1, r⟩
/-- a step that leaves the heap as it is (the tables may warm) -/
theorem WP.look (hs : ∀ (p : Program) (e : Env) (s : State) (args : Array Value) (below : List Frame) (T : State) (m : MethodId) (meth : Method) (c : Code) (L : List Loc), p.tables.exec = Jvm.exec → c.code = bytes → Stand p l e R (s.setVm vm) m args below meth c T L ce sl → Z.Warmed39 (s.setVm vm).vm → (s.setVm vm).vm.findClass own = some m.cls → T.heap = h →
      ∃ T', Stand p l e R (s.setVm vm) m args below meth c T' L ce sl ∧ T'.heap = h ∧ ∀ target, Steps p.tables e below (T'.setTop (mkF m n Ls' st')) target → Steps p.tables e below (T.setTop (mkF m pc Ls st)) target)
    (k : WP l Z EL nar own nm bytes maxL ret R Q vm h ce sl n Ls' st') : WP l Z EL nar own nm bytes maxL ret R Q vm h ce sl pc Ls st := by
  intro p e s m args below meth c T L cx ⟨X, hS, hZ, hown, eT, N, hE, hC, hW, hEL⟩
  obtain ⟨T', X', e', stp⟩ := hs p e s args below T m meth c L cx.1 cx.2.1 X hZ hown eT
  obtain ⟨t, o, h1, r⟩ := k p e s m args below meth c T' L cx ⟨X', hS, hZ, hown, e', N, hE, hC, hW, hEL⟩
  exact ⟨t, o, stp _ h1, r⟩
/-- a step that makes a cell -/
theorem WP.make {ce' sl' : Nat} {P : Heap → Prop} (hs : ∀ (p : Program) (e : Env) (s : State) (args : Array Value) (below : List Frame) (T : State) (m : MethodId) (meth : Method) (c : Code) (L : List Loc), p.tables.exec = Jvm.exec → c.code = bytes → Stand p l e R (s.setVm vm) m args below meth c T L ce sl → Z.Warmed39 (s.setVm vm).vm → (s.setVm vm).vm.findClass own = some m.cls → T.heap = h →
      ∃ T' h', Stand p l e R (s.setVm vm) m args below meth c T' L ce' sl' ∧ T'.heap = h' ∧ Ext h h' ∧ P h' ∧ ∀ target, Steps p.tables e below (T'.setTop (mkF m n Ls' st')) target → Steps p.tables e below (T.setTop (mkF m pc Ls st)) target)
    (k : ∀ h', Ext h h' → P h' → CHr Z EL vm h vm h' → WP l Z EL nar own nm bytes maxL ret R Q vm h' ce' sl' n Ls' st') : WP l Z EL nar own nm bytes maxL ret R Q vm h ce sl pc Ls st := by
  intro p e s m args below meth c T L cx ⟨X, ⟨k0, hS, hk⟩, hZ, hown, eT, N, hE, hC, hW, hEL⟩
  obtain ⟨T', h', X', e', E', hP, stp⟩ := hs p e s args below T m meth c L cx.1 cx.2.1 X hZ hown eT
  have hR : CHr Z EL vm h vm h' := CHr.ext E' hC.1
  obtain ⟨t, o, h1, r⟩ := k h' E' hP hR p e s m args below meth c T' L cx ⟨X', ⟨k0, hS, Nat.le_trans hk E'.1⟩, hZ, hown, e', N, ext_trans hE E', hC.trans hR, hW, hEL⟩
  exact ⟨t, o, stp _ h1, r⟩
/-- a step that writes one place of a new cell -/
theorem WP.write {a : Addr} {i : Nat} {v : Value} (ha : Z.heap.size ≤ a) (hsafe : Z.Warmed39 vm → Safe Z EL vm h a)
    (hs : ∀ (p : Program) (e : Env) (s : State) (args : Array Value) (below : List Frame) (T : State) (m : MethodId) (meth : Method) (c : Code) (L : List Loc), p.tables.exec = Jvm.exec → c.code = bytes → meth.name = nm → Stand p l e R (s.setVm vm) m args below meth c T L ce sl → Z.Warmed39 (s.setVm vm).vm → (s.setVm vm).vm.findClass own = some m.cls → T.heap = h →
      ∃ T' h', Stand p l e R (s.setVm vm) m args below meth c T' (L ++ [⟨a, i⟩]) ce sl ∧ T'.heap = h' ∧ Wr h h' a i v ∧ ∀ target, Steps p.tables e below (T'.setTop (mkF m n Ls' st')) target → Steps p.tables e below (T.setTop (mkF m pc Ls st)) target)
    (k : ∀ h', Wr h h' a i v → CHr Z EL vm h vm h' → WP l Z EL nar own nm bytes maxL ret R Q vm h' ce sl n Ls' st') : WP l Z EL nar own nm bytes maxL ret R Q vm h ce sl pc Ls st := by
  intro p e s m args below meth c T L cx ⟨X, ⟨k0, hS, hk⟩, hZ, hown, eT, N, hE, hC, hW, hEL⟩
  obtain ⟨T', h', X', e', W', stp⟩ := hs p e s args below T m meth c L cx.1 cx.2.1 cx.2.2.2.2.2 X hZ hown eT
  have hR : CHr Z EL vm h vm h' := CHr.wr W' (hsafe hZ) hC.1
  obtain ⟨t, o, h1, r⟩ := k h' W' hR p e s m args below meth c T' _ cx ⟨X', ⟨k0, hS, by rw [W'.size]; exact hk⟩, hZ, hown, e', Fr.snoc X' N ha, ext_wr hE W' ha, hC.trans hR, hW, hEL⟩
  exact ⟨t, o, stp _ h1, r⟩
/-- the end -/
theorem WP.done {v : Option Value} (hc : ce ≤ R.cells) (hsl : sl ≤ R.slots) (hv : ret = none → v = none)
    (hs : ∀ (p : Program) (e : Env) (s : State) (args : Array Value) (below : List Frame) (T : State) (m : MethodId) (meth : Method) (c : Code) (L : List Loc) (fs : List Frame), p.tables.exec = Jvm.exec → c.code = bytes → meth.sig.returnType = ret → Stand p l e R (s.setVm vm) m args below meth c T L ce sl →
      (∀ (f : JFrame) (acts : List Action), f.method = m → f.locked = none → f.entered = [] → (doReturn e (T.setTop f) acts v).1 = T.setFrames fs) → Steps p.tables e below (T.setTop (mkF m pc Ls st)) (T.setFrames fs))
    (hq : Q v h) : WP l Z EL nar own nm bytes maxL ret R Q vm h ce sl pc Ls st := by
  intro p e s m args below meth c T L cx ⟨X, ⟨k0, hS, hk⟩, hZ, hown, eT, N, hE, hC, hW, a0, hEL⟩
  have hlk : meth.locks = false := cx.2.2.2.2.1
  obtain ⟨fs, hr, hrun, hend, hret⟩ := X.leaveW hS (by rw [eT]; exact hk) (v := v) (fun q => hv (cx.2.2.2.1 ▸ q))
  refine ⟨_, _, hs p e s args below T m meth c L fs cx.1 cx.2.1 cx.2.2.2.1 X hr, hrun, hend, v, L, rfl, ?_, ?_, N, ?_, fun q => ?_, ?_⟩
  · show Q v T.heap
    rw [eT]; exact hq
  · show Ext Z.heap T.heap
    rw [eT]; exact hE
  · show CHr Z EL s.vm s.heap T.vm T.heap
    rw [eT]; exact hC.trans (CHv.at X hZ hEL hC.1)
  · exact State.WarmedH.trans (t := s.setVm vm) (hW q) X.warmed
  · obtain ⟨r1, r2, r3, r4⟩ := hret
    exact ⟨r1, r2, r3, r4.mono hc hsl⟩
/-- a body's contract out of its walk -/
theorem Con.of {sf : List Addr} {y : MethodName} {as' : Array Value} (hpn : plainFor y = true) (hEL : EW Z a0 EL) (hef : ∀ m, entryFrame m as' maxL = mkF m 0 Ls [])
    (k : ∀ vm, Z.Warmed39 vm → Ext Z.heap h → CHv Z EL vm h → (∀ x ∈ sf, Safe Z EL vm h x) → WP l Z EL nar y.cls y.name bytes maxL ret R Q vm h 0 0 0 Ls []) : Con l Z EL nar sf y bytes maxL ret R as' h Q := by
  intro ws
  refine MetFree.of_bodySF hpn hisR ?_
  intro p e s m args below meth c s₁ Bd hml hP hK
  obtain ⟨rfl, hZ, hh, hE, hC, hS⟩ := hP
  have X0 : Stand p l e R s m args below meth c s₁ [] 0 0 := Stand.of_body Bd
  have e0 : s₁.heap = h := by rw [← hh, Bd.state]; rfl
  obtain ⟨t, o, h1, h2, h3, r⟩ := k s.vm hZ hE hC hS p e s m args below meth c s₁ [] ⟨Bd.exec, Bd.bytes, hml, Bd.returns, Bd.notSynchronized, (name_of_methodNamed Bd.named Bd.method).1⟩
    ⟨X0, ⟨s.heap.size, (State.WarmedH.refl s).since _, by rw [hh]; exact Nat.le_refl _⟩, hZ, findClass_of_methodNamed Bd.named, e0, Fr.nil _, hE, by rw [hh]; exact CHr.refl hC, fun _ => State.WarmedH.refl s, a0, hEL⟩
  exact ⟨t, o, castTop (hef m) h1, h2, h3, r⟩
theorem Con.post {sf : List Addr} {y : MethodName} {as' : Array Value} {Q' : Option Value → Heap → Prop} (C : Con l Z EL nar sf y bytes maxL ret R as' h Q') (hq : ∀ v h', Q' v h' → Q v h') : Con l Z EL nar sf y bytes maxL ret R as' h Q := by
  intro ws p e ha hc hk s m args below hf happ hP hK
  obtain ⟨n, o, h1, h2, h3, v, L, h4, h5, r⟩ := C ws p e ha hc hk s m args below hf happ hP hK
  exact ⟨n, o, h1, h2, h3, v, L, h4, hq _ _ h5, r⟩
theorem Con.back {sf : List Addr} {y : MethodName} {as' : Array Value} {a1 : Array Value} {p : Program} {e : Env} {below : List Frame} {s : State} {args : Array Value} {len Wd : Nat} {rm : Room} (C : Con l Z EL nar sf y bytes maxL ret rm as' h Q) (hEL : EW Z a1 EL) (hZ : Z.Warmed39 vm) (wc : (Cond.code y bytes maxL ret).before a0 Z = true) (wz : (Cond.initialized y.cls).before a0 Z = true)
    (hf : rm.frames + 1 ≤ R.frames) (hl : Wd + (maxL + 11) + rm.locals ≤ R.locals) (hE : Ext Z.heap h) (H : CHv Z EL vm h) (hsf : ∀ x ∈ sf, Safe Z EL vm h x ∧ x < h.size) :
    BackS l R p e below (s.setVm vm) args y len Wd (fun A a => a = as' ∧ A.U.heap = h ∧ A.cells + rm.cells ≤ R.cells ∧ A.slots + rm.slots ≤ R.slots)
      (fun A _ v B => ∃ L, Q v B.U.heap ∧ Ext Z.heap B.U.heap ∧ Fr Z.heap.size L ∧ B.locs = A.locs ++ L ∧ B.cells = A.cells + rm.cells ∧ B.slots = A.slots + rm.slots ∧ CHr Z EL vm h B.U.vm B.U.heap ∧ (nar = true → (s.setVm vm).WarmedH B.U.vm)) :=
  BackS.of_freeW (bytes := bytes) (maxL := maxL) (ret := ret) (E := fun _ first o t L k n => k = rm.cells ∧ n = rm.slots ∧ (∃ v, o = .returned v ∧ Q v t.heap ∧ Ext Z.heap t.heap ∧ Fr Z.heap.size L) ∧ CHr Z EL first.vm first.heap t.vm t.heap ∧ (nar = true → first.WarmedH t.vm)) (C []) hf hl
    (fun m meth c A a Y hp => have hU : Z.Warmed39 A.U.vm := wtrans (s := s.setVm vm) hZ Y.warmed
      ⟨by show (Cond.and _ .tt).before a A.U = true; rw [Cond.before_and, mv hU wc]; rfl, mv hU wc, mv hU wz, hp.2.2.1, hp.2.2.2⟩)
    (fun m meth c A a g mk Y hp => ⟨hp.1, wtrans (s := s.setVm vm) hZ Y.warmed, hp.2.1, hE, (CHv.at Y hZ hEL H).1, fun x hx => (CHv.at Y hZ hEL H).safe (hsf x hx).2 (hsf x hx).1⟩) (fun _ _ _ _ _ _ _ _ _ => trivial)
    (fun _ _ _ _ ⟨v, L, h1, h2, h3, h4, h5, h6, h7⟩ => ⟨L, _, _, h7, rfl, rfl, ⟨v, h1, h2, h3, h4⟩, h5, h6⟩)
    (fun m meth c A a g mk v t L k n Y hp _ _ ⟨e1, e2, ⟨v', e3, e4, e5, e6⟩, e7, e8⟩ => by
      cases e3; subst e1 e2
      refine ⟨L, e4, e5, e6, rfl, rfl, rfl, (CHv.at Y hZ hEL H).trans ?_, fun q => ?_⟩
      · rw [← hp.2.1]; exact e7
      · exact State.WarmedH.trans (t := A.U.calling g mk a) Y.warmed (e8 q))
end Basic
end Jvm.OwnW
namespace Jvm.OwnW
open Jvm Jvm.ClassFile Sem Op Lib Jvm.Free Jvm.Stand Jvm.LawKit Jvm.RoadKit Bundle
section Steps
variable {l : Launch} {Z : State} {EL : List (String × Nat)} {nar : Bool} {own nm : String} {bytes : ByteArray} {maxL : Nat} {ret : Option FieldType} {R : Room} {Q : Option Value → Heap → Prop} {vm : Vm} {h : Heap} {ce sl pc n n' : Nat} {Ls Ls' : Array Slot} {st rest : List Value} {a0 : Array Value}
theorem WP.iloadN {k' : Fin 4} {v : Int32} (hd : decode bytes pc = .ok (.iload_n k', 1)) (hl : Ls[k'.val]? = some (.val (.int v))) (hp : pc + 1 = n) (k : WP l Z EL nar own nm bytes maxL ret R Q vm h ce sl n Ls (.int v :: st)) : WP l Z EL nar own nm bytes maxL ret R Q vm h ce sl pc Ls (st) := by subst hp; exact WP.step (fun p e below T t m c hx hb ha q => XS.iloadN ha hx rfl (hb ▸ hd) hl q) k
theorem WP.iload {k' : Nat} {v : Int32} (hd : decode bytes pc = .ok (.iload k', 2)) (hl : Ls[k']? = some (.val (.int v))) (hp : pc + 2 = n) (k : WP l Z EL nar own nm bytes maxL ret R Q vm h ce sl n Ls (.int v :: st)) : WP l Z EL nar own nm bytes maxL ret R Q vm h ce sl pc Ls (st) := by subst hp; exact WP.step (fun p e below T t m c hx hb ha q => XS.iload ha hx rfl (hb ▸ hd) hl q) k
theorem WP.istoreN {k' : Fin 4} {v : Int32} (hd : decode bytes pc = .ok (.istore_n k', 1)) (hl : storeLocals Ls k'.val (.int v) = some Ls') (hp : pc + 1 = n) (k : WP l Z EL nar own nm bytes maxL ret R Q vm h ce sl n Ls' (rest)) : WP l Z EL nar own nm bytes maxL ret R Q vm h ce sl pc Ls (.int v :: rest) := by subst hp; exact WP.step (fun p e below T t m c hx hb ha q => XS.istoreN ha hx rfl (hb ▸ hd) rfl hl q) k
theorem WP.istore {k' : Nat} {v : Int32} (hd : decode bytes pc = .ok (.istore k', 2)) (hl : storeLocals Ls k' (.int v) = some Ls') (hp : pc + 2 = n) (k : WP l Z EL nar own nm bytes maxL ret R Q vm h ce sl n Ls' (rest)) : WP l Z EL nar own nm bytes maxL ret R Q vm h ce sl pc Ls (.int v :: rest) := by subst hp; exact WP.step (fun p e below T t m c hx hb ha q => XS.istore ha hx rfl (hb ▸ hd) rfl hl q) k
theorem WP.lloadN {k' : Fin 4} {v : Int64} (hd : decode bytes pc = .ok (.lload_n k', 1)) (hl : Ls[k'.val]? = some (.val (.long v))) (hp : pc + 1 = n) (k : WP l Z EL nar own nm bytes maxL ret R Q vm h ce sl n Ls (.long v :: st)) : WP l Z EL nar own nm bytes maxL ret R Q vm h ce sl pc Ls (st) := by subst hp; exact WP.step (fun p e below T t m c hx hb ha q => XT.lloadN ha hx rfl (hb ▸ hd) hl q) k
theorem WP.lload {k' : Nat} {v : Int64} (hd : decode bytes pc = .ok (.lload k', 2)) (hl : Ls[k']? = some (.val (.long v))) (hp : pc + 2 = n) (k : WP l Z EL nar own nm bytes maxL ret R Q vm h ce sl n Ls (.long v :: st)) : WP l Z EL nar own nm bytes maxL ret R Q vm h ce sl pc Ls (st) := by subst hp; exact WP.step (fun p e below T t m c hx hb ha q => XT.lload ha hx rfl (hb ▸ hd) hl q) k
theorem WP.lstoreN {k' : Fin 4} {v : Int64} (hd : decode bytes pc = .ok (.lstore_n k', 1)) (hl : storeLocals Ls k'.val (.long v) = some Ls') (hp : pc + 1 = n) (k : WP l Z EL nar own nm bytes maxL ret R Q vm h ce sl n Ls' (rest)) : WP l Z EL nar own nm bytes maxL ret R Q vm h ce sl pc Ls (.long v :: rest) := by subst hp; exact WP.step (fun p e below T t m c hx hb ha q => XT.lstoreN ha hx rfl (hb ▸ hd) rfl hl q) k
theorem WP.lstore {k' : Nat} {v : Int64} (hd : decode bytes pc = .ok (.lstore k', 2)) (hl : storeLocals Ls k' (.long v) = some Ls') (hp : pc + 2 = n) (k : WP l Z EL nar own nm bytes maxL ret R Q vm h ce sl n Ls' (rest)) : WP l Z EL nar own nm bytes maxL ret R Q vm h ce sl pc Ls (.long v :: rest) := by subst hp; exact WP.step (fun p e below T t m c hx hb ha q => XT.lstore ha hx rfl (hb ▸ hd) rfl hl q) k
theorem WP.aloadN {k' : Fin 4} {v : Value} (hd : decode bytes pc = .ok (.aload_n k', 1)) (hl : Ls[k'.val]? = some (.val v)) (hv : v.isRef = true) (hp : pc + 1 = n) (k : WP l Z EL nar own nm bytes maxL ret R Q vm h ce sl n Ls (v :: st)) : WP l Z EL nar own nm bytes maxL ret R Q vm h ce sl pc Ls (st) := by subst hp; exact WP.step (fun p e below T t m c hx hb ha q => XS.aloadN ha hx rfl (hb ▸ hd) hl hv q) k
theorem WP.aload {k' : Nat} {v : Value} (hd : decode bytes pc = .ok (.aload k', 2)) (hl : Ls[k']? = some (.val v)) (hv : v.isRef = true) (hp : pc + 2 = n) (k : WP l Z EL nar own nm bytes maxL ret R Q vm h ce sl n Ls (v :: st)) : WP l Z EL nar own nm bytes maxL ret R Q vm h ce sl pc Ls (st) := by subst hp; exact WP.step (fun p e below T t m c hx hb ha q => XS.aload ha hx rfl (hb ▸ hd) hl hv q) k
theorem WP.astoreN {k' : Fin 4} {v : Value} (hd : decode bytes pc = .ok (.astore_n k', 1)) (hv : v.isRef = true) (hl : storeLocals Ls k'.val v = some Ls') (hp : pc + 1 = n) (k : WP l Z EL nar own nm bytes maxL ret R Q vm h ce sl n Ls' (rest)) : WP l Z EL nar own nm bytes maxL ret R Q vm h ce sl pc Ls (v :: rest) := by subst hp; exact WP.step (fun p e below T t m c hx hb ha q => XS.astoreN ha hx rfl (hb ▸ hd) rfl hv hl q) k
theorem WP.astore {k' : Nat} {v : Value} (hd : decode bytes pc = .ok (.astore k', 2)) (hv : v.isRef = true) (hl : storeLocals Ls k' v = some Ls') (hp : pc + 2 = n) (k : WP l Z EL nar own nm bytes maxL ret R Q vm h ce sl n Ls' (rest)) : WP l Z EL nar own nm bytes maxL ret R Q vm h ce sl pc Ls (v :: rest) := by subst hp; exact WP.step (fun p e below T t m c hx hb ha q => XS.astore ha hx rfl (hb ▸ hd) rfl hv hl q) k
theorem WP.iconst {i : Int} {z : Int32} (hd : decode bytes pc = .ok (.iconst i, 1)) (hz : Int32.ofInt i = z) (hp : pc + 1 = n) (k : WP l Z EL nar own nm bytes maxL ret R Q vm h ce sl n Ls (.int z :: st)) : WP l Z EL nar own nm bytes maxL ret R Q vm h ce sl pc Ls st := by subst hp hz; exact WP.step (fun p e below T t m c hx hb ha q => XS.iconst ha hx rfl (hb ▸ hd) q) k
theorem WP.bipush {i : Int} {z : Int32} (hd : decode bytes pc = .ok (.bipush i, 2)) (hz : (Int8.ofInt i).toInt32 = z) (hp : pc + 2 = n) (k : WP l Z EL nar own nm bytes maxL ret R Q vm h ce sl n Ls (.int z :: st)) : WP l Z EL nar own nm bytes maxL ret R Q vm h ce sl pc Ls st := by subst hp hz; exact WP.step (fun p e below T t m c hx hb ha q => XS.bipush ha hx rfl (hb ▸ hd) q) k
theorem WP.sipush {i : Int} {z : Int32} (hd : decode bytes pc = .ok (.sipush i, 3)) (hz : (Int16.ofInt i).toInt32 = z) (hp : pc + 3 = n) (k : WP l Z EL nar own nm bytes maxL ret R Q vm h ce sl n Ls (.int z :: st)) : WP l Z EL nar own nm bytes maxL ret R Q vm h ce sl pc Ls st := by subst hp hz; exact WP.step (fun p e below T t m c hx hb ha q => XS.sipush ha hx rfl (hb ▸ hd) q) k
theorem WP.lconst {i : Fin 2} (hd : decode bytes pc = .ok (.lconst i, 1)) {z : Int64} (hz : Int64.ofNat i = z) (hp : pc + 1 = n) (k : WP l Z EL nar own nm bytes maxL ret R Q vm h ce sl n Ls (.long z :: st)) : WP l Z EL nar own nm bytes maxL ret R Q vm h ce sl pc Ls st := by subst hp hz; exact WP.step (fun p e below T t m c hx hb ha q => XT.lconst ha hx rfl (hb ▸ hd) q) k
theorem WP.aconstNull  (hd : decode bytes pc = .ok (.aconst_null, 1))  (hp : pc + 1 = n) (k : WP l Z EL nar own nm bytes maxL ret R Q vm h ce sl n Ls (.null :: st)) : WP l Z EL nar own nm bytes maxL ret R Q vm h ce sl pc Ls (st) := by subst hp; exact WP.step (fun p e below T t m c hx hb ha q => XS.aconstNull ha hx rfl (hb ▸ hd)  q) k
theorem WP.iadd {x y : Int32} (hd : decode bytes pc = .ok (.iadd, 1))  (hp : pc + 1 = n) (k : WP l Z EL nar own nm bytes maxL ret R Q vm h ce sl n Ls (.int (x + y) :: rest)) : WP l Z EL nar own nm bytes maxL ret R Q vm h ce sl pc Ls (.int y :: .int x :: rest) := by subst hp; exact WP.step (fun p e below T t m c hx hb ha q => XS.iadd ha hx rfl (hb ▸ hd) rfl q) k
theorem WP.isub {x y : Int32} (hd : decode bytes pc = .ok (.isub, 1))  (hp : pc + 1 = n) (k : WP l Z EL nar own nm bytes maxL ret R Q vm h ce sl n Ls (.int (x - y) :: rest)) : WP l Z EL nar own nm bytes maxL ret R Q vm h ce sl pc Ls (.int y :: .int x :: rest) := by subst hp; exact WP.step (fun p e below T t m c hx hb ha q => XS.isub ha hx rfl (hb ▸ hd) rfl q) k
theorem WP.iand {x y : Int32} (hd : decode bytes pc = .ok (.iand, 1))  (hp : pc + 1 = n) (k : WP l Z EL nar own nm bytes maxL ret R Q vm h ce sl n Ls (.int (x &&& y) :: rest)) : WP l Z EL nar own nm bytes maxL ret R Q vm h ce sl pc Ls (.int y :: .int x :: rest) := by subst hp; exact WP.step (fun p e below T t m c hx hb ha q => XS.iand ha hx rfl (hb ▸ hd) rfl q) k
theorem WP.imul {x y : Int32} (hd : decode bytes pc = .ok (.imul, 1))  (hp : pc + 1 = n) (k : WP l Z EL nar own nm bytes maxL ret R Q vm h ce sl n Ls (.int (x * y) :: rest)) : WP l Z EL nar own nm bytes maxL ret R Q vm h ce sl pc Ls (.int y :: .int x :: rest) := by subst hp; exact WP.step (fun p e below T t m c hx hb ha q => XS.imul ha hx rfl (hb ▸ hd) rfl q) k
theorem WP.ixor {x y : Int32} (hd : decode bytes pc = .ok (.ixor, 1))  (hp : pc + 1 = n) (k : WP l Z EL nar own nm bytes maxL ret R Q vm h ce sl n Ls (.int (x ^^^ y) :: rest)) : WP l Z EL nar own nm bytes maxL ret R Q vm h ce sl pc Ls (.int y :: .int x :: rest) := by subst hp; exact WP.step (fun p e below T t m c hx hb ha q => XT.ixor ha hx rfl (hb ▸ hd) rfl q) k
theorem WP.ior {x y : Int32} (hd : decode bytes pc = .ok (.ior, 1))  (hp : pc + 1 = n) (k : WP l Z EL nar own nm bytes maxL ret R Q vm h ce sl n Ls (.int (x ||| y) :: rest)) : WP l Z EL nar own nm bytes maxL ret R Q vm h ce sl pc Ls (.int y :: .int x :: rest) := by subst hp; exact WP.step (fun p e below T t m c hx hb ha q => XT.ior ha hx rfl (hb ▸ hd) rfl q) k
theorem WP.ishl {x y : Int32} (hd : decode bytes pc = .ok (.ishl, 1))  (hp : pc + 1 = n) (k : WP l Z EL nar own nm bytes maxL ret R Q vm h ce sl n Ls (.int (x <<< (y &&& 31)) :: rest)) : WP l Z EL nar own nm bytes maxL ret R Q vm h ce sl pc Ls (.int y :: .int x :: rest) := by subst hp; exact WP.step (fun p e below T t m c hx hb ha q => XT.ishl ha hx rfl (hb ▸ hd) rfl q) k
theorem WP.ishr {x y : Int32} (hd : decode bytes pc = .ok (.ishr, 1))  (hp : pc + 1 = n) (k : WP l Z EL nar own nm bytes maxL ret R Q vm h ce sl n Ls (.int (x >>> (y &&& 31)) :: rest)) : WP l Z EL nar own nm bytes maxL ret R Q vm h ce sl pc Ls (.int y :: .int x :: rest) := by subst hp; exact WP.step (fun p e below T t m c hx hb ha q => XT.ishr ha hx rfl (hb ▸ hd) rfl q) k
theorem WP.iushr {x y : Int32} (hd : decode bytes pc = .ok (.iushr, 1))  (hp : pc + 1 = n) (k : WP l Z EL nar own nm bytes maxL ret R Q vm h ce sl n Ls (.int (XT.ushr x y) :: rest)) : WP l Z EL nar own nm bytes maxL ret R Q vm h ce sl pc Ls (.int y :: .int x :: rest) := by subst hp; exact WP.step (fun p e below T t m c hx hb ha q => XT.iushr ha hx rfl (hb ▸ hd) rfl q) k
theorem WP.idiv {x y : Int32} (hd : decode bytes pc = .ok (.idiv, 1)) (hy : y ≠ 0) (hp : pc + 1 = n) (k : WP l Z EL nar own nm bytes maxL ret R Q vm h ce sl n Ls (.int (x / y) :: rest)) : WP l Z EL nar own nm bytes maxL ret R Q vm h ce sl pc Ls (.int y :: .int x :: rest) := by subst hp; exact WP.step (fun p e below T t m c hx hb ha q => XS.idiv ha hx rfl (hb ▸ hd) rfl hy q) k
theorem WP.irem {x y : Int32} (hd : decode bytes pc = .ok (.irem, 1)) (hy : y ≠ 0) (hp : pc + 1 = n) (k : WP l Z EL nar own nm bytes maxL ret R Q vm h ce sl n Ls (.int (x % y) :: rest)) : WP l Z EL nar own nm bytes maxL ret R Q vm h ce sl pc Ls (.int y :: .int x :: rest) := by subst hp; rw [← irem_eq_mod] at k; exact WP.step (fun p e below T t m c hx hb ha q => XS.irem ha hx rfl (hb ▸ hd) rfl hy q) k
theorem WP.ineg {x : Int32} (hd : decode bytes pc = .ok (.ineg, 1))  (hp : pc + 1 = n) (k : WP l Z EL nar own nm bytes maxL ret R Q vm h ce sl n Ls (.int (-x) :: rest)) : WP l Z EL nar own nm bytes maxL ret R Q vm h ce sl pc Ls (.int x :: rest) := by subst hp; exact WP.step (fun p e below T t m c hx hb ha q => XS.ineg ha hx rfl (hb ▸ hd) rfl q) k
theorem WP.iinc {k' : Nat} {cst : Int} {x z : Int32} (hd : decode bytes pc = .ok (.iinc k' cst, 3)) (hl : Ls[k']? = some (.val (.int x))) (hz : x + Int32.ofInt cst = z) (hl' : storeLocals Ls k' (.int z) = some Ls') (hp : pc + 3 = n) (k : WP l Z EL nar own nm bytes maxL ret R Q vm h ce sl n Ls' st) : WP l Z EL nar own nm bytes maxL ret R Q vm h ce sl pc Ls st := by subst hp hz; exact WP.step (fun p e below T t m c hx hb ha q => XS.iinc ha hx rfl (hb ▸ hd) hl hl' q) k
theorem WP.ladd {x y : Int64} (hd : decode bytes pc = .ok (.ladd, 1))  (hp : pc + 1 = n) (k : WP l Z EL nar own nm bytes maxL ret R Q vm h ce sl n Ls (.long (x + y) :: rest)) : WP l Z EL nar own nm bytes maxL ret R Q vm h ce sl pc Ls (.long y :: .long x :: rest) := by subst hp; exact WP.step (fun p e below T t m c hx hb ha q => XT.ladd ha hx rfl (hb ▸ hd) rfl q) k
theorem WP.lsub {x y : Int64} (hd : decode bytes pc = .ok (.lsub, 1))  (hp : pc + 1 = n) (k : WP l Z EL nar own nm bytes maxL ret R Q vm h ce sl n Ls (.long (x - y) :: rest)) : WP l Z EL nar own nm bytes maxL ret R Q vm h ce sl pc Ls (.long y :: .long x :: rest) := by subst hp; exact WP.step (fun p e below T t m c hx hb ha q => XT.lsub ha hx rfl (hb ▸ hd) rfl q) k
theorem WP.lmul {x y : Int64} (hd : decode bytes pc = .ok (.lmul, 1))  (hp : pc + 1 = n) (k : WP l Z EL nar own nm bytes maxL ret R Q vm h ce sl n Ls (.long (x * y) :: rest)) : WP l Z EL nar own nm bytes maxL ret R Q vm h ce sl pc Ls (.long y :: .long x :: rest) := by subst hp; exact WP.step (fun p e below T t m c hx hb ha q => XT.lmul ha hx rfl (hb ▸ hd) rfl q) k
theorem WP.land {x y : Int64} (hd : decode bytes pc = .ok (.land, 1))  (hp : pc + 1 = n) (k : WP l Z EL nar own nm bytes maxL ret R Q vm h ce sl n Ls (.long (x &&& y) :: rest)) : WP l Z EL nar own nm bytes maxL ret R Q vm h ce sl pc Ls (.long y :: .long x :: rest) := by subst hp; exact WP.step (fun p e below T t m c hx hb ha q => XT.land ha hx rfl (hb ▸ hd) rfl q) k
theorem WP.lor {x y : Int64} (hd : decode bytes pc = .ok (.lor, 1))  (hp : pc + 1 = n) (k : WP l Z EL nar own nm bytes maxL ret R Q vm h ce sl n Ls (.long (x ||| y) :: rest)) : WP l Z EL nar own nm bytes maxL ret R Q vm h ce sl pc Ls (.long y :: .long x :: rest) := by subst hp; exact WP.step (fun p e below T t m c hx hb ha q => XT.lor ha hx rfl (hb ▸ hd) rfl q) k
theorem WP.lxor {x y : Int64} (hd : decode bytes pc = .ok (.lxor, 1))  (hp : pc + 1 = n) (k : WP l Z EL nar own nm bytes maxL ret R Q vm h ce sl n Ls (.long (x ^^^ y) :: rest)) : WP l Z EL nar own nm bytes maxL ret R Q vm h ce sl pc Ls (.long y :: .long x :: rest) := by subst hp; exact WP.step (fun p e below T t m c hx hb ha q => XT.lxor ha hx rfl (hb ▸ hd) rfl q) k
theorem WP.lshl {x : Int64} {y : Int32} (hd : decode bytes pc = .ok (.lshl, 1))  (hp : pc + 1 = n) (k : WP l Z EL nar own nm bytes maxL ret R Q vm h ce sl n Ls (.long (x <<< (y.toInt64 &&& 63)) :: rest)) : WP l Z EL nar own nm bytes maxL ret R Q vm h ce sl pc Ls (.int y :: .long x :: rest) := by subst hp; exact WP.step (fun p e below T t m c hx hb ha q => XT.lshl ha hx rfl (hb ▸ hd) rfl q) k
theorem WP.lshr {x : Int64} {y : Int32} (hd : decode bytes pc = .ok (.lshr, 1))  (hp : pc + 1 = n) (k : WP l Z EL nar own nm bytes maxL ret R Q vm h ce sl n Ls (.long (x >>> (y.toInt64 &&& 63)) :: rest)) : WP l Z EL nar own nm bytes maxL ret R Q vm h ce sl pc Ls (.int y :: .long x :: rest) := by subst hp; exact WP.step (fun p e below T t m c hx hb ha q => XT.lshr ha hx rfl (hb ▸ hd) rfl q) k
theorem WP.lushr {x : Int64} {y : Int32} (hd : decode bytes pc = .ok (.lushr, 1))  (hp : pc + 1 = n) (k : WP l Z EL nar own nm bytes maxL ret R Q vm h ce sl n Ls (.long (XT.ushrL x y) :: rest)) : WP l Z EL nar own nm bytes maxL ret R Q vm h ce sl pc Ls (.int y :: .long x :: rest) := by subst hp; exact WP.step (fun p e below T t m c hx hb ha q => XT.lushr ha hx rfl (hb ▸ hd) rfl q) k
theorem WP.ldiv {x y : Int64} (hd : decode bytes pc = .ok (.ldiv, 1)) (hy : y ≠ 0) (hp : pc + 1 = n) (k : WP l Z EL nar own nm bytes maxL ret R Q vm h ce sl n Ls (.long (x / y) :: rest)) : WP l Z EL nar own nm bytes maxL ret R Q vm h ce sl pc Ls (.long y :: .long x :: rest) := by subst hp; exact WP.step (fun p e below T t m c hx hb ha q => XT.ldiv ha hx rfl (hb ▸ hd) rfl hy q) k
theorem WP.lrem {x y : Int64} (hd : decode bytes pc = .ok (.lrem, 1)) (hy : y ≠ 0) (hp : pc + 1 = n) (k : WP l Z EL nar own nm bytes maxL ret R Q vm h ce sl n Ls (.long (x - (x / y) * y) :: rest)) : WP l Z EL nar own nm bytes maxL ret R Q vm h ce sl pc Ls (.long y :: .long x :: rest) := by subst hp; exact WP.step (fun p e below T t m c hx hb ha q => XT.lrem ha hx rfl (hb ▸ hd) rfl hy q) k
theorem WP.lneg {x : Int64} (hd : decode bytes pc = .ok (.lneg, 1))  (hp : pc + 1 = n) (k : WP l Z EL nar own nm bytes maxL ret R Q vm h ce sl n Ls (.long (-x) :: rest)) : WP l Z EL nar own nm bytes maxL ret R Q vm h ce sl pc Ls (.long x :: rest) := by subst hp; exact WP.step (fun p e below T t m c hx hb ha q => XT.lneg ha hx rfl (hb ▸ hd) rfl q) k
theorem WP.lcmp {x y : Int64} (hd : decode bytes pc = .ok (.lcmp, 1))  (hp : pc + 1 = n) (k : WP l Z EL nar own nm bytes maxL ret R Q vm h ce sl n Ls (.int (XT.cmpL x y) :: rest)) : WP l Z EL nar own nm bytes maxL ret R Q vm h ce sl pc Ls (.long y :: .long x :: rest) := by subst hp; exact WP.step (fun p e below T t m c hx hb ha q => XT.lcmp ha hx rfl (hb ▸ hd) rfl q) k
theorem WP.i2l {x : Int32} (hd : decode bytes pc = .ok (.i2l, 1))  (hp : pc + 1 = n) (k : WP l Z EL nar own nm bytes maxL ret R Q vm h ce sl n Ls (.long x.toInt64 :: rest)) : WP l Z EL nar own nm bytes maxL ret R Q vm h ce sl pc Ls (.int x :: rest) := by subst hp; exact WP.step (fun p e below T t m c hx hb ha q => XT.i2l ha hx rfl (hb ▸ hd) rfl q) k
theorem WP.l2i {x : Int64} (hd : decode bytes pc = .ok (.l2i, 1))  (hp : pc + 1 = n) (k : WP l Z EL nar own nm bytes maxL ret R Q vm h ce sl n Ls (.int x.toInt32 :: rest)) : WP l Z EL nar own nm bytes maxL ret R Q vm h ce sl pc Ls (.long x :: rest) := by subst hp; exact WP.step (fun p e below T t m c hx hb ha q => XT.l2i ha hx rfl (hb ▸ hd) rfl q) k
theorem WP.i2b {x : Int32} (hd : decode bytes pc = .ok (.i2b, 1))  (hp : pc + 1 = n) (k : WP l Z EL nar own nm bytes maxL ret R Q vm h ce sl n Ls (.int x.toInt8.toInt32 :: rest)) : WP l Z EL nar own nm bytes maxL ret R Q vm h ce sl pc Ls (.int x :: rest) := by subst hp; exact WP.step (fun p e below T t m c hx hb ha q => XT.i2b ha hx rfl (hb ▸ hd) rfl q) k
theorem WP.i2c {x z : Int32} (hd : decode bytes pc = .ok (.i2c, 1)) (hz : x.toUInt32.toUInt16.toUInt32.toInt32 = z) (hp : pc + 1 = n) (k : WP l Z EL nar own nm bytes maxL ret R Q vm h ce sl n Ls (.int z :: rest)) : WP l Z EL nar own nm bytes maxL ret R Q vm h ce sl pc Ls (.int x :: rest) := by subst hp hz; exact WP.step (fun p e below T t m c hx hb ha q => XT.i2c ha hx rfl (hb ▸ hd) rfl q) k
theorem WP.i2s {x : Int32} (hd : decode bytes pc = .ok (.i2s, 1))  (hp : pc + 1 = n) (k : WP l Z EL nar own nm bytes maxL ret R Q vm h ce sl n Ls (.int x.toInt16.toInt32 :: rest)) : WP l Z EL nar own nm bytes maxL ret R Q vm h ce sl pc Ls (.int x :: rest) := by subst hp; exact WP.step (fun p e below T t m c hx hb ha q => XT.i2s ha hx rfl (hb ▸ hd) rfl q) k
theorem WP.dup {v : Value} (hd : decode bytes pc = .ok (.dup, 1)) (hc : v.category = 1) (hp : pc + 1 = n) (k : WP l Z EL nar own nm bytes maxL ret R Q vm h ce sl n Ls (v :: v :: rest)) : WP l Z EL nar own nm bytes maxL ret R Q vm h ce sl pc Ls (v :: rest) := by subst hp; exact WP.step (fun p e below T t m c hx hb ha q => XS.dup ha hx rfl (hb ▸ hd) rfl hc q) k
theorem WP.pop {v : Value} (hd : decode bytes pc = .ok (.pop, 1)) (hc : v.category = 1) (hp : pc + 1 = n) (k : WP l Z EL nar own nm bytes maxL ret R Q vm h ce sl n Ls (rest)) : WP l Z EL nar own nm bytes maxL ret R Q vm h ce sl pc Ls (v :: rest) := by subst hp; exact WP.step (fun p e below T t m c hx hb ha q => XT.pop ha hx rfl (hb ▸ hd) rfl hc q) k
theorem WP.dupX1 {v w : Value} (hd : decode bytes pc = .ok (.dup_x1, 1)) (hc : v.category = 1) (hc' : w.category = 1) (hp : pc + 1 = n) (k : WP l Z EL nar own nm bytes maxL ret R Q vm h ce sl n Ls (v :: w :: v :: rest)) : WP l Z EL nar own nm bytes maxL ret R Q vm h ce sl pc Ls (v :: w :: rest) := by subst hp; exact WP.step (fun p e below T t m c hx hb ha q => XT.dupX1 ha hx rfl (hb ▸ hd) rfl hc hc' q) k
theorem WP.dup2 {v w : Value} (hd : decode bytes pc = .ok (.dup2, 1)) (hc : v.category = 1) (hc' : w.category = 1) (hp : pc + 1 = n) (k : WP l Z EL nar own nm bytes maxL ret R Q vm h ce sl n Ls (v :: w :: v :: w :: rest)) : WP l Z EL nar own nm bytes maxL ret R Q vm h ce sl pc Ls (v :: w :: rest) := by subst hp; exact WP.step (fun p e below T t m c hx hb ha q => XT.dup2 ha hx rfl (hb ▸ hd) rfl hc hc' q) k
theorem WP.goto {o' : Int} (hd : decode bytes pc = .ok (.goto o', 3)) (ho : 0 ≤ (pc : Int) + o') (hn : ((pc : Int) + o').toNat = n) (k : WP l Z EL nar own nm bytes maxL ret R Q vm h ce sl n Ls st) : WP l Z EL nar own nm bytes maxL ret R Q vm h ce sl pc Ls st := WP.step (fun p e below T t m c hx hb ha q => XS.goto ha hx rfl (pc0 := pc) rfl (hb ▸ hd) ho hn q) k
theorem WP.icmpY {cd : ClassFile.Cond} {o' : Int} {x y : Int32} (hd : decode bytes pc = .ok (.if_icmp cd o', 3)) (hc : if_icmp.holds cd x y = true) (ho : 0 ≤ (pc : Int) + o') (hn : ((pc : Int) + o').toNat = n) (k : WP l Z EL nar own nm bytes maxL ret R Q vm h ce sl n Ls rest) : WP l Z EL nar own nm bytes maxL ret R Q vm h ce sl pc Ls (.int y :: .int x :: rest) := WP.step (fun p e below T t m c hx hb ha q => XS.icmpYes ha hx rfl (pc0 := pc) rfl (hb ▸ hd) rfl hc ho hn q) k
theorem WP.icmpN {cd : ClassFile.Cond} {o' : Int} {x y : Int32} (hd : decode bytes pc = .ok (.if_icmp cd o', 3)) (hc : if_icmp.holds cd x y = false) (hp : pc + 3 = n') (k : WP l Z EL nar own nm bytes maxL ret R Q vm h ce sl n' Ls rest) : WP l Z EL nar own nm bytes maxL ret R Q vm h ce sl pc Ls (.int y :: .int x :: rest) := by subst hp; exact WP.step (fun p e below T t m c hx hb ha q => XS.icmpNo ha hx rfl (hb ▸ hd) rfl hc q) k
theorem WP.ifcY {cd : ClassFile.Cond} {o' : Int} {x : Int32} (hd : decode bytes pc = .ok (.ifCond cd o', 3)) (hc : ifCond.holds cd x = true) (ho : 0 ≤ (pc : Int) + o') (hn : ((pc : Int) + o').toNat = n) (k : WP l Z EL nar own nm bytes maxL ret R Q vm h ce sl n Ls rest) : WP l Z EL nar own nm bytes maxL ret R Q vm h ce sl pc Ls (.int x :: rest) := WP.step (fun p e below T t m c hx hb ha q => XS.ifYes ha hx rfl (pc0 := pc) rfl (hb ▸ hd) rfl hc ho hn q) k
theorem WP.ifcN {cd : ClassFile.Cond} {o' : Int} {x : Int32} (hd : decode bytes pc = .ok (.ifCond cd o', 3)) (hc : ifCond.holds cd x = false) (hp : pc + 3 = n') (k : WP l Z EL nar own nm bytes maxL ret R Q vm h ce sl n' Ls rest) : WP l Z EL nar own nm bytes maxL ret R Q vm h ce sl pc Ls (.int x :: rest) := by subst hp; exact WP.step (fun p e below T t m c hx hb ha q => XS.ifNo ha hx rfl (hb ▸ hd) rfl hc q) k
theorem WP.icmp_lt {o' : Int} {x y : Int32} (hd : decode bytes pc = .ok (.if_icmp .lt o', 3)) (ho : 0 ≤ (pc : Int) + o') (hn : ((pc : Int) + o').toNat = n) (hp : pc + 3 = n') (k1 : x < y → WP l Z EL nar own nm bytes maxL ret R Q vm h ce sl n Ls rest) (k2 : ¬ x < y → WP l Z EL nar own nm bytes maxL ret R Q vm h ce sl n' Ls rest) : WP l Z EL nar own nm bytes maxL ret R Q vm h ce sl pc Ls (.int y :: .int x :: rest) := by by_cases q : x < y; exact WP.icmpY hd ((tlt q).1) ho hn (k1 q); exact WP.icmpN hd ((flt q).1) hp (k2 q)
theorem WP.if_lt {o' : Int} {x : Int32} (hd : decode bytes pc = .ok (.ifCond .lt o', 3)) (ho : 0 ≤ (pc : Int) + o') (hn : ((pc : Int) + o').toNat = n) (hp : pc + 3 = n') (k1 : x < (0 : Int32) → WP l Z EL nar own nm bytes maxL ret R Q vm h ce sl n Ls rest) (k2 : ¬ x < (0 : Int32) → WP l Z EL nar own nm bytes maxL ret R Q vm h ce sl n' Ls rest) : WP l Z EL nar own nm bytes maxL ret R Q vm h ce sl pc Ls (.int x :: rest) := by by_cases q : x < (0 : Int32); exact WP.ifcY hd ((if0 _ _).trans (tlt q).1) ho hn (k1 q); exact WP.ifcN hd ((if0 _ _).trans (flt q).1) hp (k2 q)
theorem WP.icmp_ge {o' : Int} {x y : Int32} (hd : decode bytes pc = .ok (.if_icmp .ge o', 3)) (ho : 0 ≤ (pc : Int) + o') (hn : ((pc : Int) + o').toNat = n) (hp : pc + 3 = n') (k1 : ¬ x < y → WP l Z EL nar own nm bytes maxL ret R Q vm h ce sl n Ls rest) (k2 : x < y → WP l Z EL nar own nm bytes maxL ret R Q vm h ce sl n' Ls rest) : WP l Z EL nar own nm bytes maxL ret R Q vm h ce sl pc Ls (.int y :: .int x :: rest) := by by_cases q : x < y; exact WP.icmpN hd ((tlt q).2.1) hp (k2 q); exact WP.icmpY hd ((flt q).2.1) ho hn (k1 q)
theorem WP.if_ge {o' : Int} {x : Int32} (hd : decode bytes pc = .ok (.ifCond .ge o', 3)) (ho : 0 ≤ (pc : Int) + o') (hn : ((pc : Int) + o').toNat = n) (hp : pc + 3 = n') (k1 : ¬ x < (0 : Int32) → WP l Z EL nar own nm bytes maxL ret R Q vm h ce sl n Ls rest) (k2 : x < (0 : Int32) → WP l Z EL nar own nm bytes maxL ret R Q vm h ce sl n' Ls rest) : WP l Z EL nar own nm bytes maxL ret R Q vm h ce sl pc Ls (.int x :: rest) := by by_cases q : x < (0 : Int32); exact WP.ifcN hd ((if0 _ _).trans (tlt q).2.1) hp (k2 q); exact WP.ifcY hd ((if0 _ _).trans (flt q).2.1) ho hn (k1 q)
theorem WP.icmp_gt {o' : Int} {x y : Int32} (hd : decode bytes pc = .ok (.if_icmp .gt o', 3)) (ho : 0 ≤ (pc : Int) + o') (hn : ((pc : Int) + o').toNat = n) (hp : pc + 3 = n') (k1 : y < x → WP l Z EL nar own nm bytes maxL ret R Q vm h ce sl n Ls rest) (k2 : ¬ y < x → WP l Z EL nar own nm bytes maxL ret R Q vm h ce sl n' Ls rest) : WP l Z EL nar own nm bytes maxL ret R Q vm h ce sl pc Ls (.int y :: .int x :: rest) := by by_cases q : y < x; exact WP.icmpY hd ((tlt q).2.2.1) ho hn (k1 q); exact WP.icmpN hd ((flt q).2.2.1) hp (k2 q)
theorem WP.if_gt {o' : Int} {x : Int32} (hd : decode bytes pc = .ok (.ifCond .gt o', 3)) (ho : 0 ≤ (pc : Int) + o') (hn : ((pc : Int) + o').toNat = n) (hp : pc + 3 = n') (k1 : (0 : Int32) < x → WP l Z EL nar own nm bytes maxL ret R Q vm h ce sl n Ls rest) (k2 : ¬ (0 : Int32) < x → WP l Z EL nar own nm bytes maxL ret R Q vm h ce sl n' Ls rest) : WP l Z EL nar own nm bytes maxL ret R Q vm h ce sl pc Ls (.int x :: rest) := by by_cases q : (0 : Int32) < x; exact WP.ifcY hd ((if0 _ _).trans (tlt q).2.2.1) ho hn (k1 q); exact WP.ifcN hd ((if0 _ _).trans (flt q).2.2.1) hp (k2 q)
theorem WP.icmp_le {o' : Int} {x y : Int32} (hd : decode bytes pc = .ok (.if_icmp .le o', 3)) (ho : 0 ≤ (pc : Int) + o') (hn : ((pc : Int) + o').toNat = n) (hp : pc + 3 = n') (k1 : ¬ y < x → WP l Z EL nar own nm bytes maxL ret R Q vm h ce sl n Ls rest) (k2 : y < x → WP l Z EL nar own nm bytes maxL ret R Q vm h ce sl n' Ls rest) : WP l Z EL nar own nm bytes maxL ret R Q vm h ce sl pc Ls (.int y :: .int x :: rest) := by by_cases q : y < x; exact WP.icmpN hd ((tlt q).2.2.2) hp (k2 q); exact WP.icmpY hd ((flt q).2.2.2) ho hn (k1 q)
theorem WP.if_le {o' : Int} {x : Int32} (hd : decode bytes pc = .ok (.ifCond .le o', 3)) (ho : 0 ≤ (pc : Int) + o') (hn : ((pc : Int) + o').toNat = n) (hp : pc + 3 = n') (k1 : ¬ (0 : Int32) < x → WP l Z EL nar own nm bytes maxL ret R Q vm h ce sl n Ls rest) (k2 : (0 : Int32) < x → WP l Z EL nar own nm bytes maxL ret R Q vm h ce sl n' Ls rest) : WP l Z EL nar own nm bytes maxL ret R Q vm h ce sl pc Ls (.int x :: rest) := by by_cases q : (0 : Int32) < x; exact WP.ifcN hd ((if0 _ _).trans (tlt q).2.2.2) hp (k2 q); exact WP.ifcY hd ((if0 _ _).trans (flt q).2.2.2) ho hn (k1 q)
theorem WP.icmp_eq {o' : Int} {x y : Int32} (hd : decode bytes pc = .ok (.if_icmp .eq o', 3)) (ho : 0 ≤ (pc : Int) + o') (hn : ((pc : Int) + o').toNat = n) (hp : pc + 3 = n') (k1 : x = y → WP l Z EL nar own nm bytes maxL ret R Q vm h ce sl n Ls rest) (k2 : ¬ x = y → WP l Z EL nar own nm bytes maxL ret R Q vm h ce sl n' Ls rest) : WP l Z EL nar own nm bytes maxL ret R Q vm h ce sl pc Ls (.int y :: .int x :: rest) := by by_cases q : x = y; exact WP.icmpY hd ((teq q).1) ho hn (k1 q); exact WP.icmpN hd ((feq q).1) hp (k2 q)
theorem WP.if_eq {o' : Int} {x : Int32} (hd : decode bytes pc = .ok (.ifCond .eq o', 3)) (ho : 0 ≤ (pc : Int) + o') (hn : ((pc : Int) + o').toNat = n) (hp : pc + 3 = n') (k1 : x = (0 : Int32) → WP l Z EL nar own nm bytes maxL ret R Q vm h ce sl n Ls rest) (k2 : ¬ x = (0 : Int32) → WP l Z EL nar own nm bytes maxL ret R Q vm h ce sl n' Ls rest) : WP l Z EL nar own nm bytes maxL ret R Q vm h ce sl pc Ls (.int x :: rest) := by by_cases q : x = (0 : Int32); exact WP.ifcY hd ((if0 _ _).trans (teq q).1) ho hn (k1 q); exact WP.ifcN hd ((if0 _ _).trans (feq q).1) hp (k2 q)
theorem WP.icmp_ne {o' : Int} {x y : Int32} (hd : decode bytes pc = .ok (.if_icmp .ne o', 3)) (ho : 0 ≤ (pc : Int) + o') (hn : ((pc : Int) + o').toNat = n) (hp : pc + 3 = n') (k1 : ¬ x = y → WP l Z EL nar own nm bytes maxL ret R Q vm h ce sl n Ls rest) (k2 : x = y → WP l Z EL nar own nm bytes maxL ret R Q vm h ce sl n' Ls rest) : WP l Z EL nar own nm bytes maxL ret R Q vm h ce sl pc Ls (.int y :: .int x :: rest) := by by_cases q : x = y; exact WP.icmpN hd ((teq q).2) hp (k2 q); exact WP.icmpY hd ((feq q).2) ho hn (k1 q)
theorem WP.if_ne {o' : Int} {x : Int32} (hd : decode bytes pc = .ok (.ifCond .ne o', 3)) (ho : 0 ≤ (pc : Int) + o') (hn : ((pc : Int) + o').toNat = n) (hp : pc + 3 = n') (k1 : ¬ x = (0 : Int32) → WP l Z EL nar own nm bytes maxL ret R Q vm h ce sl n Ls rest) (k2 : x = (0 : Int32) → WP l Z EL nar own nm bytes maxL ret R Q vm h ce sl n' Ls rest) : WP l Z EL nar own nm bytes maxL ret R Q vm h ce sl pc Ls (.int x :: rest) := by by_cases q : x = (0 : Int32); exact WP.ifcN hd ((if0 _ _).trans (teq q).2) hp (k2 q); exact WP.ifcY hd ((if0 _ _).trans (feq q).2) ho hn (k1 q)
theorem WP.ifnullY {o' : Int} (hd : decode bytes pc = .ok (.ifnull o', 3)) (ho : 0 ≤ (pc : Int) + o') (hn : ((pc : Int) + o').toNat = n) (k : WP l Z EL nar own nm bytes maxL ret R Q vm h ce sl n Ls rest) : WP l Z EL nar own nm bytes maxL ret R Q vm h ce sl pc Ls (.null :: rest) := WP.step (fun p e below T t m c hx hb ha q => XS.ifnullYes ha hx rfl (pc0 := pc) rfl (hb ▸ hd) rfl ho hn q) k
theorem WP.ifnullN {o' : Int} {b : Addr} (hd : decode bytes pc = .ok (.ifnull o', 3)) (hp : pc + 3 = n') (k : WP l Z EL nar own nm bytes maxL ret R Q vm h ce sl n' Ls rest) : WP l Z EL nar own nm bytes maxL ret R Q vm h ce sl pc Ls (.ref b :: rest) := by subst hp; exact WP.step (fun p e below T t m c hx hb ha q => XS.ifnullNo ha hx rfl (hb ▸ hd) rfl q) k
theorem WP.ifnonnullY {o' : Int} {b : Addr} (hd : decode bytes pc = .ok (.ifnonnull o', 3)) (ho : 0 ≤ (pc : Int) + o') (hn : ((pc : Int) + o').toNat = n) (k : WP l Z EL nar own nm bytes maxL ret R Q vm h ce sl n Ls rest) : WP l Z EL nar own nm bytes maxL ret R Q vm h ce sl pc Ls (.ref b :: rest) := WP.step (fun p e below T t m c hx hb ha q => XT.ifnonnullYes ha hx rfl (pc0 := pc) rfl (hb ▸ hd) rfl ho hn q) k
theorem WP.ifnonnullN {o' : Int} (hd : decode bytes pc = .ok (.ifnonnull o', 3)) (hp : pc + 3 = n') (k : WP l Z EL nar own nm bytes maxL ret R Q vm h ce sl n' Ls rest) : WP l Z EL nar own nm bytes maxL ret R Q vm h ce sl pc Ls (.null :: rest) := by subst hp; exact WP.step (fun p e below T t m c hx hb ha q => XT.ifnonnullNo ha hx rfl (hb ▸ hd) rfl q) k
theorem WP.acmpY {cd : ACond} {o' : Int} {x y : Value} (hd : decode bytes pc = .ok (.if_acmp cd o', 3)) (hx' : x.isRef = true) (hy' : y.isRef = true) (hc : XT.acmp cd x y = true) (ho : 0 ≤ (pc : Int) + o') (hn : ((pc : Int) + o').toNat = n) (k : WP l Z EL nar own nm bytes maxL ret R Q vm h ce sl n Ls rest) : WP l Z EL nar own nm bytes maxL ret R Q vm h ce sl pc Ls (y :: x :: rest) := WP.step (fun p e below T t m c hx hb ha q => XT.acmpYes ha hx rfl (pc0 := pc) rfl (hb ▸ hd) rfl hx' hy' hc ho hn q) k
theorem WP.acmpN {cd : ACond} {o' : Int} {x y : Value} (hd : decode bytes pc = .ok (.if_acmp cd o', 3)) (hx' : x.isRef = true) (hy' : y.isRef = true) (hc : XT.acmp cd x y = false) (hp : pc + 3 = n') (k : WP l Z EL nar own nm bytes maxL ret R Q vm h ce sl n' Ls rest) : WP l Z EL nar own nm bytes maxL ret R Q vm h ce sl pc Ls (y :: x :: rest) := by subst hp; exact WP.step (fun p e below T t m c hx hb ha q => XT.acmpNo ha hx rfl (hb ▸ hd) rfl hx' hy' hc q) k
theorem WP.getF {R0 O nf d host : String} {index : Nat} {a : Addr} {v : Value} (hd : decode bytes pc = .ok (.getfield index, 3)) (w : (Cond.fieldLink own index R0 nf d).before a0 Z = true ∨ (Cond.fieldLinkNest own index R0 nf d host).before a0 Z = true) (via : Via Z R0 O nf d) (F : Fld Z h a O nf d v) (hp : pc + 3 = n) (k : WP l Z EL nar own nm bytes maxL ret R Q vm h ce sl n Ls (v :: rest)) : WP l Z EL nar own nm bytes maxL ret R Q vm h ce sl pc Ls (.ref a :: rest) := by
  subst hp
  refine WP.look (fun p e s args below T m meth c L hx hb X hZ hown eT => ?_) k
  exact getF X hx hZ hown w via eT F (g := mkF m pc Ls (.ref a :: rest)) rfl rfl (hb ▸ hd)
theorem WP.getS {R0 O nf d : String} {index : Nat} {v : Value} (hd : decode bytes pc = .ok (.getstatic index, 3)) (w : (Cond.fieldLink own index R0 nf d).before a0 Z = true) (via : Via Z R0 O nf d) (F : Sta Z h O nf d v) (hp : pc + 3 = n) (k : WP l Z EL nar own nm bytes maxL ret R Q vm h ce sl n Ls (v :: st)) : WP l Z EL nar own nm bytes maxL ret R Q vm h ce sl pc Ls st := by
  subst hp
  refine WP.look (fun p e s args below T m meth c L hx hb X hZ hown eT => ?_) k
  exact getS (host := "") X hx hZ hown w via eT F (g := mkF m pc Ls st) rfl (hb ▸ hd)
theorem WP.getSZ {R0 O nf d : String} {index : Nat} {v : Value} (hd : decode bytes pc = .ok (.getstatic index, 3)) (w : (Cond.fieldLink own index R0 nf d).before a0 Z = true) (via : Via Z R0 O nf d) (F : Sta Z Z.heap O nf d v) (hp : pc + 3 = n) (k : WP l Z EL nar own nm bytes maxL ret R Q vm h ce sl n Ls (v :: st)) : WP l Z EL nar own nm bytes maxL ret R Q vm h ce sl pc Ls st :=
  WP.inv fun _ E _ => WP.getS hd w via (F.ext E) hp k
theorem WP.new {C : String} {index nn : Nat} {ce' sl' : Nat} (hd : decode bytes pc = .ok (.new index, 3)) (w : (Cond.classLink own index C).before a0 Z = true) (wi : (Cond.instantiable C nn).before a0 Z = true) (wz : (Cond.initialized C).before a0 Z = true) (hce : ce + 1 = ce') (hsl : sl + nn = sl') (hc : ce' ≤ R.cells) (hl : sl' ≤ R.slots) (hp : pc + 3 = n)
    (k : ∀ a h', a = h.size → Ext h h' → Exa Z h' a C → (∀ {O f d : String} {ty : FieldType}, Laid Z a0 C O f d → parseFieldDescriptor d = some ty → Fld Z h' a O f d (defaultValue ty)) → Safe Z EL vm h' a → Z.heap.size ≤ a → CHr Z EL vm h vm h' → WP l Z EL nar own nm bytes maxL ret R Q vm h' ce' sl' n Ls (.ref a :: st)) : WP l Z EL nar own nm bytes maxL ret R Q vm h ce sl pc Ls st := by
  subst hp hce hsl
  refine WP.inv fun _ hE hH => WP.make (P := fun h' => Exa Z h' h.size C ∧ ∀ {O f d : String} {ty : FieldType}, Laid Z a0 C O f d → parseFieldDescriptor d = some ty → Fld Z h' h.size O f d (defaultValue ty)) (fun p e s args below T m meth c L hx hb X hZ hown eT => ?_) fun h' E p hr => k _ h' rfl E p.1 p.2 (Safe.ext E hH (Safe.new (Nat.le_refl _))) hE.1 hr
  obtain ⟨T', h', X', e', E', A', D', -, stp⟩ := newO X hx hZ hown w wi wz eT (g := mkF m pc Ls st) rfl (hb ▸ hd) hc hl
  exact ⟨T', h', X', e', E', ⟨A', D'⟩, stp⟩
theorem WP.putF {R0 O nf d host C : String} {index kk : Nat} {ty : FieldType} {a : Addr} {v old : Value} (hd : decode bytes pc = .ok (.putfield index, 3)) (w : (Cond.fieldLink own index R0 nf d).before a0 Z = true ∨ (Cond.fieldLinkNest own index R0 nf d host).before a0 Z = true) (via : Via Z R0 O nf d) (F : Fld Z h a O nf d old) (E : Exa Z h a C)
    (L' : (Cond.lays C O nf d).before a0 Z = true ∨ ((Cond.laysFinal C O nf d).before a0 Z = true ∧ own = O ∧ nm = "<init>")) (wi : (Cond.instantiable C kk).before a0 Z = true) (hty : parseFieldDescriptor d = some ty) (hn : narrow ty v = v) (hf : fits ty v = true) (ha : Z.heap.size ≤ a) (S : Safe Z EL vm h a) (hp : pc + 3 = n)
    (k : ∀ h', Wr h h' a (Jvm.RoadKit.slotOf Z O nf d) v → CHr Z EL vm h vm h' → WP l Z EL nar own nm bytes maxL ret R Q vm h' ce sl n Ls rest) : WP l Z EL nar own nm bytes maxL ret R Q vm h ce sl pc Ls (v :: .ref a :: rest) := by
  subst hp
  refine WP.write ha (fun _ => S) (fun p e s args below T m meth c L hx hb hnm X hZ hown eT => ?_) k
  exact putF X hx hZ hown w via eT F E (L'.imp id fun q => ⟨q.1, q.2.1, hnm.trans q.2.2⟩) wi hty hn hf (g := mkF m pc Ls (v :: .ref a :: rest)) rfl rfl (hb ▸ hd)
theorem WP.putFE {R0 O nf d host C : String} {index kk : Nat} {ty : FieldType} {a : Addr} {v old : Value} (hd : decode bytes pc = .ok (.putfield index, 3)) (w : (Cond.fieldLink own index R0 nf d).before a0 Z = true ∨ (Cond.fieldLinkNest own index R0 nf d host).before a0 Z = true) (via : Via Z R0 O nf d) (F : Fld Z h a O nf d old) (E : Exa Z h a C)
    (L' : (Cond.lays C O nf d).before a0 Z = true ∨ ((Cond.laysFinal C O nf d).before a0 Z = true ∧ own = O ∧ nm = "<init>")) (wi : (Cond.instantiable C kk).before a0 Z = true) (hty : parseFieldDescriptor d = some ty) (hn : narrow ty v = v) (hf : fits ty v = true) (ha : Z.heap.size ≤ a) (hC : C ≠ "java/lang/String" ∧ C ≠ "[B") (hp : pc + 3 = n)
    (k : ∀ h', Wr h h' a (Jvm.RoadKit.slotOf Z O nf d) v → CHr Z EL vm h vm h' → WP l Z EL nar own nm bytes maxL ret R Q vm h' ce sl n Ls rest) : WP l Z EL nar own nm bytes maxL ret R Q vm h ce sl pc Ls (v :: .ref a :: rest) :=
  WP.inv fun hZ _ _ => WP.putF hd w via F E L' wi hty hn hf ha (Safe.exa hZ.alike E hC.1 hC.2) hp k
theorem WP.newP {aty : ArrayType} {x : Int32} {cap ce' sl' : Nat} {ty : FieldType} (hd : decode bytes pc = .ok (.newarray aty, 2)) (w : (Cond.arrayClass ty).before a0 Z = true) (hty : newarray.typeOf aty = ty) (hx0 : ¬ x < 0) (hcap : x.toNatClampNeg ≤ cap) (hbig : cap * 8 ≤ 536870912) (hce : ce + 1 = ce') (hsl : sl + cap = sl') (hc : ce' ≤ R.cells) (hl : sl' ≤ R.slots) (hp : pc + 2 = n)
    (k : ∀ a h' cA, a = h.size → Ext h h' → Arv Z h' a cA ty x [] (defaultValue ty) → Safe Z EL vm h' a → Z.heap.size ≤ a → CHr Z EL vm h vm h' → WP l Z EL nar own nm bytes maxL ret R Q vm h' ce' sl' n Ls (.ref a :: rest)) : WP l Z EL nar own nm bytes maxL ret R Q vm h ce sl pc Ls (.int x :: rest) := by
  subst hp hce hsl hty
  refine WP.inv fun _ hE hH => WP.make (P := fun h' => ∃ cA, Arv Z h' h.size cA (newarray.typeOf aty) x [] (defaultValue (newarray.typeOf aty))) (fun p e s args below T m meth c L hx hb X hZ hown eT => ?_) fun h' E p hr => by
    obtain ⟨cA, A⟩ := p
    exact k _ h' cA rfl E A (Safe.ext E hH (Safe.new (Nat.le_refl _))) hE.1 hr
  obtain ⟨T', h', cA, X', e', E', A', stp⟩ := newP X hx hZ w eT (g := mkF m pc Ls (.int x :: rest)) rfl (hb ▸ hd) rfl hx0 hcap hbig hc hl
  exact ⟨T', h', X', e', E', ⟨cA, Arv.new A' hx0⟩, stp⟩
theorem WP.stC {a : Addr} {cA : ClassId} {z j x y : Int32} {vs : List Value} {d : Value} {i : Nat} (hd : decode bytes pc = .ok (.castore, 1)) (A : Arv Z h a cA .char z vs d) (hj : ¬ j < 0 ∧ j < z) (hi : j.toNatClampNeg = i) (hlen : i < vs.length) (hy : Jvm.RoadKit.nar .char x = y) (ha : Z.heap.size ≤ a) (S : Safe Z EL vm h a) (hp : pc + 1 = n)
    (k : ∀ h', Wr h h' a j.toNatClampNeg (.int y) → Arv Z h' a cA .char z (vs.set i (.int y)) d → CHr Z EL vm h vm h' → WP l Z EL nar own nm bytes maxL ret R Q vm h' ce sl n Ls rest) : WP l Z EL nar own nm bytes maxL ret R Q vm h ce sl pc Ls (.int x :: .int j :: .ref a :: rest) := by
  subst hp hy
  obtain ⟨cl, A1, q1, S1, M1, H1, G1⟩ := A
  refine WP.write ha (fun _ => S) (fun p e s args below T m meth c L hx hb hnm X hZ hown eT => ?_) fun h' W r => k h' W (Arv.set A1 q1 S1 M1 H1 G1 (fits_nar_char _) W i hi hlen) r
  exact stC X hx hZ eT A1 (inb_of S1 hj) (g := mkF m pc Ls (.int x :: .int j :: .ref a :: rest)) rfl rfl (hb ▸ hd)
theorem WP.stB {a : Addr} {cA : ClassId} {z j x y : Int32} {vs : List Value} {d : Value} {i : Nat} (hd : decode bytes pc = .ok (.bastore, 1)) (A : Arv Z h a cA .byte z vs d) (hj : ¬ j < 0 ∧ j < z) (hi : j.toNatClampNeg = i) (hlen : i < vs.length) (hy : Jvm.RoadKit.nar .byte x = y) (ha : Z.heap.size ≤ a) (S : Safe Z EL vm h a) (hp : pc + 1 = n)
    (k : ∀ h', Wr h h' a j.toNatClampNeg (.int y) → Arv Z h' a cA .byte z (vs.set i (.int y)) d → CHr Z EL vm h vm h' → WP l Z EL nar own nm bytes maxL ret R Q vm h' ce sl n Ls rest) : WP l Z EL nar own nm bytes maxL ret R Q vm h ce sl pc Ls (.int x :: .int j :: .ref a :: rest) := by
  subst hp hy
  obtain ⟨cl, A1, q1, S1, M1, H1, G1⟩ := A
  refine WP.write ha (fun _ => S) (fun p e s args below T m meth c L hx hb hnm X hZ hown eT => ?_) fun h' W r => k h' W (Arv.set A1 q1 S1 M1 H1 G1 (fits_nar_byte _) W i hi hlen) r
  exact stB X hx hZ eT A1 (inb_of S1 hj) (g := mkF m pc Ls (.int x :: .int j :: .ref a :: rest)) rfl rfl (hb ▸ hd)
theorem WP.alen {ty : FieldType} {a : Addr} {cA : ClassId} {z : Int32} {vs : List Value} {d : Value} (hd : decode bytes pc = .ok (.arraylength, 1)) (A : Arv Z h a cA ty z vs d) (hp : pc + 1 = n) (k : WP l Z EL nar own nm bytes maxL ret R Q vm h ce sl n Ls (.int z :: rest)) : WP l Z EL nar own nm bytes maxL ret R Q vm h ce sl pc Ls (.ref a :: rest) := by
  subst hp
  obtain ⟨cl, A1, -, hz, hz0, -⟩ := A
  refine WP.look (Ls' := Ls) (fun p e s args below T m meth c L hx hb X hZ hown eT => ⟨T, X, eT, fun target q => ?_⟩) k
  refine X.arraylength hx (cell := cl) (by rw [eT]; exact A1.1) (State.isArrayOf_alike hZ.alike A1.2.1) (g := mkF m pc Ls (.ref a :: rest)) rfl rfl (hb ▸ hd) _ ?_
  rw [len_of hz hz0]
  exact q
theorem WP.initO {idx : Nat} {a : Addr} {Wd : Nat} (hd : decode bytes pc = .ok (.invokespecial idx, 3)) (w1 : (Cond.methodLink own idx Lib.objectInit).before a0 Z = true) (w2 : (Cond.instanceMethod Lib.objectInit).before a0 Z = true) (w3 : (Cond.code Lib.objectInit ⟨#[0xb1]⟩ 1 none).before a0 Z = true) (hsize : Ls.size = maxL) (hf : 1 ≤ R.frames) (hW : (rest.map fun v => v.category).sum ≤ Wd) (hl : Wd + 12 ≤ R.locals) (hp : pc + 3 = n)
    (k : WP l Z EL nar own nm bytes maxL ret R Q vm h ce sl n Ls rest) : WP l Z EL nar own nm bytes maxL ret R Q vm h ce sl pc Ls (.ref a :: rest) := by
  subst hp
  intro p e s m args below meth c T L cx ⟨X, hS, hZ, hown, eT, N, hE, hC, hW', hEL⟩
  obtain ⟨T', X', e', stp⟩ := initO X cx.1 hZ hown w1 w2 w3 eT (g := mkF m pc Ls (.ref a :: rest)) rfl (by rw [cx.2.2.1]; exact hsize) rfl (cx.2.1 ▸ hd) hf (W := Wd) (by show 2 * 0 + _ ≤ _; omega) hl
  obtain ⟨t, o, h1, r⟩ := k p e s m args below meth c T' L cx ⟨X', hS, hZ, hown, e', N, hE, hC, hW', hEL⟩
  exact ⟨t, o, stp _ h1, r⟩
theorem WP.retV (hd : decode bytes pc = .ok (.return_, 1)) (hr : ret = none) (hc : ce ≤ R.cells) (hsl : sl ≤ R.slots) (hq : Q none h) : WP l Z EL nar own nm bytes maxL ret R Q vm h ce sl pc Ls [] :=
  WP.done (v := none) hc hsl (fun _ => rfl) (fun p e s args below T m meth c L fs hx hb hret X hl => X.returnOut hx (hret.trans hr) (hb ▸ hd) hl) hq
theorem WP.retI {x : Int32} (hd : decode bytes pc = .ok (.ireturn, 1)) (hr : ret = some .int) (hc : ce ≤ R.cells) (hsl : sl ≤ R.slots) (hq : Q (some (.int x)) h) : WP l Z EL nar own nm bytes maxL ret R Q vm h ce sl pc Ls (.int x :: rest) :=
  WP.done (v := some (.int x)) hc hsl (fun q => by rw [hr] at q; cases q) (fun p e s args below T m meth c L fs hx hb hret X hl => retOut X hx (t := .int) (hret.trans hr) rfl (Or.inl ⟨rfl, Or.inl rfl, x, rfl⟩) (hb ▸ hd) hl) hq
theorem WP.retN {t : FieldType} {x z : Int32} (hd : decode bytes pc = .ok (.ireturn, 1)) (hr : ret = some t) (ht : t = .boolean ∨ t = .byte ∨ t = .char ∨ t = .short) (hz : Jvm.RoadKit.nar t x = z) (hc : ce ≤ R.cells) (hsl : sl ≤ R.slots) (hq : Q (some (.int z)) h) : WP l Z EL nar own nm bytes maxL ret R Q vm h ce sl pc Ls (.int x :: rest) := by
  subst hz
  exact WP.done (v := some (.int (Jvm.RoadKit.nar t x))) hc hsl (fun q => by rw [hr] at q; cases q) (fun p e s args below T m meth c L fs hx hb hret X hl => Jvm.RoadKit.retN X hx (hret.trans hr) ht (hb ▸ hd) hl) hq
theorem WP.retA {t : FieldType} {v : Value} (hd : decode bytes pc = .ok (.areturn, 1)) (hr : ret = some t) (ht : t.isReference = true) (hv : v.isRef = true) (hn : narrow t v = v) (hc : ce ≤ R.cells) (hsl : sl ≤ R.slots) (hq : Q (some v) h) : WP l Z EL nar own nm bytes maxL ret R Q vm h ce sl pc Ls (v :: rest) :=
  WP.done (v := some v) hc hsl (fun q => by rw [hr] at q; cases q) (fun p e s args below T m meth c L fs hx hb hret X hl => retOut X hx (t := t) (hret.trans hr) hn (Or.inr (Or.inr (Or.inr (Or.inr ⟨rfl, ht, hv⟩)))) (hb ▸ hd) hl) hq
theorem WP.callS {sf : List Addr} {y : MethodName} {yb : ByteArray} {yl : Nat} {yr : Option FieldType} {rm : Room} {as' : Array Value} {Qy : Option Value → Heap → Prop} {index Wd ce' sl' : Nat} (C : Con l Z EL nar sf y yb yl yr rm as' h Qy) (hd : decode bytes pc = .ok (.invokestatic index, 3)) (w1 : (Cond.methodLink own index y).before a0 Z = true) (w2 : (Cond.static y).before a0 Z = true) (wz : (Cond.initialized y.cls).before a0 Z = true) (wc : (Cond.code y yb yl yr).before a0 Z = true) (hy : y.cls ≠ "java/lang/invoke/MethodHandle" ∧ y.cls ≠ "java/lang/invoke/VarHandle") (hsf : ∀ x ∈ sf, Safe Z EL vm h x ∧ x < h.size) (hf : rm.frames + 1 ≤ R.frames) (hl : Wd + (yl + 11) + rm.locals ≤ R.locals) (hce : ce + rm.cells = ce') (hsl : sl + rm.slots = sl') (hc : ce' ≤ R.cells) (hs : sl' ≤ R.slots) (hsize : Ls.size = maxL) {argsL : List Value} (hargs : argsL.toArray = as') (hlen : ∀ sig, parseMethodDescriptor y.desc = some sig → argsL.length = sig.parameters.length) (hst : st = argsL.reverse ++ rest) (hWd : (rest.map fun v => v.category).sum ≤ Wd) (hp : pc + 3 = n)
    (k : ∀ v vm' h', Qy v h' → CHr Z EL vm h vm' h' → WP l Z EL nar own nm bytes maxL ret R Q vm' h' ce' sl' n Ls (v.toList ++ rest)) : WP l Z EL nar own nm bytes maxL ret R Q vm h ce sl pc Ls st := by
  subst hp hce hsl
  intro p e s m args below meth c T L cx ⟨X, ⟨k0, hS, hk⟩, hZ, hown, eT, N, hE, hC, hW', a1, hEL⟩
  have hB := C.back (R := R) (p := p) (e := e) (below := below) (s := s) (args := args) (len := 3) (Wd := Wd) hEL hZ wc wz hf hl hE hC.1 hsf
  obtain ⟨v, vm₁, ⟨U, L', ke, ks⟩, hw1, X', hS', hg', ⟨Lq, q1, q2, q3, q4, q5, q6, q7, q8⟩, stp⟩ := callSS X cx.1 hown (mvT (s := s.setVm vm) hZ w1) (mvT (s := s.setVm vm) hZ w2) (mvT (s := s.setVm vm) hZ wz) (mvT (s := s.setVm vm) hZ wc) hy hB (g := mkF m pc Ls st) rfl (by rw [cx.2.2.1]; exact hsize) (argsL := argsL) (rest := rest) hlen hst (by show 2 * 0 + _ ≤ _; omega) (cx.2.1 ▸ hd) (fun _ _ => ⟨hargs, eT, hc, hs⟩)
  dsimp only [Pt.U, Pt.locs, Pt.cells, Pt.slots] at X' hS' hg' q1 q2 q4 q5 q6 q7 q8 stp
  subst q4 q5 q6
  obtain ⟨t, o, h1, r⟩ := k v U.vm U.heap q1 q7 p e s m args below meth c U _ cx ⟨X', ⟨_, hS.trans hS' (Nat.le_trans hk (by rw [← eT]; exact hg')), Nat.le_refl _⟩, State.Warmed39.trans (t := s.setVm vm) hZ hS'.1, (hS'.1.alike.findClass _ _).trans hown, rfl, Fr.app N q3, q2, hC.trans q7, fun q => State.WarmedH.trans (t := s.setVm vm) (hW' q) (q8 q), a1, hEL⟩
  exact ⟨t, o, stp.trans h1, r⟩
theorem WP.callP {sf : List Addr} {y : MethodName} {yb : ByteArray} {yl : Nat} {rm : Room} {as' : Array Value} {Qy : Option Value → Heap → Prop} {index Wd ce' sl' : Nat} (C : Con l Z EL nar sf y yb yl none rm as' h Qy) (hd : decode bytes pc = .ok (.invokespecial index, 3)) (hy1 : y.name = "<init>") (w1 : (Cond.methodLink own index y).before a0 Z = true) (w2 : (Cond.instanceMethod y).before a0 Z = true) (wz : (Cond.initialized y.cls).before a0 Z = true) (wc : (Cond.code y yb yl none).before a0 Z = true) (hy : y.cls ≠ "java/lang/invoke/MethodHandle" ∧ y.cls ≠ "java/lang/invoke/VarHandle") (hsf : ∀ x ∈ sf, Safe Z EL vm h x ∧ x < h.size) (hf : rm.frames + 1 ≤ R.frames) (hl : Wd + (yl + 11) + rm.locals ≤ R.locals) (hce : ce + rm.cells = ce') (hsl : sl + rm.slots = sl') (hc : ce' ≤ R.cells) (hs : sl' ≤ R.slots) (hsize : Ls.size = maxL) {a : Addr} {argsL : List Value} (hargs : (Value.ref a :: argsL).toArray = as') (hlen : ∀ sig, parseMethodDescriptor y.desc = some sig → argsL.length = sig.parameters.length) (hst : st = argsL.reverse ++ .ref a :: rest) (hWd : (rest.map fun v => v.category).sum ≤ Wd) (hp : pc + 3 = n)
    (k : ∀ v vm' h', Qy v h' → CHr Z EL vm h vm' h' → WP l Z EL nar own nm bytes maxL ret R Q vm' h' ce' sl' n Ls (v.toList ++ rest)) : WP l Z EL nar own nm bytes maxL ret R Q vm h ce sl pc Ls st := by
  subst hp hce hsl
  intro p e s m args below meth c T L cx ⟨X, ⟨k0, hS, hk⟩, hZ, hown, eT, N, hE, hC, hW', a1, hEL⟩
  have hB := C.back (R := R) (p := p) (e := e) (below := below) (s := s) (args := args) (len := 3) (Wd := Wd) hEL hZ wc wz hf hl hE hC.1 hsf
  obtain ⟨v, vm₁, ⟨U, L', ke, ks⟩, hw1, X', hS', hg', ⟨Lq, q1, q2, q3, q4, q5, q6, q7, q8⟩, stp⟩ := X.specialBackS cx.1 hy1 hown (mvT (s := s.setVm vm) hZ w1) (mvT (s := s.setVm vm) hZ w2) (mvT (s := s.setVm vm) hZ wc) hy hB (g := mkF m pc Ls st) rfl (by rw [cx.2.2.1]; exact hsize) (Steps.refl _) (a := a) (argsL := argsL) (rest := rest) hlen hst (by show 2 * 0 + _ ≤ _; omega) (cx.2.1 ▸ hd) (fun _ _ => ⟨hargs, eT, hc, hs⟩)
  dsimp only [Pt.U, Pt.locs, Pt.cells, Pt.slots] at X' hS' hg' q1 q2 q4 q5 q6 q7 q8 stp
  subst q4 q5 q6
  obtain ⟨t, o, h1, r⟩ := k v U.vm U.heap q1 q7 p e s m args below meth c U _ cx ⟨X', ⟨_, hS.trans hS' (Nat.le_trans hk (by rw [← eT]; exact hg')), Nat.le_refl _⟩, State.Warmed39.trans (t := s.setVm vm) hZ hS'.1, (hS'.1.alike.findClass _ _).trans hown, rfl, Fr.app N q3, q2, hC.trans q7, fun q => State.WarmedH.trans (t := s.setVm vm) (hW' q) (q8 q), a1, hEL⟩
  exact ⟨t, o, stp.trans h1, r⟩
theorem WP.callV {sf : List Addr} {y : MethodName} {yb : ByteArray} {yl : Nat} {yr : Option FieldType} {rm : Room} {as' : Array Value} {Qy : Option Value → Heap → Prop} {index Wd ce' sl' : Nat} {x : MethodName} {Cn : String} {a : Addr} (C : Con l Z EL nar sf y yb yl yr rm as' h Qy) (E : Exa Z h a Cn) (hd : decode bytes pc = .ok (.invokevirtual index, 3)) (w1 : (Cond.methodLink own index x).before a0 Z = true) (w2 : (Cond.declares x).before a0 Z = true) (w3 : (Cond.selects Cn x y).before a0 Z = true) (w4 : (Cond.instanceMethod y).before a0 Z = true) (wz : (Cond.initialized y.cls).before a0 Z = true) (wc : (Cond.code y yb yl yr).before a0 Z = true) (hy : x.cls ≠ "java/lang/invoke/MethodHandle" ∧ x.cls ≠ "java/lang/invoke/VarHandle") (hnf : ∀ s : State, Z.Warmed39 s.vm → NotFace s x) (hsf : ∀ x ∈ sf, Safe Z EL vm h x ∧ x < h.size) (hf : rm.frames + 1 ≤ R.frames) (hl : Wd + (yl + 11) + rm.locals ≤ R.locals) (hce : ce + rm.cells = ce') (hsl : sl + rm.slots = sl') (hc : ce' ≤ R.cells) (hs : sl' ≤ R.slots) (hsize : Ls.size = maxL) {argsL : List Value} (hargs : (Value.ref a :: argsL).toArray = as') (hlen : ∀ sig, parseMethodDescriptor x.desc = some sig → argsL.length = sig.parameters.length) (hst : st = argsL.reverse ++ .ref a :: rest) (hWd : (rest.map fun v => v.category).sum ≤ Wd) (hp : pc + 3 = n)
    (k : ∀ v vm' h', Qy v h' → CHr Z EL vm h vm' h' → WP l Z EL nar own nm bytes maxL ret R Q vm' h' ce' sl' n Ls (v.toList ++ rest)) : WP l Z EL nar own nm bytes maxL ret R Q vm h ce sl pc Ls st := by
  subst hp hce hsl
  intro p e s m args below meth c T L cx ⟨X, ⟨k0, hS, hk⟩, hZ, hown, eT, N, hE, hC, hW', a1, hEL⟩
  have hB := C.back (R := R) (p := p) (e := e) (below := below) (s := s) (args := args) (len := 3) (Wd := Wd) hEL hZ wc wz hf hl hE hC.1 hsf
  obtain ⟨cq, kq, qa, qb, qc⟩ := isOf (s := s.setVm vm) hZ eT E
  obtain ⟨v, vm₁, ⟨U, L', ke, ks⟩, hw1, X', hS', hg', ⟨Lq, q1, q2, q3, q4, q5, q6, q7, q8⟩, stp⟩ := X.virtualBackS cx.1 hown (mvT (s := s.setVm vm) hZ w1) (mvT (s := s.setVm vm) hZ w2) (hnf _ hZ) (mvT (s := s.setVm vm) hZ w3) (mvT (s := s.setVm vm) hZ w4) hy hB qa qc (g := mkF m pc Ls st) rfl (by rw [cx.2.2.1]; exact hsize) (Steps.refl _) (argsL := argsL) (rest := rest) hlen hst (by show 2 * 0 + _ ≤ _; omega) (cx.2.1 ▸ hd) (fun _ _ => ⟨hargs, eT, hc, hs⟩)
  dsimp only [Pt.U, Pt.locs, Pt.cells, Pt.slots] at X' hS' hg' q1 q2 q4 q5 q6 q7 q8 stp
  subst q4 q5 q6
  obtain ⟨t, o, h1, r⟩ := k v U.vm U.heap q1 q7 p e s m args below meth c U _ cx ⟨X', ⟨_, hS.trans hS' (Nat.le_trans hk (by rw [← eT]; exact hg')), Nat.le_refl _⟩, State.Warmed39.trans (t := s.setVm vm) hZ hS'.1, (hS'.1.alike.findClass _ _).trans hown, rfl, Fr.app N q3, q2, hC.trans q7, fun q => State.WarmedH.trans (t := s.setVm vm) (hW' q) (q8 q), a1, hEL⟩
  exact ⟨t, o, stp.trans h1, r⟩
theorem WP.backP {y : MethodName} {as' : Array Value} {Qy : Option Value → Heap → List Loc → Prop} {index Wd kc ks ce' sl' : Nat} {yb : ByteArray} {yl : Nat} (hK : ∀ (p : Program) (e : Env) (below : List Frame) (s : State) (args : Array Value), Z.Warmed39 (s.setVm vm).vm → Back l R p e below (s.setVm vm) args y 3 Wd (fun A a => a = as' ∧ A.U.heap = h ∧ A.cells + kc ≤ R.cells ∧ A.slots + ks ≤ R.slots) (fun A _ v B => ∃ L, Qy v B.U.heap L ∧ B.locs = A.locs ++ L ∧ B.cells = A.cells + kc ∧ B.slots = A.slots + ks)) (hq : ∀ v h' L, Qy v h' L → Fr Z.heap.size L ∧ Ext Z.heap h' ∧ CHr Z EL vm h vm h') (hd : decode bytes pc = .ok (.invokespecial index, 3)) (hy1 : y.name = "<init>") (w1 : (Cond.methodLink own index y).before a0 Z = true) (w2 : (Cond.instanceMethod y).before a0 Z = true) (wc : (Cond.code y yb yl none).before a0 Z = true) (hy : y.cls ≠ "java/lang/invoke/MethodHandle" ∧ y.cls ≠ "java/lang/invoke/VarHandle") (hce : ce + kc = ce') (hsl : sl + ks = sl') (hc : ce' ≤ R.cells) (hs : sl' ≤ R.slots) (hsize : Ls.size = maxL) {a : Addr} {argsL : List Value} (hargs : (Value.ref a :: argsL).toArray = as') (hlen : ∀ sig, parseMethodDescriptor y.desc = some sig → argsL.length = sig.parameters.length) (hst : st = argsL.reverse ++ .ref a :: rest) (hWd : (rest.map fun v => v.category).sum ≤ Wd) (hp : pc + 3 = n)
    (k : ∀ v h' L, Qy v h' L → CHr Z EL vm h vm h' → WP l Z EL nar own nm bytes maxL ret R Q vm h' ce' sl' n Ls (v.toList ++ rest)) : WP l Z EL nar own nm bytes maxL ret R Q vm h ce sl pc Ls st := by
  subst hp hce hsl
  intro p e s m args below meth c T L cx ⟨X, ⟨k0, hS, hk⟩, hZ, hown, eT, N, hE, hC, hW', a1, hEL⟩
  obtain ⟨v, vm₁, ⟨U, L', ke, ks'⟩, hw1, X', ⟨Lq, q1, q4, q5, q6⟩, stp⟩ := X.specialBack cx.1 hy1 hown (mvT (s := s.setVm vm) hZ w1) (mvT (s := s.setVm vm) hZ w2) (mvT (s := s.setVm vm) hZ wc) hy (hK p e below s args hZ) (g := mkF m pc Ls st) rfl (by rw [cx.2.2.1]; exact hsize) (Steps.refl _) (a := a) (argsL := argsL) (rest := rest) hlen hst (by show 2 * 0 + _ ≤ _; omega) (cx.2.1 ▸ hd) (fun _ _ => ⟨hargs, eT, hc, hs⟩)
  dsimp only [Pt.U, Pt.locs, Pt.cells, Pt.slots] at X' q1 q4 q5 q6 stp
  subst q4 q5 q6
  obtain ⟨r1, r2, r3⟩ := hq _ _ _ q1
  obtain ⟨t, o, h1, r⟩ := k v U.heap Lq q1 r3 p e s m args below meth c U _ cx ⟨X', ⟨k0, hS, Nat.le_trans hk r3.2.1⟩, hZ, hown, rfl, Fr.app N r1, r2, hC.trans r3, hW', a1, hEL⟩
  exact ⟨t, o, stp.trans h1, r⟩
theorem WP.backV {y : MethodName} {as' : Array Value} {Qy : Option Value → Heap → List Loc → Prop} {index Wd kc ks ce' sl' : Nat} {x : MethodName} {Cn : String} {a : Addr} (hK : ∀ (p : Program) (e : Env) (below : List Frame) (s : State) (args : Array Value), Z.Warmed39 (s.setVm vm).vm → Back l R p e below (s.setVm vm) args y 3 Wd (fun A a => a = as' ∧ A.U.heap = h ∧ A.cells + kc ≤ R.cells ∧ A.slots + ks ≤ R.slots) (fun A _ v B => ∃ L, Qy v B.U.heap L ∧ B.locs = A.locs ++ L ∧ B.cells = A.cells + kc ∧ B.slots = A.slots + ks)) (hq : ∀ v h' L, Qy v h' L → Fr Z.heap.size L ∧ Ext Z.heap h' ∧ CHr Z EL vm h vm h') (E : Exa Z h a Cn) (hd : decode bytes pc = .ok (.invokevirtual index, 3)) (w1 : (Cond.methodLink own index x).before a0 Z = true) (w2 : (Cond.declares x).before a0 Z = true) (w3 : (Cond.selects Cn x y).before a0 Z = true) (w4 : (Cond.instanceMethod y).before a0 Z = true) (hy : x.cls ≠ "java/lang/invoke/MethodHandle" ∧ x.cls ≠ "java/lang/invoke/VarHandle") (hnf : ∀ s : State, Z.Warmed39 s.vm → NotFace s x) (hce : ce + kc = ce') (hsl : sl + ks = sl') (hc : ce' ≤ R.cells) (hs : sl' ≤ R.slots) (hsize : Ls.size = maxL) {argsL : List Value} (hargs : (Value.ref a :: argsL).toArray = as') (hlen : ∀ sig, parseMethodDescriptor x.desc = some sig → argsL.length = sig.parameters.length) (hst : st = argsL.reverse ++ .ref a :: rest) (hWd : (rest.map fun v => v.category).sum ≤ Wd) (hp : pc + 3 = n)
    (k : ∀ v h' L, Qy v h' L → CHr Z EL vm h vm h' → WP l Z EL nar own nm bytes maxL ret R Q vm h' ce' sl' n Ls (v.toList ++ rest)) : WP l Z EL nar own nm bytes maxL ret R Q vm h ce sl pc Ls st := by
  subst hp hce hsl
  intro p e s m args below meth c T L cx ⟨X, ⟨k0, hS, hk⟩, hZ, hown, eT, N, hE, hC, hW', a1, hEL⟩
  obtain ⟨cq, kq, qa, qb, qc⟩ := isOf (s := s.setVm vm) hZ eT E
  obtain ⟨v, vm₁, ⟨U, L', ke, ks'⟩, hw1, X', ⟨Lq, q1, q4, q5, q6⟩, stp⟩ := X.virtualBack cx.1 hown (mvT (s := s.setVm vm) hZ w1) (mvT (s := s.setVm vm) hZ w2) (hnf _ hZ) (mvT (s := s.setVm vm) hZ w3) (mvT (s := s.setVm vm) hZ w4) hy (hK p e below s args hZ) qa qc (g := mkF m pc Ls st) rfl (by rw [cx.2.2.1]; exact hsize) (Steps.refl _) (argsL := argsL) (rest := rest) hlen hst (by show 2 * 0 + _ ≤ _; omega) (cx.2.1 ▸ hd) (fun _ _ => ⟨hargs, eT, hc, hs⟩)
  dsimp only [Pt.U, Pt.locs, Pt.cells, Pt.slots] at X' q1 q4 q5 q6 stp
  subst q4 q5 q6
  obtain ⟨r1, r2, r3⟩ := hq _ _ _ q1
  obtain ⟨t, o, h1, r⟩ := k v U.heap Lq q1 r3 p e s m args below meth c U _ cx ⟨X', ⟨k0, hS, Nat.le_trans hk r3.2.1⟩, hZ, hown, rfl, Fr.app N r1, r2, hC.trans r3, hW', a1, hEL⟩
  exact ⟨t, o, stp.trans h1, r⟩
theorem WP.ldcO {index : Nat} {text : String} {nn ce' sl' : Nat} (hd : decode bytes pc = .ok (.ldc index, 2)) (hnar : nar = false) (w : (Cond.stringLink own index text).before a0 Z = true) (wS : ∀ a ∈ Bundle.stringAtoms, a.before a0 Z = true) (hn : 4 * text.toList.length ≤ nn) (hbig : nn ≤ 536870912) (hce : ce + 2 = ce') (hsl : sl + (nn + 4) = sl') (hc : ce' ≤ R.cells) (hl : sl' ≤ R.slots) (hEL : EW Z a0 EL) (hp : pc + 2 = n)
    (k : ∀ a vm' h', Ext h h' → CHr Z EL vm h vm' h' → WP l Z EL nar own nm bytes maxL ret R Q vm' h' ce' sl' n Ls (.ref a :: st)) : WP l Z EL nar own nm bytes maxL ret R Q vm h ce sl pc Ls st := by
  subst hp hce hsl
  intro p e s m args below meth c T L cx ⟨X, ⟨k0, hS, hk⟩, hZ, hown, eT, N, hE, hC, hW', hEL'⟩
  obtain ⟨a, T', h', k1, X', e', E', hS', hk', hZ', hown', hr, -, stp⟩ := ldcOH X cx.1 hZ hown w wS eT hS hk hEL hC.1 (g := mkF m pc Ls st) rfl (cx.2.1 ▸ hd) hn hbig hc hl
  obtain ⟨t, o, h1, r⟩ := k a T'.vm h' E' hr p e s m args below meth c T' L cx ⟨X', ⟨k1, hS', hk'⟩, hZ', hown', e', N, ext_trans hE E', hC.trans hr, (fun q => by rw [hnar] at q; cases q), hEL'⟩
  exact ⟨t, o, stp _ h1, r⟩
theorem WP.ldcC {index : Nat} {text : String} {nn ce' sl' : Nat} {vs : List Value} {z : Int32} (hd : decode bytes pc = .ok (.ldc index, 2)) (hnar : nar = false) (w : (Cond.stringLink own index text).before a0 Z = true) (wS : ∀ a ∈ Bundle.stringAtoms, a.before a0 Z = true) (hmem : (own, index) ∈ EL) (ht : (∀ c ∈ text.toList, c.toNat < 256) ∧ text.toList.map (fun c => Value.int (Jvm.Lit.byteI c.toNat.toUInt16)) = vs) (hz : ¬ z < 0) (hzl : z.toNatClampNeg = vs.length) (hn : 4 * text.toList.length ≤ nn) (hbig : nn ≤ 536870912) (hce : ce + 2 = ce') (hsl : sl + (nn + 4) = sl') (hc : ce' ≤ R.cells) (hl : sl' ≤ R.slots) (hEL : EW Z a0 EL) (hp : pc + 2 = n)
    (k : ∀ a b kb vm' h', Ext h h' → CHr Z EL vm h vm' h' → Exa Z h' a "java/lang/String" → Fld Z h' a "java/lang/String" "coder" "B" (.int 0) → Fld Z h' a "java/lang/String" "value" "[B" (.ref b) → Arv Z h' b kb .byte z vs (.int 0) → Lit (Z.setVm vm') own index a → (∀ x, Safe Z EL vm' h' x → x ≠ a ∧ x ≠ b) → WP l Z EL nar own nm bytes maxL ret R Q vm' h' ce' sl' n Ls (.ref a :: st)) : WP l Z EL nar own nm bytes maxL ret R Q vm h ce sl pc Ls st := by
  subst hp hce hsl
  intro p e s m args below meth c T L cx ⟨X, ⟨k0, hS, hk⟩, hZ, hown, eT, N, hE, hC, hW', hEL'⟩
  obtain ⟨a, T', h', k1, b, kb, X', e', E', hS', hk', hZ', hown', f1, f2, f3, f4, -, -, hr, hLi, hNe, stp⟩ := ldcCH X cx.1 hZ hown w wS eT hS hk hEL hmem hC.1 ht hz hzl (g := mkF m pc Ls st) rfl (cx.2.1 ▸ hd) hn hbig hc hl
  obtain ⟨t, o, h1, r⟩ := k a b kb T'.vm h' E' hr f1 f2 f3 f4 hLi hNe p e s m args below meth c T' L cx ⟨X', ⟨k1, hS', hk'⟩, hZ', hown', e', N, ext_trans hE E', hC.trans hr, (fun q => by rw [hnar] at q; cases q), hEL'⟩
  exact ⟨t, o, stp _ h1, r⟩
theorem WP.baload {a : Addr} {cA : ClassId} {z j : Int32} {vs : List Value} {d v : Value} (hd : decode bytes pc = .ok (.baload, 1)) (A : Arv Z h a cA .byte z vs d) (hj : ¬ j < 0 ∧ j < z) (hv : vs.getD j.toNatClampNeg d = v) (hp : pc + 1 = n) (k : WP l Z EL nar own nm bytes maxL ret R Q vm h ce sl n Ls (v :: rest)) : WP l Z EL nar own nm bytes maxL ret R Q vm h ce sl pc Ls (.int j :: .ref a :: rest) := by
  subst hp
  obtain ⟨cl, A1, q1, S1, M1, H1, G1⟩ := A
  refine WP.look (Ls' := Ls) (fun p e s args below T m meth c L hx hb X hZ hown eT => ⟨T, X, eT, fun target q => ?_⟩) k
  exact X.baloadBytes hx (j := j) (v := v) (by rw [eT]; exact A1.1) (State.isArrayOf_alike hZ.alike A1.2.1) A1.2.2 (inb_of S1 hj) (H1.at (inb_of S1 hj) hv) (g := mkF m pc Ls (.int j :: .ref a :: rest)) rfl rfl (hb ▸ hd) _ q
theorem WP.caload {a : Addr} {cA : ClassId} {z j : Int32} {vs : List Value} {d v : Value} (hd : decode bytes pc = .ok (.caload, 1)) (A : Arv Z h a cA .char z vs d) (hj : ¬ j < 0 ∧ j < z) (hv : vs.getD j.toNatClampNeg d = v) (hp : pc + 1 = n) (k : WP l Z EL nar own nm bytes maxL ret R Q vm h ce sl n Ls (v :: rest)) : WP l Z EL nar own nm bytes maxL ret R Q vm h ce sl pc Ls (.int j :: .ref a :: rest) := by
  subst hp
  obtain ⟨cl, A1, q1, S1, M1, H1, G1⟩ := A
  refine WP.look (Ls' := Ls) (fun p e s args below T m meth c L hx hb X hZ hown eT => ⟨T, X, eT, fun target q => ?_⟩) k
  exact X.caload hx (j := j) (v := v) (by rw [eT]; exact A1.1) (State.isArrayOf_alike hZ.alike A1.2.1) A1.2.2 (inb_of S1 hj) (H1.at (inb_of S1 hj) hv) (g := mkF m pc Ls (.int j :: .ref a :: rest)) rfl rfl (hb ▸ hd) _ q
theorem WP.iaload {a : Addr} {cA : ClassId} {z j : Int32} {vs : List Value} {d v : Value} (hd : decode bytes pc = .ok (.iaload, 1)) (A : Arv Z h a cA .int z vs d) (hj : ¬ j < 0 ∧ j < z) (hv : vs.getD j.toNatClampNeg d = v) (hp : pc + 1 = n) (k : WP l Z EL nar own nm bytes maxL ret R Q vm h ce sl n Ls (v :: rest)) : WP l Z EL nar own nm bytes maxL ret R Q vm h ce sl pc Ls (.int j :: .ref a :: rest) := by
  subst hp
  obtain ⟨cl, A1, q1, S1, M1, H1, G1⟩ := A
  refine WP.look (Ls' := Ls) (fun p e s args below T m meth c L hx hb X hZ hown eT => ⟨T, X, eT, fun target q => ?_⟩) k
  exact X.iaload hx (j := j) (v := v) (by rw [eT]; exact A1.1) (State.isArrayOf_alike hZ.alike A1.2.1) A1.2.2 (inb_of S1 hj) (H1.at (inb_of S1 hj) hv) (g := mkF m pc Ls (.int j :: .ref a :: rest)) rfl rfl (hb ▸ hd) _ q
theorem WP.castY {K : String} {index : Nat} {a : Addr} (hd : decode bytes pc = .ok (.checkcast index, 3)) (w : (Cond.classLink own index K).before a0 Z = true) (F : Ins Z h a K true) (hp : pc + 3 = n) (k : WP l Z EL nar own nm bytes maxL ret R Q vm h ce sl n Ls (.ref a :: rest)) : WP l Z EL nar own nm bytes maxL ret R Q vm h ce sl pc Ls (.ref a :: rest) := by
  subst hp
  refine WP.look (fun p e s args below T m meth c L hx hb X hZ hown eT => ?_) k
  exact castY X hx hZ hown w eT F (g := mkF m pc Ls (.ref a :: rest)) rfl rfl (hb ▸ hd)
theorem WP.instY {K : String} {index : Nat} {a : Addr} (hd : decode bytes pc = .ok (.instanceof index, 3)) (w : (Cond.classLink own index K).before a0 Z = true) (F : Ins Z h a K true) (hp : pc + 3 = n) (k : WP l Z EL nar own nm bytes maxL ret R Q vm h ce sl n Ls (.int 1 :: rest)) : WP l Z EL nar own nm bytes maxL ret R Q vm h ce sl pc Ls (.ref a :: rest) := by
  subst hp
  refine WP.look (fun p e s args below T m meth c L hx hb X hZ hown eT => ?_) k
  exact instY X hx hZ hown w eT F (g := mkF m pc Ls (.ref a :: rest)) rfl rfl (hb ▸ hd)
theorem WP.instNo {K C : String} {index : Nat} {a : Addr} (hd : decode bytes pc = .ok (.instanceof index, 3)) (w : (Cond.classLink own index K).before a0 Z = true) (E : Exa Z h a C) (F : ∃ c t, Z.vm.findClass C = some c ∧ Z.vm.findClass K = some t ∧ Z.vm.assignable c t = false) (hp : pc + 3 = n) (k : WP l Z EL nar own nm bytes maxL ret R Q vm h ce sl n Ls (.int 0 :: rest)) : WP l Z EL nar own nm bytes maxL ret R Q vm h ce sl pc Ls (.ref a :: rest) := by
  subst hp
  refine WP.look (fun p e s args below T m meth c L hx hb X hZ hown eT => ?_) k
  exact instNo X hx hZ hown w eT E F (g := mkF m pc Ls (.ref a :: rest)) rfl rfl (hb ▸ hd)
theorem WP.instNull {index : Nat} (hd : decode bytes pc = .ok (.instanceof index, 3)) (hp : pc + 3 = n) (k : WP l Z EL nar own nm bytes maxL ret R Q vm h ce sl n Ls (.int 0 :: rest)) : WP l Z EL nar own nm bytes maxL ret R Q vm h ce sl pc Ls (.null :: rest) := by
  subst hp
  refine WP.look (Ls' := Ls) (fun p e s args below T m meth c L hx hb X hZ hown eT => ⟨T, X, eT, fun target q => ?_⟩) k
  exact X.instanceofNull hx (g := mkF m pc Ls (.null :: rest)) rfl rfl (hb ▸ hd) _ q
theorem WP.castNull {index : Nat} (hd : decode bytes pc = .ok (.checkcast index, 3)) (hp : pc + 3 = n) (k : WP l Z EL nar own nm bytes maxL ret R Q vm h ce sl n Ls (.null :: rest)) : WP l Z EL nar own nm bytes maxL ret R Q vm h ce sl pc Ls (.null :: rest) := by
  subst hp
  refine WP.look (Ls' := Ls) (fun p e s args below T m meth c L hx hb X hZ hown eT => ⟨T, X, eT, fun target q => ?_⟩) k
  exact X.checkcastNull hx (g := mkF m pc Ls (.null :: rest)) rfl rfl (hb ▸ hd) _ q
theorem WP.ldcA {index : Nat} {text : String} {a : Addr} (hd : decode bytes pc = .ok (.ldc index, 2)) (w : (Cond.stringLink own index text).before a0 Z = true) (Li : Lit (Z.setVm vm) own index a) (hp : pc + 2 = n) (k : WP l Z EL nar own nm bytes maxL ret R Q vm h ce sl n Ls (.ref a :: st)) : WP l Z EL nar own nm bytes maxL ret R Q vm h ce sl pc Ls st := by
  subst hp
  refine WP.look (Ls' := Ls) (fun p e s args below T m meth c L hx hb X hZ hown eT => ⟨T, X, eT, fun target q => ?_⟩) k
  exact ldcAgain X hx hZ hown w Li (g := mkF m pc Ls st) rfl (hb ▸ hd) _ q
theorem WP.backS {y : MethodName} {as' : Array Value} {Qy : Option Value → Heap → List Loc → Prop} {index Wd kc ks ce' sl' : Nat} {yb : ByteArray} {yl : Nat} {yr : Option FieldType} (hK : ∀ (p : Program) (e : Env) (below : List Frame) (s : State) (args : Array Value), Z.Warmed39 (s.setVm vm).vm → Back l R p e below (s.setVm vm) args y 3 Wd (fun A a => a = as' ∧ A.U.heap = h ∧ A.cells + kc ≤ R.cells ∧ A.slots + ks ≤ R.slots) (fun A _ v B => ∃ L, Qy v B.U.heap L ∧ B.locs = A.locs ++ L ∧ B.cells = A.cells + kc ∧ B.slots = A.slots + ks)) (hq : ∀ v h' L, Qy v h' L → Fr Z.heap.size L ∧ Ext Z.heap h' ∧ CHr Z EL vm h vm h') (hd : decode bytes pc = .ok (.invokestatic index, 3)) (w1 : (Cond.methodLink own index y).before a0 Z = true) (w2 : (Cond.static y).before a0 Z = true) (wz : (Cond.initialized y.cls).before a0 Z = true) (wc : (Cond.code y yb yl yr).before a0 Z = true) (hy : y.cls ≠ "java/lang/invoke/MethodHandle" ∧ y.cls ≠ "java/lang/invoke/VarHandle") (hce : ce + kc = ce') (hsl : sl + ks = sl') (hc : ce' ≤ R.cells) (hs : sl' ≤ R.slots) (hsize : Ls.size = maxL) {argsL : List Value} (hargs : argsL.toArray = as') (hlen : ∀ sig, parseMethodDescriptor y.desc = some sig → argsL.length = sig.parameters.length) (hst : st = argsL.reverse ++ rest) (hWd : (rest.map fun v => v.category).sum ≤ Wd) (hp : pc + 3 = n)
    (k : ∀ v h' L, Qy v h' L → CHr Z EL vm h vm h' → WP l Z EL nar own nm bytes maxL ret R Q vm h' ce' sl' n Ls (v.toList ++ rest)) : WP l Z EL nar own nm bytes maxL ret R Q vm h ce sl pc Ls st := by
  subst hp hce hsl
  intro p e s m args below meth c T L cx ⟨X, ⟨k0, hS, hk⟩, hZ, hown, eT, N, hE, hC, hW', a1, hEL⟩
  obtain ⟨v, vm₁, ⟨U, L', ke, ks'⟩, hw1, X', ⟨Lq, q1, q4, q5, q6⟩, stp⟩ := Jvm.LawKit.callS X cx.1 hown (mvT (s := s.setVm vm) hZ w1) (mvT (s := s.setVm vm) hZ w2) (mvT (s := s.setVm vm) hZ wz) (mvT (s := s.setVm vm) hZ wc) hy (hK p e below s args hZ) (g := mkF m pc Ls st) rfl (by rw [cx.2.2.1]; exact hsize) (argsL := argsL) (rest := rest) hlen hst (by show 2 * 0 + _ ≤ _; omega) (cx.2.1 ▸ hd) (fun _ _ => ⟨hargs, eT, hc, hs⟩)
  dsimp only [Pt.U, Pt.locs, Pt.cells, Pt.slots] at X' q1 q4 q5 q6 stp
  subst q4 q5 q6
  obtain ⟨r1, r2, r3⟩ := hq _ _ _ q1
  obtain ⟨t, o, h1, r⟩ := k v U.heap Lq q1 r3 p e s m args below meth c U _ cx ⟨X', ⟨k0, hS, Nat.le_trans hk r3.2.1⟩, hZ, hown, rfl, Fr.app N r1, r2, hC.trans r3, hW', a1, hEL⟩
  exact ⟨t, o, stp _ h1, r⟩
theorem WP.ldcI {index : Nat} {v : Int32} (hd : decode bytes pc = .ok (.ldc index, 2)) (w : (Cond.constant own index v).before a0 Z = true) (hp : pc + 2 = n) (k : WP l Z EL nar own nm bytes maxL ret R Q vm h ce sl n Ls (.int v :: st)) : WP l Z EL nar own nm bytes maxL ret R Q vm h ce sl pc Ls st := by
  subst hp
  refine WP.look (Ls' := Ls) (fun p e s args below T m meth c L hx hb X hZ hown eT => ⟨T, X, eT, fun target q => ?_⟩) k
  exact X.ldcInt hx hown (mvT (s := s.setVm vm) hZ w) (g := mkF m pc Ls st) rfl (hb ▸ hd) _ q
end Steps
end Jvm.OwnW
namespace Jvm.OwnW
open Jvm Jvm.ClassFile Sem Op Lib Jvm.Free Jvm.Stand Jvm.LawKit Jvm.RoadKit Bundle Jvm.Free.SB Jvm.Free.SBG
section Priv
variable {p : Program} {l : Launch} {e : Env} {R : Room} {s : State} {m : MethodId} {args : Array Value} {below : List Frame} {meth : Method} {c : Code} {T : State} {locs : List Loc} {cells slots : Nat}
/-- a private method by invokevirtual, its words as the sheet has them (selects of the receiver's class) -/
theorem own_privS (X : Stand p l e R s m args below meth c T locs cells slots) (hexec : p.tables.exec = Jvm.exec) {own C : String} {index : Nat} {y : MethodName} {bytes : ByteArray} {maxL : Nat} {ret : Option FieldType}
    (hown : s.vm.findClass own = some m.cls) (hlink : (Cond.methodLink own index y).before args s = true) (hinst : (Cond.instanceMethod y).before args s = true) (hsel : (Cond.selects C y y).before args s = true)
    (hpriv : s.PrivateAt y) (hcode : (Cond.code y bytes maxL ret).before args s = true) (hy : y.cls ≠ "java/lang/invoke/MethodHandle" ∧ y.cls ≠ "java/lang/invoke/VarHandle")
    {W : Nat} {Pre : Pt → Array Value → Prop} {Post : Pt → Array Value → Option Value → Pt → Prop} (hK : BackS l R p e below s args y 3 W Pre Post)
    {g : JFrame} (hg : g.method = m) (hsize : g.locals.size = c.maxLocals) {a : Addr} {cell : Cell} (hcell : T.heap[a]? = some cell) (hobj : ∀ q, cell.vm ≠ .statics q)
    {argsL rest : List Value} (hlen : ∀ sig, parseMethodDescriptor y.desc = some sig → argsL.length = sig.parameters.length)
    (hstack : g.stack = argsL.reverse ++ .ref a :: rest) (hW : 2 * g.monitorRoom + (rest.map fun v => v.category).sum ≤ W) (hdg : decode c.code g.pc = .ok (.invokevirtual index, 3))
    (hpre : ∀ vm₁, s.WarmedH vm₁ → Pre ⟨T.setVm vm₁, locs, cells, slots⟩ (.ref a :: argsL).toArray) :
    ∃ (v : Option Value) (vm₁ : Vm) (B : Pt), s.WarmedH vm₁ ∧ Stand p l e R (s.setVm B.U.vm) m args below meth c B.U B.locs B.cells B.slots ∧ s.Since B.U.vm B.U.heap.size ∧ T.heap.size ≤ B.U.heap.size ∧ Post ⟨T.setVm vm₁, locs, cells, slots⟩ (.ref a :: argsL).toArray v B ∧
      Steps p.tables e below (T.setTop g) (B.U.setTop { g with pc := g.pc + 3, stack := v.toList ++ rest }) := by
  obtain ⟨mk, methM, hn, hmM, hst, hab⟩ := Cond.instanceMethod_spec hinst
  obtain ⟨m3, cM, q0, -, -, -, -, -, -, hsig⟩ := Cond.code_spec hn hcode
  cases hmM.symm.trans q0
  obtain ⟨c2, r2, m2, -, -, q3, -, kP, hkP, hkPi⟩ := Cond.selects_spec hsel
  cases hn.symm.trans q3
  obtain ⟨vm₁, X₁, go⟩ := X.invokevirtual hexec hown hlink hn hmM hst hkP hkPi hy (a := a) (cell := cell) hcell hobj (selectMethod_private hmM (hpriv mk methM hn hmM)) hmM hab hkP hkPi (g := g) hg (argsL := argsL) (rest := rest) (hlen _ hsig) hstack hdg
  obtain ⟨v, B, X', hS, hgr, hpost, hsteps⟩ := hK m meth c ⟨T.setVm vm₁, locs, cells, slots⟩ { g with stack := rest } (.invokevirtual index) mk (.ref a :: argsL).toArray X₁ hg hsize hdg hW (X₁.named hn) (hpre vm₁ X₁.warmed)
  exact ⟨v, vm₁, B, X₁.warmed, X', hS, hgr, hpost, (go _ fun acts => by rw [doInvoke_state]; exact Steps.refl _).trans hsteps⟩
end Priv
theorem own_sameM {Z : State} {a0 : Array Value} {y : MethodName} (w : (Cond.declares y).before a0 Z = true) (nf : NotFace Z y) (hy : y.cls ≠ "java/lang/invoke/MethodHandle" ∧ y.cls ≠ "java/lang/invoke/VarHandle") : (Cond.sameMethod y.cls y.cls y.name y.desc).before a0 Z = true := by
  obtain ⟨r, mr, h1, h2, -, -⟩ := Cond.declares_spec w
  obtain ⟨kr, h3, h4⟩ := nf r h1
  have hc := findClass_of_methodNamed h1
  have hf := State.methodFound?_of_named h1 hy
  have h1' : Z.methodNamed? ⟨y.cls, y.name, y.desc⟩ = some r := h1
  simp [Cond.before, Cond.holds, Cond.value, hc, hf, h1', h3, h4]
section Steps3
variable {l : Launch} {Z : State} {EL : List (String × Nat)} {nar : Bool} {own nm : String} {bytes : ByteArray} {maxL : Nat} {ret : Option FieldType} {R : Room} {Q : Option Value → Heap → Prop} {vm : Vm} {h : Heap} {ce sl pc n n' : Nat} {Ls Ls' : Array Slot} {st rest : List Value} {a0 : Array Value}
theorem WP.callPr {sf : List Addr} {y : MethodName} {yb : ByteArray} {yl : Nat} {yr : Option FieldType} {rm : Room} {as' : Array Value} {Qy : Option Value → Heap → Prop} {index Wd ce' sl' : Nat} {Cn : String} {a : Addr} (C : Con l Z EL nar sf y yb yl yr rm as' h Qy) (E : Exa Z h a Cn) (hd : decode bytes pc = .ok (.invokevirtual index, 3)) (w1 : (Cond.methodLink own index y).before a0 Z = true) (w2 : (Cond.instanceMethod y).before a0 Z = true) (w3 : (Cond.selects Cn y y).before a0 Z = true) (w4 : (Cond.privateMethod y).before a0 Z = true) (wz : (Cond.initialized y.cls).before a0 Z = true) (wc : (Cond.code y yb yl yr).before a0 Z = true) (hy : y.cls ≠ "java/lang/invoke/MethodHandle" ∧ y.cls ≠ "java/lang/invoke/VarHandle") (hsf : ∀ x ∈ sf, Safe Z EL vm h x ∧ x < h.size) (hf : rm.frames + 1 ≤ R.frames) (hl : Wd + (yl + 11) + rm.locals ≤ R.locals) (hce : ce + rm.cells = ce') (hsl : sl + rm.slots = sl') (hc : ce' ≤ R.cells) (hs : sl' ≤ R.slots) (hsize : Ls.size = maxL) {argsL : List Value} (hargs : (Value.ref a :: argsL).toArray = as') (hlen : ∀ sig, parseMethodDescriptor y.desc = some sig → argsL.length = sig.parameters.length) (hst : st = argsL.reverse ++ .ref a :: rest) (hWd : (rest.map fun v => v.category).sum ≤ Wd) (hp : pc + 3 = n)
    (k : ∀ v vm' h', Qy v h' → CHr Z EL vm h vm' h' → WP l Z EL nar own nm bytes maxL ret R Q vm' h' ce' sl' n Ls (v.toList ++ rest)) : WP l Z EL nar own nm bytes maxL ret R Q vm h ce sl pc Ls st := by
  subst hp hce hsl
  intro p e s m args below meth c T L cx ⟨X, ⟨k0, hS, hk⟩, hZ, hown, eT, N, hE, hC, hW', a1, hEL⟩
  have hB := C.back (R := R) (p := p) (e := e) (below := below) (s := s) (args := args) (len := 3) (Wd := Wd) hEL hZ wc wz hf hl hE hC.1 hsf
  obtain ⟨cell, hcell, hnst⟩ := E.cell
  obtain ⟨v, vm₁, ⟨U, L', ke, ks⟩, hw1, X', hS', hg', ⟨Lq, q1, q2, q3, q4, q5, q6, q7, q8⟩, stp⟩ := own_privS X cx.1 hown (mvT (s := s.setVm vm) hZ w1) (mvT (s := s.setVm vm) hZ w2) (mvT (s := s.setVm vm) hZ w3) (Cond.privateMethod_at (args := args) (mvP (s := s.setVm vm) hZ w4)) (mvT (s := s.setVm vm) hZ wc) hy hB (g := mkF m pc Ls st) rfl (by rw [cx.2.2.1]; exact hsize) (by rw [eT]; exact hcell) hnst (argsL := argsL) (rest := rest) hlen hst (by show 2 * 0 + _ ≤ _; omega) (cx.2.1 ▸ hd) (fun _ _ => ⟨hargs, eT, hc, hs⟩)
  dsimp only [Pt.U, Pt.locs, Pt.cells, Pt.slots] at X' hS' hg' q1 q2 q4 q5 q6 q7 q8 stp
  subst q4 q5 q6
  obtain ⟨t, o, h1, r⟩ := k v U.vm U.heap q1 q7 p e s m args below meth c U _ cx ⟨X', ⟨_, hS.trans hS' (Nat.le_trans hk (by rw [← eT]; exact hg')), Nat.le_refl _⟩, State.Warmed39.trans (t := s.setVm vm) hZ hS'.1, (hS'.1.alike.findClass _ _).trans hown, rfl, Fr.app N q3, q2, hC.trans q7, fun q => State.WarmedH.trans (t := s.setVm vm) (hW' q) (q8 q), a1, hEL⟩
  exact ⟨t, o, stp.trans h1, r⟩
theorem WP.callSu {sf : List Addr} {y : MethodName} {yb : ByteArray} {yl : Nat} {yr : Option FieldType} {rm : Room} {as' : Array Value} {Qy : Option Value → Heap → Prop} {index Wd ce' sl' : Nat} {Kn : String} {a : Addr} (C : Con l Z EL nar sf y yb yl yr rm as' h Qy) (F : Ins Z h a Kn true) (hd : decode bytes pc = .ok (.invokespecial index, 3)) (hni : y.name ≠ "<init>") (w1 : (Cond.methodLink own index y).before a0 Z = true) (w2 : (Cond.sameMethod y.cls y.cls y.name y.desc).before a0 Z = true) (w3 : (Cond.instanceMethod y).before a0 Z = true) (w4 : (Cond.superclass own y.cls).before a0 Z = true) (wz : (Cond.initialized y.cls).before a0 Z = true) (wc : (Cond.code y yb yl yr).before a0 Z = true) (hsf : ∀ x ∈ sf, Safe Z EL vm h x ∧ x < h.size) (hf : rm.frames + 1 ≤ R.frames) (hl : Wd + (yl + 11) + rm.locals ≤ R.locals) (hce : ce + rm.cells = ce') (hsl : sl + rm.slots = sl') (hc : ce' ≤ R.cells) (hs : sl' ≤ R.slots) (hsize : Ls.size = maxL) {argsL : List Value} (hargs : (Value.ref a :: argsL).toArray = as') (hlen : ∀ sig, parseMethodDescriptor y.desc = some sig → argsL.length = sig.parameters.length) (hst : st = argsL.reverse ++ .ref a :: rest) (hWd : (rest.map fun v => v.category).sum ≤ Wd) (hp : pc + 3 = n)
    (k : ∀ v vm' h', Qy v h' → CHr Z EL vm h vm' h' → WP l Z EL nar own nm bytes maxL ret R Q vm' h' ce' sl' n Ls (v.toList ++ rest)) : WP l Z EL nar own nm bytes maxL ret R Q vm h ce sl pc Ls st := by
  subst hp hce hsl
  intro p e s m args below meth c T L cx ⟨X, ⟨k0, hS, hk⟩, hZ, hown, eT, N, hE, hC, hW', a1, hEL⟩
  have hB := C.back (R := R) (p := p) (e := e) (below := below) (s := s) (args := args) (len := 3) (Wd := Wd) hEL hZ wc wz hf hl hE hC.1 hsf
  obtain ⟨v, vm₁, ⟨U, L', ke, ks⟩, hw1, X', hS', hg', ⟨Lq, q1, q2, q3, q4, q5, q6, q7, q8⟩, stp⟩ := superBackS X cx.1 (s := s.setVm vm) hZ hown w1 w2 w3 w4 hni hB eT F (g := mkF m pc Ls st) rfl (by rw [cx.2.2.1]; exact hsize) wc (argsL := argsL) (rest := rest) hlen hst (by show 2 * 0 + _ ≤ _; omega) (cx.2.1 ▸ hd) (fun _ _ => ⟨hargs, eT, hc, hs⟩)
  dsimp only [Pt.U, Pt.locs, Pt.cells, Pt.slots] at X' hS' hg' q1 q2 q4 q5 q6 q7 q8 stp
  subst q4 q5 q6
  obtain ⟨t, o, h1, r⟩ := k v U.vm U.heap q1 q7 p e s m args below meth c U _ cx ⟨X', ⟨_, hS.trans hS' (Nat.le_trans hk (by rw [← eT]; exact hg')), Nat.le_refl _⟩, State.Warmed39.trans (t := s.setVm vm) hZ hS'.1, (hS'.1.alike.findClass _ _).trans hown, rfl, Fr.app N q3, q2, hC.trans q7, fun q => State.WarmedH.trans (t := s.setVm vm) (hW' q) (q8 q), a1, hEL⟩
  exact ⟨t, o, stp.trans h1, r⟩
theorem WP.copyB {index Wd : Nat} {a b : Addr} {k k' : ClassId} {z z' sp dp nn : Int32} {vs vd us vr : List Value} {d dd : Value} (hd : decode bytes pc = .ok (.invokestatic index, 3)) (w1 : (Cond.methodLink own index Jvm.Stand.acN).before a0 Z = true) (w2 : (Cond.native Jvm.Stand.acN).before a0 Z = true) (w3 : (Cond.static Jvm.Stand.acN).before a0 Z = true) (w4 : (Cond.initialized "java/lang/System").before a0 Z = true)
    (A : Arv Z h a k .byte z vs d) (B : Arv Z h b k' .byte z' vd dd) (h1 : ¬ sp < 0) (h2 : ¬ dp < 0) (h3 : ¬ nn < 0) (h4 : sp.toNatClampNeg + nn.toNatClampNeg ≤ z.toNatClampNeg) (h5 : dp.toNatClampNeg + nn.toNatClampNeg ≤ z'.toNatClampNeg) (hus : us = (List.range nn.toNatClampNeg).map fun i => vs.getD (sp.toNatClampNeg + i) d) (hl : dp.toNatClampNeg + nn.toNatClampNeg ≤ vd.length)
    (hvr : vd.take dp.toNatClampNeg ++ us ++ vd.drop (dp.toNatClampNeg + nn.toNatClampNeg) = vr) (hb : Z.heap.size ≤ b) (S : Safe Z EL vm h b) (hsize : Ls.size = maxL) (hf : 1 ≤ R.frames) (hWd : (rest.map fun v => v.category).sum ≤ Wd) (hlo : Wd + (nativeFrameWords "java/lang/System" "arraycopy" 5 + 11) ≤ R.locals) (hp : pc + 3 = n)
    (kk : ∀ h', Keep h h' [b] → Arv Z h' b k' .byte z' vr dd → CHr Z EL vm h vm h' → WP l Z EL nar own nm bytes maxL ret R Q vm h' ce sl n Ls rest) : WP l Z EL nar own nm bytes maxL ret R Q vm h ce sl pc Ls (.int nn :: .int dp :: .ref b :: .int sp :: .ref a :: rest) := by
  subst hp hvr
  intro p e s m args below meth c T L cx ⟨X, ⟨k0, hS, hk⟩, hZ, hown, eT, N, hE, hC, hW', hEL⟩
  obtain ⟨T', h', L', X', e', N', K', A', stp⟩ := cpA X cx.1 (s := s.setVm vm) hZ hown w1 w2 w3 w4 eT A B (Or.inl ⟨rfl, rfl⟩) h1 h2 h3 h4 h5 hus hl N hb (g := mkF m pc Ls (.int nn :: .int dp :: .ref b :: .int sp :: .ref a :: rest)) rfl (by rw [cx.2.2.1]; exact hsize) rfl (cx.2.1 ▸ hd) hf (W := Wd) (by show 2 * 0 + _ ≤ _; omega) hlo
  have hR : CHr Z EL vm h vm h' := CHr.keep K' (fun x hx => by cases List.mem_singleton.mp hx; exact S) hC.1
  obtain ⟨t, o, q1, r⟩ := kk h' K' A' hR p e s m args below meth c T' L' cx ⟨X', ⟨k0, hS, Nat.le_trans hk K'.1⟩, hZ, hown, e', N', ext_keep1 hE K' hb, hC.trans hR, hW', hEL⟩
  exact ⟨t, o, stp _ q1, r⟩
theorem WP.stI {a : Addr} {cA : ClassId} {z j x : Int32} {vs : List Value} {d : Value} {i : Nat} (hd : decode bytes pc = .ok (.iastore, 1)) (A : Arv Z h a cA .int z vs d) (hj : ¬ j < 0 ∧ j < z) (hi : j.toNatClampNeg = i) (hlen : i < vs.length) (ha : Z.heap.size ≤ a) (hp : pc + 1 = n)
    (k : ∀ h', Wr h h' a j.toNatClampNeg (.int x) → Arv Z h' a cA .int z (vs.set i (.int x)) d → CHr Z EL vm h vm h' → WP l Z EL nar own nm bytes maxL ret R Q vm h' ce sl n Ls rest) : WP l Z EL nar own nm bytes maxL ret R Q vm h ce sl pc Ls (.int x :: .int j :: .ref a :: rest) := by
  subst hp
  have A0 := A
  obtain ⟨cl, A1, q1, S1, M1, H1, G1⟩ := A
  refine WP.write ha (fun hz => Safe.arv hz.alike A0 (by decide)) (fun p e s args below T m meth c L hx hb hnm X hZ hown eT => ?_) fun h' W r => k h' W (Arv.set A1 q1 S1 M1 H1 G1 rfl W i hi hlen) r
  exact Jvm.RoadKit.stI X hx hZ eT A1 (inb_of S1 hj) (g := mkF m pc Ls (.int x :: .int j :: .ref a :: rest)) rfl rfl (hb ▸ hd)
theorem WP.aaload {a : Addr} {cA : ClassId} {z j : Int32} {vs : List Value} {d v : Value} {ty : FieldType} (hd : decode bytes pc = .ok (.aaload, 1)) (A : Arv Z h a cA ty z vs d) (hty : ty.isReference = true) (hj : ¬ j < 0 ∧ j < z) (hv : vs.getD j.toNatClampNeg d = v) (hp : pc + 1 = n) (k : WP l Z EL nar own nm bytes maxL ret R Q vm h ce sl n Ls (v :: rest)) : WP l Z EL nar own nm bytes maxL ret R Q vm h ce sl pc Ls (.int j :: .ref a :: rest) := by
  subst hp
  obtain ⟨cl, A1, q1, S1, M1, H1, G1⟩ := A
  refine WP.look (Ls' := Ls) (fun p e s args below T m meth c L hx hb X hZ hown eT => ⟨T, X, eT, fun target q => ?_⟩) k
  exact X.aaload hx (j := j) (v := v) (by rw [eT]; exact A1.1) (State.isArrayOf_alike hZ.alike A1.2.1) hty A1.2.2 (inb_of S1 hj) (H1.at (inb_of S1 hj) hv) (g := mkF m pc Ls (.int j :: .ref a :: rest)) rfl rfl (hb ▸ hd) _ q
theorem WP.clone {ad : String} {index Wd cap ce' sl' : Nat} {a : Addr} {k : ClassId} {ty : FieldType} {z : Int32} {vs : List Value} {d : Value} (hd : decode bytes pc = .ok (.invokevirtual index, 3)) (w1 : (Cond.methodLink own index ⟨ad, "clone", "()Ljava/lang/Object;"⟩).before a0 Z = true) (w2 : (Cond.sameMethod ad "java/lang/Object" "clone" "()Ljava/lang/Object;").before a0 Z = true) (w3 : (Cond.native ⟨"java/lang/Object", "clone", "()Ljava/lang/Object;"⟩).before a0 Z = true)
    (w4 : (Cond.instanceMethod ⟨"java/lang/Object", "clone", "()Ljava/lang/Object;"⟩).before a0 Z = true) (w5 : (Cond.selects ad ⟨ad, "clone", "()Ljava/lang/Object;"⟩ ⟨"java/lang/Object", "clone", "()Ljava/lang/Object;"⟩).before a0 Z = true) (w6 : (Cond.castable ad "java/lang/Cloneable").before a0 Z = true) (F : Arv Z h a k ty z vs d) (E : Exa Z h a ad) (hsize : Ls.size = maxL) (hf : 1 ≤ R.frames) (hWd : (rest.map fun v => v.category).sum ≤ Wd) (hl : Wd + 14 ≤ R.locals) (hcap : z.toNatClampNeg ≤ cap) (hce : ce + 1 = ce') (hsl : sl + cap = sl') (hc : ce' ≤ R.cells) (hs : sl' ≤ R.slots) (hp : pc + 3 = n)
    (kk : ∀ b h', b = h.size → Ext h h' → Arv Z h' b k ty z vs d → Exa Z h' b ad → CHr Z EL vm h vm h' → WP l Z EL nar own nm bytes maxL ret R Q vm h' ce' sl' n Ls (.ref b :: rest)) : WP l Z EL nar own nm bytes maxL ret R Q vm h ce sl pc Ls (.ref a :: rest) := by
  subst hp hce hsl
  intro p e s m args below meth c T L cx ⟨X, ⟨k0, hS, hk⟩, hZ, hown, eT, N, hE, hC, hW', hEL⟩
  obtain ⟨T', h', X', e', E', A', X2, stp⟩ := cloneH X cx.1 (s := s.setVm vm) hZ hown w1 w2 w3 w4 w5 w6 eT F.arh E (g := mkF m pc Ls (.ref a :: rest)) rfl (by rw [cx.2.2.1]; exact hsize) rfl (cx.2.1 ▸ hd) hf (W := Wd) (by show 2 * 0 + _ ≤ _; omega) hl hcap hc hs
  have hR : CHr Z EL vm h vm h' := CHr.ext E' hC.1
  obtain ⟨t, o, q1, r⟩ := kk _ h' rfl E' A' X2 hR p e s m args below meth c T' L cx ⟨X', ⟨k0, hS, Nat.le_trans hk E'.1⟩, hZ, hown, e', N, ext_trans hE E', hC.trans hR, hW', hEL⟩
  exact ⟨t, o, stp _ q1, r⟩
end Steps3
/-- no constant of EL has a text of n signs -/
def EWn (Z : State) (a0 : Array Value) (EL : List (String × Nat)) (n : Nat) : Prop := ∀ p ∈ EL, ∃ text : String, (Cond.stringLink p.1 p.2 text).before a0 Z = true ∧ (∀ c ∈ text.toList, c.toNat < 256) ∧ text.toList.length ≠ n
theorem EWn.nil {Z : State} {a0 : Array Value} {n : Nat} : EWn Z a0 [] n := fun _ hp => nomatch hp
theorem EWn.cons {Z : State} {a0 : Array Value} {EL : List (String × Nat)} {n : Nat} {own text : String} {index : Nat} (w : (Cond.stringLink own index text).before a0 Z = true) (ht : ∀ c ∈ text.toList, c.toNat < 256) (hn : text.toList.length ≠ n) (E : EWn Z a0 EL n) : EWn Z a0 ((own, index) :: EL) n := fun p hp => by
  rcases List.mem_cons.mp hp with rfl | hp
  · exact ⟨text, w, ht, hn⟩
  · exact E p hp
/-- a byte[] whose length is no constant's is no booked one -/
theorem own_safeLen {Z : State} {EL : List (String × Nat)} {vm : Vm} {h : Heap} {x : Addr} {k : ClassId} {z : Int32} {vs : List Value} {d : Value} {a0 : Array Value} (hZ : Z.Warmed39 vm) (hL : EWn Z a0 EL z.toNatClampNeg) (A : Arv Z h x k .byte z vs d) : Safe Z EL vm h x := fun B => by
  obtain ⟨cl, ⟨A1, ⟨-, kA, hkA, compA, hkindA⟩, -⟩, -, hsz, -⟩ := A
  obtain ⟨kA', hkA', ekA⟩ := hZ.alike.2.2 _ _ hkA
  obtain ⟨p, hp, u, a, hb, q, -, F, rfl | rfl⟩ := B
  · cases (show h[q.sa]? = some q.sC from F.ha).symm.trans A1
    obtain ⟨cS, ⟨-, -, e⟩, ⟨kS, g1, g2, -⟩, -⟩ := F
    subst e
    cases (show vm.classes[q.sC.cls]? = some kS from g1).symm.trans hkA'
    rw [ekA] at g2
    have := hkindA.symm.trans g2
    cases this
  · cases (show h[q.sd]? = some q.SA from F.hd).symm.trans A1
    obtain ⟨text, wl, ht, hn⟩ := hL p hp
    obtain ⟨c, k', cf, i, hc', hk', hcf', hpool, hu, -⟩ := hb
    have wl' : (Cond.stringLink p.1 p.2 text).before a0 (Wst Z vm h) = true := mvS (s := { Z with heap := h }) hZ wl
    obtain ⟨k0, cf0, i0, units0, hk, hcf, hp0, hu0, hnm, htext, -⟩ := Cond.stringLink_spec (s := Wst Z vm h) hc' wl'
    cases (show vm.classes[c]? = some k' from hk').symm.trans hk
    cases hcf'.symm.trans hcf
    cases hpool.symm.trans hp0
    cases hu.symm.trans hu0
    obtain ⟨cS, -, -, -, hbyt⟩ := F
    have hlat := Jvm.ClassFile.lat_of_text htext ht
    have e1 : q.SA.slots.size = u.size := by rw [hbyt, SBG.stringBytes_lat hlat]; simp
    have e2 : u.size = text.toList.length := by
      have e := Jvm.ClassFile.units_of_text htext ht
      have e3 := congrArg List.length e
      simpa using e3
    exact hn (by rw [← hsz, e1, e2])
end Jvm.OwnW
namespace Jvm.Pilot.@@N@@
open Jvm Jvm.ClassFile Sem Op Lib Jvm.Free Jvm.Stand Jvm.LawKit Jvm.RoadKit Bundle Jvm.OwnW Jvm.Pilot.@@N@@.Jvm.D
theorem own_pn0 : plainName "java/lang/StringLatin1" = true := by first | (simp [plainName, overriddenIn]; done) | decide +kernel
theorem own_pn1 : plainName "java/lang/String" = true := by first | (simp [plainName, overriddenIn]; done) | decide +kernel
theorem own_pn2 : plainName "java/lang/AbstractStringBuilder" = true := by first | (simp [plainName, overriddenIn]; done) | decide +kernel
theorem own_pn3 : plainName "java/lang/StringBuilder" = true := by first | (simp [plainName, overriddenIn]; done) | decide +kernel
theorem own_pn4 : plainName "java/util/Arrays" = true := by first | (simp [plainName, overriddenIn]; done) | decide +kernel
theorem own_pn5 : plainName "com/example/research_api_client/researchapiclient/lotus/LineCheck$Status" = true := by first | (simp [plainName, overriddenIn]; done) | decide +kernel
theorem own_pn6 : plainName "com/example/research_api_client/researchapiclient/lotus/StatusOfMemberPinLaw" = true := by first | (simp [plainName, overriddenIn]; done) | decide +kernel
theorem own_pd0 : parseMethodDescriptor "([B[B)Z" = some ⟨[(.array .byte), (.array .byte)], some .boolean⟩ := by decide +kernel
theorem own_pd1 : parseMethodDescriptor "([CIILjava/lang/Void;)V" = some ⟨[(.array .char), .int, .int, (.object "java/lang/Void")], none⟩ := by decide +kernel
theorem own_pd2 : parseMethodDescriptor "()B" = some ⟨[], some .byte⟩ := by decide +kernel
theorem own_pd3 : parseMethodDescriptor "(I)V" = some ⟨[.int], none⟩ := by decide +kernel
theorem own_pd4 : parseMethodDescriptor "(Ljava/lang/String;)V" = some ⟨[(.object "java/lang/String")], none⟩ := by decide +kernel
theorem own_pd5 : parseMethodDescriptor "([BIB)V" = some ⟨[(.array .byte), .int, .byte], none⟩ := by decide +kernel
theorem own_pd6 : parseMethodDescriptor "()I" = some ⟨[], some .int⟩ := by decide +kernel
theorem own_pd7 : parseMethodDescriptor "(ILjava/lang/String;)V" = some ⟨[.int, (.object "java/lang/String")], none⟩ := by decide +kernel
theorem own_pd8 : parseMethodDescriptor "(Ljava/lang/String;)Ljava/lang/AbstractStringBuilder;" = some ⟨[(.object "java/lang/String")], some (.object "java/lang/AbstractStringBuilder")⟩ := by decide +kernel
theorem own_pd9 : parseMethodDescriptor "(II)V" = some ⟨[.int, .int], none⟩ := by decide +kernel
theorem own_pd10 : parseMethodDescriptor "(II)I" = some ⟨[.int, .int], some .int⟩ := by decide +kernel
theorem own_pd11 : parseMethodDescriptor "([BII)[B" = some ⟨[(.array .byte), .int, .int], some (.array .byte)⟩ := by decide +kernel
theorem own_pd12 : parseMethodDescriptor "()[B" = some ⟨[], some (.array .byte)⟩ := by decide +kernel
theorem own_pd13 : parseMethodDescriptor "()Z" = some ⟨[], some .boolean⟩ := by decide +kernel
theorem own_pd14 : parseMethodDescriptor "(Ljava/lang/AbstractStringBuilder;Ljava/lang/Void;)V" = some ⟨[(.object "java/lang/AbstractStringBuilder"), (.object "java/lang/Void")], none⟩ := by decide +kernel
theorem own_pd15 : parseMethodDescriptor "(Ljava/lang/StringBuilder;)V" = some ⟨[(.object "java/lang/StringBuilder")], none⟩ := by decide +kernel
theorem own_pd16 : parseMethodDescriptor "()[Lcom/example/research_api_client/researchapiclient/lotus/LineCheck$Status;" = some ⟨[], some (.array (.object "com/example/research_api_client/researchapiclient/lotus/LineCheck$Status"))⟩ := by decide +kernel
theorem own_pd17 : parseMethodDescriptor "()V" = some ⟨[], none⟩ := by decide +kernel
theorem own_pd18 : parseMethodDescriptor "(Ljava/lang/String;)Ljava/lang/StringBuilder;" = some ⟨[(.object "java/lang/String")], some (.object "java/lang/StringBuilder")⟩ := by decide +kernel
theorem own_pd19 : parseMethodDescriptor "()Ljava/lang/String;" = some ⟨[], some (.object "java/lang/String")⟩ := by decide +kernel
theorem own_pd20 : parseMethodDescriptor "(Ljava/lang/Object;)Z" = some ⟨[(.object "java/lang/Object")], some .boolean⟩ := by decide +kernel
theorem own_pd21 : parseMethodDescriptor "(Ljava/lang/String;)Lcom/example/research_api_client/researchapiclient/lotus/LineCheck$Status;" = some ⟨[(.object "java/lang/String")], some (.object "com/example/research_api_client/researchapiclient/lotus/LineCheck$Status")⟩ := by decide +kernel
theorem own_pd22 : parseMethodDescriptor "([C)V" = some ⟨[(.array .char)], none⟩ := by decide +kernel
theorem own_pd23 : parseMethodDescriptor "(ICCC)[C" = some ⟨[.int, .char, .char, .char], some (.array .char)⟩ := by decide +kernel
theorem own_pd24 : parseMethodDescriptor "(I)[C" = some ⟨[.int], some (.array .char)⟩ := by decide +kernel
theorem own_pd25 : parseMethodDescriptor "(IC)[C" = some ⟨[.int, .char], some (.array .char)⟩ := by decide +kernel
/-- a String that spells bs (its bytes) -/
def Str (Z : State) (h : Heap) (a : Addr) (bs : List Int32) : Prop := Exa Z h a "java/lang/String" ∧ Fld Z h a "java/lang/String" "coder" "B" (.int 0) ∧ ∃ (b : Addr) (kb : ClassId) (z : Int32), Fld Z h a "java/lang/String" "value" "[B" (.ref b) ∧ Arv Z h b kb .byte z (bs.map Value.int) (.int 0) ∧ z.toNatClampNeg = bs.length
theorem Str.ext {Z : State} {h h' : Heap} {a : Addr} {bs : List Int32} (F : Str Z h a bs) (E : Ext h h') : Str Z h' a bs := by
  obtain ⟨f1, f2, b, kb, z, f3, f4, f5⟩ := F
  exact ⟨f1.ext E, f2.ext E, b, kb, z, f3.ext E, f4.ext E, f5⟩
theorem Str.lt {Z : State} {h : Heap} {a : Addr} {bs : List Int32} (F : Str Z h a bs) : a < h.size := F.1.lt
theorem own_fld_inj {Z : State} {h : Heap} {a : Addr} {C n d : String} {v w : Value} (F : Fld Z h a C n d v) (G : Fld Z h a C n d w) : v = w := by
  obtain ⟨c1, cf1, k1, i1, f1, e1, e2, -, -, -, -, e7⟩ := F
  obtain ⟨c2, cf2, k2, i2, f2, g1, g2, -, -, -, -, g7⟩ := G
  cases e1.symm.trans g1
  cases e2.symm.trans g2
  exact Option.some.inj (e7.symm.trans g7)
theorem own_arv_inj {Z : State} {h : Heap} {a : Addr} {k k' : ClassId} {ty : FieldType} {z z' : Int32} {vs ws : List Value} {d : Value} (F : Arv Z h a k ty z vs d) (G : Arv Z h a k' ty z' ws d) (hv : z.toNatClampNeg = vs.length) (hw : z'.toNatClampNeg = ws.length) : vs = ws := by
  obtain ⟨c1, A1, -, s1, -, H1, -⟩ := F
  obtain ⟨c2, A2, -, s2, -, H2, -⟩ := G
  cases A1.1.symm.trans A2.1
  have e : vs.length = ws.length := by omega
  refine List.ext_getElem e fun i h1 h2 => ?_
  have q1 := H1 i (by omega)
  have q2 := H2 i (by omega)
  have q := q1.symm.trans q2
  simpa [List.getD_eq_getElem?_getD, h1, h2] using q
theorem own_map_inj {bs ds : List Int32} (h : bs.map Value.int = ds.map Value.int) : bs = ds :=
  (List.map_inj_right (fun x y e => by injection e)).mp h
theorem Str.inj {Z : State} {h : Heap} {a : Addr} {bs ds : List Int32} (F : Str Z h a bs) (G : Str Z h a ds) : bs = ds := by
  obtain ⟨-, -, b, kb, z, f3, f4, f5⟩ := F
  obtain ⟨-, -, b', kb', z', g3, g4, g5⟩ := G
  have e := own_fld_inj f3 g3
  injection e with e
  subst e
  exact own_map_inj (own_arv_inj f4 g4 (by simpa using f5) (by simpa using g5))
theorem own_n32 {k : Nat} (h : k < 2147483648) : (Int32.ofNat k).toInt = k := by
  rw [Int32.toInt_ofNat', show Int32.size = 4294967296 from rfl]; simp only [Int.bmod]; omega
theorem own_cat {d : Value} (h : d.isRef = true) : d.category = 1 := by rcases ref_cases h with rfl | ⟨a, rfl⟩ <;> rfl
theorem own_ne_t {x y : Value} (h : x ≠ y) : XT.acmp .ne x y = true := decide_eq_true h
theorem own_ne_f {x y : Value} (h : x = y) : XT.acmp .ne x y = false := decide_eq_false (fun q => q h)
theorem own_eq_t {x y : Value} (h : x = y) : XT.acmp .eq x y = true := decide_eq_true h
theorem own_eq_f {x y : Value} (h : x ≠ y) : XT.acmp .eq x y = false := decide_eq_false h
theorem own_clamp {k : Nat} (h : k < 2147483648) : (Int32.ofNat k).toNatClampNeg = k := by
  simp only [Int32.toNatClampNeg, own_n32 h]; rfl
theorem own_z {z : Int32} (h0 : ¬ z < 0) : z = Int32.ofNat z.toNatClampNeg ∧ z.toNatClampNeg < 2147483648 := by
  have q := back32 h0
  exact ⟨q.1.symm, q.2⟩
theorem own_ltN {k m : Nat} (hk : k < 2147483648) (hm : m < 2147483648) : (Int32.ofNat k < Int32.ofNat m) ↔ k < m := by
  rw [Int32.lt_iff_toInt_lt, own_n32 hk, own_n32 hm]; omega
theorem own_nn {k : Nat} (hk : k < 2147483648) : ¬ (Int32.ofNat k < 0) := by
  rw [Int32.lt_iff_toInt_lt, own_n32 hk]
  have e0 : (0 : Int32).toInt = 0 := rfl
  omega
theorem own_inc {k : Nat} (hk : k + 1 < 2147483648) : Int32.ofNat k + Int32.ofInt 1 = Int32.ofNat (k + 1) := by
  rw [← Int32.toInt_inj, Int32.toInt_add, own_n32 (by omega), own_n32 hk]
  have e0 : (Int32.ofInt 1).toInt = 1 := rfl
  rw [e0]; simp only [Int.bmod]; omega
theorem own_rng_nil : ∀ c ∈ ([] : List Int32), ¬ c < 0 ∧ ¬ (255 : Int32) < c := fun _ q => nomatch q
theorem own_rng_cons {x : Int32} {xs : List Int32} (h : ¬ x < 0 ∧ ¬ (255 : Int32) < x) (t : ∀ c ∈ xs, ¬ c < 0 ∧ ¬ (255 : Int32) < c) : ∀ c ∈ x :: xs, ¬ c < 0 ∧ ¬ (255 : Int32) < c := fun c hc => by
  rcases List.mem_cons.mp hc with rfl | hc
  · exact h
  · exact t c hc
theorem own_c8r (x : Int32) : ¬ (x &&& 255) < 0 ∧ ¬ (255 : Int32) < (x &&& 255) := by
  have h1 := c_mask x 255 8 (by decide) (by decide)
  rw [Int32.lt_iff_toInt_lt, Int32.lt_iff_toInt_lt]
  have e0 : (0 : Int32).toInt = 0 := rfl
  have e1 : (255 : Int32).toInt = 255 := rfl
  omega
theorem own_rng {k : Int32} (h : ¬ k < 0 ∧ ¬ (255 : Int32) < k) : 0 ≤ k.toInt ∧ k.toInt ≤ 255 := by
  rw [Int32.lt_iff_toInt_lt, Int32.lt_iff_toInt_lt] at h
  have e0 : (0 : Int32).toInt = 0 := rfl
  have e1 : (255 : Int32).toInt = 255 := rfl
  omega
theorem own_c16 {k : Int32} (h : ¬ k < 0 ∧ ¬ (255 : Int32) < k) : k.toUInt32.toUInt16.toUInt32.toInt32 = k := by
  have a := own_rng h
  have b := c_i2c k
  rw [← Int32.toInt_inj]; omega
theorem own_inj8 {k m : Int32} (h : ¬ k < 0 ∧ ¬ (255 : Int32) < k) (h' : ¬ m < 0 ∧ ¬ (255 : Int32) < m) (e : k.toInt8.toInt32 = m.toInt8.toInt32) : k = m := by
  have a := own_rng h
  have b := own_rng h'
  have c1 := c_i2b k
  have c2 := c_i2b m
  rw [e] at c1
  rw [← Int32.toInt_inj]; omega
theorem own_skeep {Z : State} {h h' : Heap} {a b : Addr} {bs : List Int32} {C : String} {n : Nat} {a0 : Array Value} (F : Str Z h a bs) (A : Exa Z h b C) (K : Keep h h' [b]) (hC : C ≠ "java/lang/String") (wi : (Cond.instantiable C n).before a0 Z = true) : Str Z h' a bs := by
  obtain ⟨f1, f2, c, kc, z, f3, f4, f5⟩ := F
  have n1 : a ≠ b := fun e => ne_exa A f1 hC e.symm
  have n2 : b ≠ c := Exa.neArv A f4 wi
  have m1 : a ∉ [b] := fun q => n1 (List.mem_singleton.mp q)
  have m2 : c ∉ [b] := fun q => n2 (List.mem_singleton.mp q).symm
  exact ⟨f1.keep K, f2.keep K m1, c, kc, z, f3.keep K m1, f4.keep K m2, f5⟩
theorem own_noinst {Z : State} {a0 : Array Value} {C S K : String} {n : Nat} (w : (Cond.superclass C S).before a0 Z = true) (wr : (Cond.noSuperclass S).before a0 Z = true) (wi : (Cond.instantiable K n).before a0 Z = true) (h1 : C ≠ K) (h2 : S ≠ K) : ∃ c t, Z.vm.findClass C = some c ∧ Z.vm.findClass K = some t ∧ Z.vm.assignable c t = false := by
  obtain ⟨c, k, hc, hk, hs, hkd, hif⟩ := Cond.noSuperclass_spec wr
  obtain ⟨t, kt, ht, hkt, hkk, hni, -⟩ := Cond.instantiable_spec wi
  obtain ⟨c0, hc0⟩ := found_sup w
  obtain ⟨p, k0, kp, q1, q2, q3, q4, q5, q6, q7⟩ := Cond.superclass_spec hc0 w
  cases hc.symm.trans q1
  cases hk.symm.trans q3
  have n1 := ids_ne hc0 ht h1
  have n2 := ids_ne hc ht h2
  have hni' : kt.isInterface = false := by
    cases hq : kt.isInterface with
    | false => rfl
    | true => rw [hq] at hni; simp at hni
  refine ⟨c0, t, hc0, ht, ?_⟩
  have key : ∀ fuel, Z.vm.isSubclassAux fuel c t = false := fun fuel => by
    cases fuel with
    | zero => rfl
    | succ f => simp [Vm.isSubclassAux, n2, hk, hs]
  have key2 : ∀ fuel, Z.vm.isSubclassAux fuel c0 t = false := fun fuel => by
    cases fuel with
    | zero => rfl
    | succ f => simp [Vm.isSubclassAux, n1, q2, q4, key]
  show Z.vm.assignableAux (255 + 1) c0 t = false
  simp [Vm.assignableAux, n1, q2, hkt, q5, hkk, hni', Vm.isSubclass, key2]

/-- a StringBuilder at a, its byte[16] at b, that spells bs -/
def SBf (Z : State) (h : Heap) (a b : Addr) (bs : List Int32) : Prop := Exa Z h a "java/lang/StringBuilder" ∧ Fld Z h a "java/lang/AbstractStringBuilder" "value" "[B" (.ref b) ∧ Fld Z h a "java/lang/AbstractStringBuilder" "coder" "B" (.int 0) ∧ Fld Z h a "java/lang/AbstractStringBuilder" "count" "I" (.int (Int32.ofNat bs.length)) ∧ Z.heap.size ≤ a ∧ Z.heap.size ≤ b ∧ ∃ (kb : ClassId) (vs : List Value), Arv Z h b kb .byte 16 vs (.int 0) ∧ vs.length = 16 ∧ vs.take bs.length = bs.map Value.int
theorem SBf.ext {Z : State} {h h' : Heap} {a b : Addr} {bs : List Int32} (F : SBf Z h a b bs) (E : Ext h h') : SBf Z h' a b bs := by
  obtain ⟨f1, f2, f3, f4, f5, f6, kb, vs, f7, f8⟩ := F
  exact ⟨f1.ext E, f2.ext E, f3.ext E, f4.ext E, f5, f6, kb, vs, f7.ext E, f8⟩
theorem own_nfAB {Z : State} {y z : MethodName} (h : NotFace Z y) (e : z.cls = y.cls) (hy : ∃ r, Z.methodNamed? y = some r) : NotFace Z z := fun r0 h0 => by
  obtain ⟨r, hr⟩ := hy
  obtain ⟨k, h1, h2⟩ := h r hr
  have q1 := findClass_of_methodNamed h0
  have q2 := findClass_of_methodNamed hr
  rw [e] at q1
  have q3 := Option.some.inj (q1.symm.trans q2)
  exact ⟨k, by rw [q3]; exact h1, h2⟩
theorem own_shr0 (z : Int32) : z >>> ((0 : Int32) &&& 31) = z := by
  rw [← Int32.toInt_inj, c_ishr z 0 0 (by decide)]; simp
theorem own_shl0 (z : Int32) : z <<< ((0 : Int32) &&& 31) = z := by
  have e : (1 : Int32) <<< ((0 : Int32) &&& 31) = 1 := by decide
  rw [shlm e]; simp
theorem own_addN {k m : Nat} (h : k + m < 2147483648) : Int32.ofNat k + Int32.ofNat m = Int32.ofNat (k + m) := by
  rw [← Int32.toInt_inj, Int32.toInt_add, own_n32 (by omega), own_n32 (by omega), own_n32 h]; simp only [Int.bmod]; omega
theorem own_subN {k m : Nat} (h : k < 2147483648) (hm : m ≤ k) : Int32.ofNat k - Int32.ofNat m = Int32.ofNat (k - m) := by
  rw [← Int32.toInt_inj, Int32.toInt_sub, own_n32 (by omega), own_n32 (by omega), own_n32 (by omega)]; simp only [Int.bmod]; omega
theorem own_le16 {k : Nat} (h : k ≤ 16) : ¬ (0 : Int32) < Int32.ofNat k - 16 := by
  rw [Int32.lt_iff_toInt_lt, Int32.toInt_sub, own_n32 (by omega)]
  have e0 : (0 : Int32).toInt = 0 := rfl
  have e1 : (16 : Int32).toInt = 16 := rfl
  rw [e0, e1]; simp only [Int.bmod]; omega
theorem own_rangeMap (L : List Value) (d : Value) : (List.range L.length).map (fun i => L.getD ((0 : Int32).toNatClampNeg + i) d) = L := by
  have e0 : (0 : Int32).toNatClampNeg = 0 := rfl
  refine List.ext_getElem (by simp) fun i h1 h2 => ?_
  simp [e0, List.getD_eq_getElem?_getD, h2]
theorem own_rangeDrop (L : List Value) (d : Value) (f n : Nat) (h : f + n ≤ L.length) : (List.range n).map (fun i => L.getD (f + i) d) = (L.drop f).take n := by
  refine List.ext_getElem (by simp; omega) fun i h1 h2 => ?_
  simp at h1 h2
  simp [List.getD_eq_getElem?_getD, show f + i < L.length by omega]
theorem own_splice {vs us : List Value} {n : Nat} (h : n ≤ vs.length) : (vs.take n ++ us ++ vs.drop (n + us.length)).take (n + us.length) = vs.take n ++ us := by
  have e : (vs.take n ++ us).length = n + us.length := by simp [Nat.min_eq_left h]
  rw [← e, List.take_left']
  rfl
theorem own_splice_len {vs us : List Value} {n : Nat} (h : n + us.length ≤ vs.length) : (vs.take n ++ us ++ vs.drop (n + us.length)).length = vs.length := by
  simp; omega
theorem own_ltZ {k : Nat} {z : Int32} (hz : ¬ z < 0) (h : k < z.toNatClampNeg) : Int32.ofNat k < z := by
  have q := own_z hz
  rw [q.1, own_ltN (by omega) q.2]; exact h

def own_P0 : List Int32 := [112, 105, 100, 95, 102, 111, 117, 110, 100]
def own_P1 : List Int32 := [112, 105, 100, 95, 110, 111, 116, 70, 111, 117, 110, 100]
def own_P2 : List Int32 := [112, 105, 100, 95, 105, 110, 118, 97, 108, 105, 100]
/-- what both answer -/
def own_pick (bs : List Int32) (f0 f1 f2 : Addr) : Value := if bs = own_P0 then .ref f0 else if bs = own_P1 then .ref f1 else if bs = own_P2 then .ref f2 else .null
theorem own_pickR (bs : List Int32) (f0 f1 f2 : Addr) : (own_pick bs f0 f1 f2).isRef = true := by
  unfold own_pick; repeat' split
  all_goals rfl
/-- one of the three statics: its place, its object, its text -/
def own_S1 (Z : State) (nm : String) (f : Addr) (ts : List Int32) : Prop := Sta Z Z.heap "com/example/research_api_client/researchapiclient/lotus/LineCheck$Status" nm "Lcom/example/research_api_client/researchapiclient/lotus/LineCheck$Status;" (.ref f) ∧ Exa Z Z.heap f "com/example/research_api_client/researchapiclient/lotus/LineCheck$Status" ∧ ∃ s, Fld Z Z.heap f "com/example/research_api_client/researchapiclient/lotus/LineCheck$Status" "value" "Ljava/lang/String;" (.ref s) ∧ Str Z Z.heap s ts
def own_SF (Z : State) (vv f0 f1 f2 : Addr) (kv : ClassId) : Prop := Sta Z Z.heap "com/example/research_api_client/researchapiclient/lotus/LineCheck$Status" "$VALUES" "[Lcom/example/research_api_client/researchapiclient/lotus/LineCheck$Status;" (.ref vv) ∧ Exa Z Z.heap vv "[Lcom/example/research_api_client/researchapiclient/lotus/LineCheck$Status;" ∧ Arv Z Z.heap vv kv (.object "com/example/research_api_client/researchapiclient/lotus/LineCheck$Status") 3 [.ref f0, .ref f1, .ref f2] .null ∧
  own_S1 Z "FOUND" f0 [102, 111, 117, 110, 100] ∧ own_S1 Z "NOT_FOUND" f1 [110, 111, 116, 70, 111, 117, 110, 100] ∧ own_S1 Z "INVALID" f2 [105, 110, 118, 97, 108, 105, 100]
/-- a char[] for new String -/
def own_CA (Z : State) (h : Heap) (c : Addr) (kc : ClassId) (cs : List Int32) : Prop := Arv Z h c kc .char (Int32.ofNat cs.length) (cs.map Value.int) (.int 0) ∧ cs.length ≤ 13 ∧ ∀ x ∈ cs, ¬ x < 0 ∧ ¬ (255 : Int32) < x
theorem own_CA.ext {Z : State} {h h' : Heap} {c : Addr} {kc : ClassId} {cs : List Int32} (F : own_CA Z h c kc cs) (E : Ext h h') : own_CA Z h' c kc cs := ⟨F.1.ext E, F.2⟩
theorem own_mem2 {n : Nat} {b a : Addr} (h1 : n ≤ b) (h2 : n ≤ a) : ∀ y ∈ [b, a], n ≤ y := fun y hy => by
  rcases List.mem_cons.mp hy with rfl | hy
  · exact h1
  · cases List.mem_singleton.mp hy; exact h2
theorem own_idx (x : Int32) {n : Nat} (h1 : 1 ≤ n) (h2 : n ≤ 13) : ¬ ((x &&& 2147483647) % Int32.ofNat n) < 0 ∧ ((x &&& 2147483647) % Int32.ofNat n) < Int32.ofNat n := by
  have m1 := c_mask x 2147483647 31 (by decide) (by decide)
  have e : ((x &&& 2147483647) % Int32.ofNat n).toInt = (x &&& 2147483647).toInt.tmod n := by rw [Int32.toInt_mod, own_n32 (by omega)]
  have q1 : 0 ≤ (x &&& 2147483647).toInt.tmod n := Int.tmod_nonneg _ (by omega)
  have q2 : (x &&& 2147483647).toInt.tmod n < n := Int.tmod_lt_of_pos _ (by omega)
  rw [Int32.lt_iff_toInt_lt, Int32.lt_iff_toInt_lt, e, own_n32 (by omega)]
  have e0 : (0 : Int32).toInt = 0 := rfl
  exact ⟨by rw [e0]; omega, q2⟩
theorem own_nz {n : Nat} (h1 : 1 ≤ n) (h2 : n ≤ 13) : Int32.ofNat n ≠ 0 := fun e => by
  have q := congrArg Int32.toInt e
  rw [own_n32 (by omega)] at q
  have e0 : (0 : Int32).toInt = 0 := rfl
  omega
theorem own_idxN {j : Int32} {n : Nat} (h2 : n ≤ 13) (h : ¬ j < 0 ∧ j < Int32.ofNat n) : j.toNatClampNeg < n := by
  have q := own_z h.1
  have h' := h.2
  rw [q.1, own_ltN q.2 (by omega)] at h'
  exact h'
theorem own_CA.set {Z : State} {h : Heap} {c : Addr} {kc : ClassId} {cs : List Int32} {i : Nat} {x : Int32} (hl : cs.length ≤ 13) (hr : ∀ x ∈ cs, ¬ x < 0 ∧ ¬ (255 : Int32) < x) (hx : ¬ x < 0 ∧ ¬ (255 : Int32) < x) (V : Arv Z h c kc .char (Int32.ofNat cs.length) ((cs.map Value.int).set i (.int x)) (.int 0)) : own_CA Z h c kc (cs.set i x) := by
  refine ⟨?_, by rw [List.length_set]; exact hl, fun y hy => ?_⟩
  · rw [List.length_set, List.map_set]; exact V
  · rcases List.mem_or_eq_of_mem_set hy with q | rfl
    · exact hr y q
    · exact hx
theorem own_eqI {s : State} {args : Array Value} {a b : Term} {z : Int32} (h : (Cond.eq a b).value args s none s [] = some true) (hb : b.eval args s none [] s = some (.int z)) : a.eval args s none [] s = some (.int z) := by
  cases ha : a.eval args s none [] s with
  | none => simp [Cond.value, ha, hb] at h
  | some x => cases x <;> simp [Cond.value, ha, hb] at h ⊢ <;> exact h
theorem own_eqR {s : State} {args : Array Value} {a b : Term} {z : Addr} (h : (Cond.eq a b).value args s none s [] = some true) (hb : b.eval args s none [] s = some (.ref z)) : a.eval args s none [] s = some (.ref z) := by
  cases ha : a.eval args s none [] s with
  | none => simp [Cond.value, ha, hb] at h
  | some x => cases x <;> simp [Cond.value, ha, hb] at h ⊢ <;> exact h
theorem own_arr0 {s : State} {args : Array Value} {t : Term} {a : Addr} {ty : FieldType} {z : Int32} {vs : List Value} {dv : Value} (hF : Fit s) (ht : t.eval args s none [] s = some (.ref a)) (hA : (Cond.arrayOf t ty).value args s none s [] = some true) (hl : (Cond.eq (.length t) (.int z)).value args s none s [] = some true) (hz : ¬ z < 0) (hvs : z.toNatClampNeg = vs.length) (H : ∀ c : Cell, s.heap[a]? = some c → HasL c 0 vs) : ∃ k, Arv s s.heap a k ty z vs dv := by
  obtain ⟨c, A⟩ := Arr.start ht hA
  have e1 := own_eqI hl (Term.int_eval z)
  obtain ⟨x, cl, e2, e3, e4⟩ := Term.length_spec e1
  cases ht.symm.trans e2
  have hal : s.vm.Alike s.vm := (State.Warmed39.refl s).alike
  cases (Arr.fin (U := s) hal A).symm.trans e3
  have hs : c.slots.size < 2 ^ 31 := by
    simp only [Term.eval, Option.bind_eq_bind, ht, Option.bind_some, e3] at e1
    by_cases q : c.slots.size < 2 ^ 31
    · exact q
    · simp [q] at e1
  injection e4 with e4
  exact ⟨_, Arv.start hF A hs e4.symm hz hvs (H c A.1)⟩

theorem dLE_0 : decode jdk_43_method_13_code 0 = .ok (.aload_n 0, 1) := by decide +kernel
theorem dLE_1 : decode jdk_43_method_13_code 1 = .ok (.arraylength, 1) := by decide +kernel
theorem dLE_2 : decode jdk_43_method_13_code 2 = .ok (.aload_n 1, 1) := by decide +kernel
theorem dLE_3 : decode jdk_43_method_13_code 3 = .ok (.arraylength, 1) := by decide +kernel
theorem dLE_4 : decode jdk_43_method_13_code 4 = .ok (.if_icmp .ne 30, 3) := by decide +kernel
theorem dLE_7 : decode jdk_43_method_13_code 7 = .ok (.iconst 0, 1) := by decide +kernel
theorem dLE_8 : decode jdk_43_method_13_code 8 = .ok (.istore_n 2, 1) := by decide +kernel
theorem dLE_9 : decode jdk_43_method_13_code 9 = .ok (.iload_n 2, 1) := by decide +kernel
theorem dLE_10 : decode jdk_43_method_13_code 10 = .ok (.aload_n 0, 1) := by decide +kernel
theorem dLE_11 : decode jdk_43_method_13_code 11 = .ok (.arraylength, 1) := by decide +kernel
theorem dLE_12 : decode jdk_43_method_13_code 12 = .ok (.if_icmp .ge 20, 3) := by decide +kernel
theorem dLE_15 : decode jdk_43_method_13_code 15 = .ok (.aload_n 0, 1) := by decide +kernel
theorem dLE_16 : decode jdk_43_method_13_code 16 = .ok (.iload_n 2, 1) := by decide +kernel
theorem dLE_17 : decode jdk_43_method_13_code 17 = .ok (.baload, 1) := by decide +kernel
theorem dLE_18 : decode jdk_43_method_13_code 18 = .ok (.aload_n 1, 1) := by decide +kernel
theorem dLE_19 : decode jdk_43_method_13_code 19 = .ok (.iload_n 2, 1) := by decide +kernel
theorem dLE_20 : decode jdk_43_method_13_code 20 = .ok (.baload, 1) := by decide +kernel
theorem dLE_21 : decode jdk_43_method_13_code 21 = .ok (.if_icmp .eq 5, 3) := by decide +kernel
theorem dLE_24 : decode jdk_43_method_13_code 24 = .ok (.iconst 0, 1) := by decide +kernel
theorem dLE_25 : decode jdk_43_method_13_code 25 = .ok (.ireturn, 1) := by decide +kernel
theorem dLE_26 : decode jdk_43_method_13_code 26 = .ok (.iinc 2 1, 3) := by decide +kernel
theorem dLE_29 : decode jdk_43_method_13_code 29 = .ok (.goto (-20), 3) := by decide +kernel
theorem dLE_32 : decode jdk_43_method_13_code 32 = .ok (.iconst 1, 1) := by decide +kernel
theorem dLE_33 : decode jdk_43_method_13_code 33 = .ok (.ireturn, 1) := by decide +kernel
theorem dLE_34 : decode jdk_43_method_13_code 34 = .ok (.iconst 0, 1) := by decide +kernel
theorem dLE_35 : decode jdk_43_method_13_code 35 = .ok (.ireturn, 1) := by decide +kernel
set_option maxRecDepth 65536 in
set_option maxHeartbeats 40000000 in
theorem own_leq (l : Launch) (Z : State) (a0 : Array Value) (hw : ∀ d ∈ tables_1, d.before a0 Z = true) (EL : List (String × Nat)) (hEL : EW Z a0 EL) (h0 : Heap) (b c : Addr) (kb kc : ClassId) (z z' : Int32) (bs ds : List Int32) (A : Arv Z h0 b kb .byte z (bs.map Value.int) (.int 0)) (B : Arv Z h0 c kc .byte z' (ds.map Value.int) (.int 0)) (hz0 : ¬ z < 0) (hz : z.toNatClampNeg = bs.length) (hz0' : ¬ z' < 0) (hz' : z'.toNatClampNeg = ds.length) :
    Con l Z EL false [] (⟨"java/lang/StringLatin1", "equals", "([B[B)Z"⟩ : MethodName) jdk_43_method_13_code 3 (some .boolean) ({ frames := 0, cells := 0, slots := 0, locals := 0 } : Room) #[(.ref b), (.ref c)] h0 (fun v h' => v = some (.int (if bs = ds then 1 else 0)) ∧ h0 = h') := by
  refine Con.of (Ls := #[.val (.ref b), .val (.ref c), .unset]) (plainFor_of_name own_pn0) hEL (fun m => by first | (simp [entryFrame, mkF, argsToLocals, Value.category]; done) | rfl) ?_
  intro vm0 hZ0 hE0 hC0 hS0
  obtain ⟨z1, z2⟩ := own_z hz0
  obtain ⟨z1', z2'⟩ := own_z hz0'
  rw [hz] at z1 z2
  rw [hz'] at z1' z2'
  have loop : bs.length = ds.length → ∀ r k, k + r = bs.length → bs.take k = ds.take k → WP l Z EL false "java/lang/StringLatin1" "equals" jdk_43_method_13_code 3 (some .boolean) ({ frames := 0, cells := 0, slots := 0, locals := 0 } : Room) (fun v h' => v = some (.int (if bs = ds then 1 else 0)) ∧ h0 = h') vm0 h0 0 0 9 #[.val (.ref b), .val (.ref c), .val (.int (Int32.ofNat k))] [] := by
    intro hlen r
    induction r with
    | zero =>
      intro k hk ht
      refine WP.iloadN (n := 10) dLE_9 rfl rfl ?_
      refine WP.aloadN (n := 11) dLE_10 rfl rfl rfl ?_
      refine WP.alen (n := 12) dLE_11 A rfl ?_
      refine WP.icmpY (n := 32) dLE_12 (flt (by rw [z1]; rw [own_ltN (by omega) (by omega)]; omega)).2.1 (by decide) (by decide) ?_
      refine WP.iconst (n := 33) (z := (1 : Int32)) dLE_32 rfl rfl ?_
      refine WP.retN dLE_33 rfl (Or.inl rfl) (by decide : nar .boolean 1 = 1) (by decide) (by decide) ⟨?_, rfl⟩
      rw [if_pos]
      have e : k = bs.length := by omega
      rw [e, List.take_length, hlen, List.take_length] at ht
      exact ht
    | succ r ih =>
      intro k hk ht
      have kb : k < bs.length := by omega
      have kd : k < ds.length := by omega
      refine WP.iloadN (n := 10) dLE_9 rfl rfl ?_
      refine WP.aloadN (n := 11) dLE_10 rfl rfl rfl ?_
      refine WP.alen (n := 12) dLE_11 A rfl ?_
      refine WP.icmpN (n' := 15) dLE_12 (tlt (by rw [z1]; rw [own_ltN (by omega) (by omega)]; omega)).2.1 rfl ?_
      refine WP.aloadN (n := 16) dLE_15 rfl rfl rfl ?_
      refine WP.iloadN (n := 17) dLE_16 rfl rfl ?_
      refine WP.baload (n := 18) (v := .int bs[k]) dLE_17 A ⟨own_nn (by omega), by rw [z1, own_ltN (by omega) (by omega)]; omega⟩ (by rw [own_clamp (by omega)]; simp [List.getD_eq_getElem?_getD, kb]) rfl ?_
      refine WP.aloadN (n := 19) dLE_18 rfl rfl rfl ?_
      refine WP.iloadN (n := 20) dLE_19 rfl rfl ?_
      refine WP.baload (n := 21) (v := .int ds[k]) dLE_20 B ⟨own_nn (by omega), by rw [z1', own_ltN (by omega) (by omega)]; omega⟩ (by rw [own_clamp (by omega)]; simp [List.getD_eq_getElem?_getD, kd]) rfl ?_
      refine WP.icmp_eq (n := 26) (n' := 24) dLE_21 (by decide) (by decide) rfl (fun b1 => ?_) (fun b1 => ?_)
      · refine WP.iinc (n := 29) (z := Int32.ofNat (k + 1)) (Ls' := #[.val (.ref b), .val (.ref c), .val (.int (Int32.ofNat (k + 1)))]) dLE_26 rfl (own_inc (by omega)) rfl rfl ?_
        refine WP.goto (n := 9) dLE_29 (by decide) (by decide) ?_
        refine ih (k + 1) (by omega) ?_
        rw [List.take_succ_eq_append_getElem kb, List.take_succ_eq_append_getElem kd, ht, b1]
      · refine WP.iconst (n := 25) (z := (0 : Int32)) dLE_24 rfl rfl ?_
        refine WP.retN dLE_25 rfl (Or.inl rfl) (by decide : nar .boolean 0 = 0) (by decide) (by decide) ⟨?_, rfl⟩
        rw [if_neg]
        intro e
        subst e
        exact b1 rfl
  refine WP.aloadN (n := 1) dLE_0 rfl rfl rfl ?_
  refine WP.alen (n := 2) dLE_1 A rfl ?_
  refine WP.aloadN (n := 3) dLE_2 rfl rfl rfl ?_
  refine WP.alen (n := 4) dLE_3 B rfl ?_
  refine WP.icmp_ne (n := 34) (n' := 7) dLE_4 (by decide) (by decide) rfl (fun b2 => ?_) (fun b2 => ?_)
  · refine WP.iconst (n := 35) (z := (0 : Int32)) dLE_34 rfl rfl ?_
    refine WP.retN dLE_35 rfl (Or.inl rfl) (by decide : nar .boolean 0 = 0) (by decide) (by decide) ⟨?_, rfl⟩
    rw [if_neg]
    intro e
    subst e
    exact b2 (z1.trans z1'.symm)
  · refine WP.iconst (n := 8) (z := (0 : Int32)) dLE_7 rfl rfl ?_
    refine WP.istoreN (n := 9) (Ls' := #[.val (.ref b), .val (.ref c), .val (.int (0 : Int32))]) dLE_8 rfl rfl ?_
    exact loop (by rw [← hz, ← hz', b2]) bs.length 0 (by omega) rfl
theorem dSE_0 : decode jdk_42_method_66_code 0 = .ok (.aload_n 0, 1) := by decide +kernel
theorem dSE_1 : decode jdk_42_method_66_code 1 = .ok (.aload_n 1, 1) := by decide +kernel
theorem dSE_2 : decode jdk_42_method_66_code 2 = .ok (.if_acmp .ne 5, 3) := by decide +kernel
theorem dSE_5 : decode jdk_42_method_66_code 5 = .ok (.iconst 1, 1) := by decide +kernel
theorem dSE_6 : decode jdk_42_method_66_code 6 = .ok (.ireturn, 1) := by decide +kernel
theorem dSE_7 : decode jdk_42_method_66_code 7 = .ok (.aload_n 1, 1) := by decide +kernel
theorem dSE_8 : decode jdk_42_method_66_code 8 = .ok (.instanceof 10, 3) := by decide +kernel
theorem dSE_11 : decode jdk_42_method_66_code 11 = .ok (.ifCond .eq 43, 3) := by decide +kernel
theorem dSE_14 : decode jdk_42_method_66_code 14 = .ok (.aload_n 1, 1) := by decide +kernel
theorem dSE_15 : decode jdk_42_method_66_code 15 = .ok (.checkcast 10, 3) := by decide +kernel
theorem dSE_18 : decode jdk_42_method_66_code 18 = .ok (.astore_n 2, 1) := by decide +kernel
theorem dSE_19 : decode jdk_42_method_66_code 19 = .ok (.getstatic 38, 3) := by decide +kernel
theorem dSE_22 : decode jdk_42_method_66_code 22 = .ok (.ifCond .eq 14, 3) := by decide +kernel
theorem dSE_25 : decode jdk_42_method_66_code 25 = .ok (.aload_n 0, 1) := by decide +kernel
theorem dSE_26 : decode jdk_42_method_66_code 26 = .ok (.getfield 15, 3) := by decide +kernel
theorem dSE_29 : decode jdk_42_method_66_code 29 = .ok (.aload_n 2, 1) := by decide +kernel
theorem dSE_30 : decode jdk_42_method_66_code 30 = .ok (.getfield 15, 3) := by decide +kernel
theorem dSE_33 : decode jdk_42_method_66_code 33 = .ok (.if_icmp .ne 21, 3) := by decide +kernel
theorem dSE_36 : decode jdk_42_method_66_code 36 = .ok (.aload_n 0, 1) := by decide +kernel
theorem dSE_37 : decode jdk_42_method_66_code 37 = .ok (.getfield 9, 3) := by decide +kernel
theorem dSE_40 : decode jdk_42_method_66_code 40 = .ok (.aload_n 2, 1) := by decide +kernel
theorem dSE_41 : decode jdk_42_method_66_code 41 = .ok (.getfield 9, 3) := by decide +kernel
theorem dSE_44 : decode jdk_42_method_66_code 44 = .ok (.invokestatic 541, 3) := by decide +kernel
theorem dSE_47 : decode jdk_42_method_66_code 47 = .ok (.ifCond .eq 7, 3) := by decide +kernel
theorem dSE_50 : decode jdk_42_method_66_code 50 = .ok (.iconst 1, 1) := by decide +kernel
theorem dSE_51 : decode jdk_42_method_66_code 51 = .ok (.goto 4, 3) := by decide +kernel
theorem dSE_54 : decode jdk_42_method_66_code 54 = .ok (.iconst 0, 1) := by decide +kernel
theorem dSE_55 : decode jdk_42_method_66_code 55 = .ok (.ireturn, 1) := by decide +kernel
set_option maxRecDepth 65536 in
set_option maxHeartbeats 40000000 in
theorem own_seq (l : Launch) (Z : State) (a0 : Array Value) (hw : ∀ d ∈ tables_1, d.before a0 Z = true) (EL : List (String × Nat)) (hEL : EW Z a0 EL) (h0 : Heap) (a b : Addr) (bs ds : List Int32) (A : Str Z h0 a bs) (B : Str Z h0 b ds) (cz : Int32) (O : Sta Z Z.heap "java/lang/String" "COMPACT_STRINGS" "Z" (.int cz)) (hO : ¬ cz = 0) :
    Con l Z EL false [] (⟨"java/lang/String", "equals", "(Ljava/lang/Object;)Z"⟩ : MethodName) jdk_42_method_66_code 3 (some .boolean) ({ frames := 1, cells := 0, slots := 0, locals := 14 } : Room) #[(.ref a), (.ref b)] h0 (fun v h' => v = some (.int (if bs = ds then 1 else 0)) ∧ h0 = h') := by
  refine Con.of (Ls := #[.val (.ref a), .val (.ref b), .unset]) (plainFor_of_name own_pn1) hEL (fun m => by first | (simp [entryFrame, mkF, argsToLocals, Value.category]; done) | rfl) ?_
  intro vm0 hZ0 hE0 hC0 hS0
  obtain ⟨f1, f2, ba, ka, za, f3, f4, f5⟩ := id A
  obtain ⟨g1, g2, bb, kb, zb, g3, g4, g5⟩ := id B
  have hza : ¬ za < 0 := by obtain ⟨_, _, _, _, q, _⟩ := f4; exact q
  have hzb : ¬ zb < 0 := by obtain ⟨_, _, _, _, q, _⟩ := g4; exact q
  refine WP.aloadN (n := 1) dSE_0 rfl rfl rfl ?_
  refine WP.aloadN (n := 2) dSE_1 rfl rfl rfl ?_
  by_cases hab : a = b
  · refine WP.acmpN (n' := 5) dSE_2 rfl rfl (own_ne_f (by rw [hab])) rfl ?_
    refine WP.iconst (n := 6) (z := (1 : Int32)) dSE_5 rfl rfl ?_
    exact WP.retN dSE_6 rfl (Or.inl rfl) (by decide : nar .boolean 1 = 1) (by decide) (by decide) ⟨by subst hab; rw [if_pos (A.inj B)], rfl⟩
  · refine WP.acmpY (n := 7) dSE_2 rfl rfl (own_ne_t (fun h => hab (by injection h))) (by decide) (by decide) ?_
    refine WP.aloadN (n := 8) dSE_7 rfl rfl rfl ?_
    refine WP.instY (n := 11) dSE_8 (hw _ (List.mem_of_getElem? (i := 177) rfl)) (Ins.self g1) rfl ?_
    refine WP.ifcN (n' := 14) dSE_11 (by decide) rfl ?_
    refine WP.aloadN (n := 15) dSE_14 rfl rfl rfl ?_
    refine WP.castY (n := 18) dSE_15 (hw _ (List.mem_of_getElem? (i := 177) rfl)) (Ins.self g1) rfl ?_
    refine WP.astoreN (n := 19) (Ls' := #[.val (.ref a), .val (.ref b), .val (.ref b)]) dSE_18 rfl rfl rfl ?_
    refine WP.getSZ (n := 22) dSE_19 (hw _ (List.mem_of_getElem? (i := 19) rfl)) Via.refl O rfl ?_
    refine WP.ifcN (n' := 25) dSE_22 ((if0 _ _).trans (feq hO).1) rfl ?_
    refine WP.aloadN (n := 26) dSE_25 rfl rfl rfl ?_
    refine WP.getF (n := 29) (host := "") dSE_26 (Or.inl (hw _ (List.mem_of_getElem? (i := 31) rfl))) Via.refl f2 rfl ?_
    refine WP.aloadN (n := 30) dSE_29 rfl rfl rfl ?_
    refine WP.getF (n := 33) (host := "") dSE_30 (Or.inl (hw _ (List.mem_of_getElem? (i := 31) rfl))) Via.refl g2 rfl ?_
    refine WP.icmpN (n' := 36) dSE_33 (by decide) rfl ?_
    refine WP.aloadN (n := 37) dSE_36 rfl rfl rfl ?_
    refine WP.getF (n := 40) (host := "") dSE_37 (Or.inl (hw _ (List.mem_of_getElem? (i := 33) rfl))) Via.refl f3 rfl ?_
    refine WP.aloadN (n := 41) dSE_40 rfl rfl rfl ?_
    refine WP.getF (n := 44) (host := "") dSE_41 (Or.inl (hw _ (List.mem_of_getElem? (i := 33) rfl))) Via.refl g3 rfl ?_
    refine WP.callS (n := 47) (ce' := 0) (sl' := 0) (Wd := 0) (argsL := [(.ref ba), (.ref bb)]) (rest := []) (own_leq l Z a0 hw EL hEL h0 ba bb ka kb za zb bs ds f4 g4 hza f5 hzb g5) dSE_44 (hw _ (List.mem_of_getElem? (i := 178) rfl)) (hw _ (List.mem_of_getElem? (i := 179) rfl)) (hw _ (List.mem_of_getElem? (i := 180) rfl)) (hw _ (List.mem_of_getElem? (i := 181) rfl)) (by decide) (fun _ q => nomatch q) (by decide) (by decide) rfl rfl (by decide) (by decide) rfl rfl (lenOf own_pd0 rfl) rfl (Nat.le_of_eq rfl) rfl (fun v3 vm3 h3 q3 r3 => ?_)
    obtain ⟨rfl, rfl⟩ := q3
    by_cases hbd : bs = ds
    · rw [if_pos hbd]
      refine WP.ifcN (n' := 50) dSE_47 (by decide) rfl ?_
      refine WP.iconst (n := 51) (z := (1 : Int32)) dSE_50 rfl rfl ?_
      refine WP.goto (n := 55) dSE_51 (by decide) (by decide) ?_
      exact WP.retN dSE_55 rfl (Or.inl rfl) (by decide : nar .boolean 1 = 1) (by decide) (by decide) ⟨by first | rfl | rw [if_pos hbd], rfl⟩
    · rw [if_neg hbd]
      refine WP.ifcY (n := 54) dSE_47 (by decide) (by decide) (by decide) ?_
      refine WP.iconst (n := 55) (z := (0 : Int32)) dSE_54 rfl rfl ?_
      exact WP.retN dSE_55 rfl (Or.inl rfl) (by decide : nar .boolean 0 = 0) (by decide) (by decide) ⟨by first | rfl | rw [if_neg hbd], rfl⟩
theorem dS4_0 : decode jdk_42_method_149_code 0 = .ok (.aload_n 0, 1) := by decide +kernel
theorem dS4_1 : decode jdk_42_method_149_code 1 = .ok (.invokespecial 1, 3) := by decide +kernel
theorem dS4_4 : decode jdk_42_method_149_code 4 = .ok (.iload_n 3, 1) := by decide +kernel
theorem dS4_5 : decode jdk_42_method_149_code 5 = .ok (.ifCond .ne 22, 3) := by decide +kernel
theorem dS4_8 : decode jdk_42_method_149_code 8 = .ok (.aload_n 0, 1) := by decide +kernel
theorem dS4_9 : decode jdk_42_method_149_code 9 = .ok (.ldc 7, 2) := by decide +kernel
theorem dS4_11 : decode jdk_42_method_149_code 11 = .ok (.getfield 9, 3) := by decide +kernel
theorem dS4_14 : decode jdk_42_method_149_code 14 = .ok (.putfield 9, 3) := by decide +kernel
theorem dS4_17 : decode jdk_42_method_149_code 17 = .ok (.aload_n 0, 1) := by decide +kernel
theorem dS4_18 : decode jdk_42_method_149_code 18 = .ok (.ldc 7, 2) := by decide +kernel
theorem dS4_20 : decode jdk_42_method_149_code 20 = .ok (.getfield 15, 3) := by decide +kernel
theorem dS4_23 : decode jdk_42_method_149_code 23 = .ok (.putfield 15, 3) := by decide +kernel
theorem dS4_26 : decode jdk_42_method_149_code 26 = .ok (.return_, 1) := by decide +kernel
theorem dS4_27 : decode jdk_42_method_149_code 27 = .ok (.getstatic 38, 3) := by decide +kernel
theorem dS4_30 : decode jdk_42_method_149_code 30 = .ok (.ifCond .eq 28, 3) := by decide +kernel
theorem dS4_33 : decode jdk_42_method_149_code 33 = .ok (.aload_n 1, 1) := by decide +kernel
theorem dS4_34 : decode jdk_42_method_149_code 34 = .ok (.iload_n 2, 1) := by decide +kernel
theorem dS4_35 : decode jdk_42_method_149_code 35 = .ok (.iload_n 3, 1) := by decide +kernel
theorem dS4_36 : decode jdk_42_method_149_code 36 = .ok (.invokestatic 177, 3) := by decide +kernel
theorem dS4_39 : decode jdk_42_method_149_code 39 = .ok (.astore 5, 2) := by decide +kernel
theorem dS4_41 : decode jdk_42_method_149_code 41 = .ok (.aload_n 0, 1) := by decide +kernel
theorem dS4_42 : decode jdk_42_method_149_code 42 = .ok (.aload 5, 2) := by decide +kernel
theorem dS4_44 : decode jdk_42_method_149_code 44 = .ok (.iload_n 3, 1) := by decide +kernel
theorem dS4_45 : decode jdk_42_method_149_code 45 = .ok (.invokestatic 47, 3) := by decide +kernel
theorem dS4_48 : decode jdk_42_method_149_code 48 = .ok (.putfield 15, 3) := by decide +kernel
theorem dS4_51 : decode jdk_42_method_149_code 51 = .ok (.aload_n 0, 1) := by decide +kernel
theorem dS4_52 : decode jdk_42_method_149_code 52 = .ok (.aload 5, 2) := by decide +kernel
theorem dS4_54 : decode jdk_42_method_149_code 54 = .ok (.putfield 9, 3) := by decide +kernel
theorem dS4_57 : decode jdk_42_method_149_code 57 = .ok (.return_, 1) := by decide +kernel
theorem dS4_58 : decode jdk_42_method_149_code 58 = .ok (.aload_n 0, 1) := by decide +kernel
theorem dS4_59 : decode jdk_42_method_149_code 59 = .ok (.iconst 1, 1) := by decide +kernel
theorem dS4_60 : decode jdk_42_method_149_code 60 = .ok (.putfield 15, 3) := by decide +kernel
theorem dS4_63 : decode jdk_42_method_149_code 63 = .ok (.aload_n 0, 1) := by decide +kernel
theorem dS4_64 : decode jdk_42_method_149_code 64 = .ok (.aload_n 1, 1) := by decide +kernel
theorem dS4_65 : decode jdk_42_method_149_code 65 = .ok (.iload_n 2, 1) := by decide +kernel
theorem dS4_66 : decode jdk_42_method_149_code 66 = .ok (.iload_n 3, 1) := by decide +kernel
theorem dS4_67 : decode jdk_42_method_149_code 67 = .ok (.invokestatic 180, 3) := by decide +kernel
theorem dS4_70 : decode jdk_42_method_149_code 70 = .ok (.putfield 9, 3) := by decide +kernel
theorem dS4_73 : decode jdk_42_method_149_code 73 = .ok (.return_, 1) := by decide +kernel
set_option maxRecDepth 65536 in
set_option maxHeartbeats 40000000 in
theorem own_si4 (l : Launch) (Z : State) (a0 : Array Value) (hw : ∀ d ∈ tables_1, d.before a0 Z = true) (EL : List (String × Nat)) (hEL : EW Z a0 EL) (h0 : Heap) (a b : Addr) (v0 c0 : Value) (hN : Z.heap.size ≤ a) (hA : Exa Z h0 a "java/lang/String") (hV : Fld Z h0 a "java/lang/String" "value" "[B" v0) (hK : Fld Z h0 a "java/lang/String" "coder" "B" c0) (hm : ("java/lang/String", 7) ∈ EL) :
    Con l Z EL false [a] (⟨"java/lang/String", "<init>", "([CIILjava/lang/Void;)V"⟩ : MethodName) jdk_42_method_149_code 6 none ({ frames := 1, cells := 2, slots := 4, locals := 12 } : Room) #[(.ref a), (.ref b), (.int (0 : Int32)), (.int (0 : Int32)), .null] h0 (fun v h' => v = none ∧ Keep h0 h' [a] ∧ Str Z h' a []) := by
  have wS : ∀ a ∈ Bundle.stringAtoms, a.before a0 Z = true := fun d hd => hw d ((by decide +kernel : ∀ d ∈ Bundle.stringAtoms, d ∈ tables_1) d hd)
  refine Con.of (Ls := #[.val (.ref a), .val (.ref b), .val (.int (0 : Int32)), .val (.int (0 : Int32)), .val .null, .unset]) (plainFor_of_name own_pn1) hEL (fun m => by first | (simp [entryFrame, mkF, argsToLocals, Value.category]; done) | rfl) ?_
  intro vm0 hZ0 hE0 hC0 hS0
  refine WP.aloadN (n := 1) dS4_0 rfl rfl rfl ?_
  refine WP.initO (n := 4) (Wd := 0) dS4_1 (hw _ (List.mem_of_getElem? (i := 16) rfl)) (hw _ (List.mem_of_getElem? (i := 17) rfl)) (hw _ (List.mem_of_getElem? (i := 18) rfl)) rfl (by decide) (Nat.le_of_eq rfl) (by decide) rfl ?_
  refine WP.iloadN (n := 5) dS4_4 rfl rfl ?_
  refine WP.ifcN (n' := 8) dS4_5 (by decide) rfl ?_
  refine WP.aloadN (n := 9) dS4_8 rfl rfl rfl ?_
  refine WP.ldcC (n := 11) (nn := 0) (ce' := 2) (sl' := 4) (vs := []) (z := 0) dS4_9 rfl (hw _ (List.mem_of_getElem? (i := 203) rfl)) wS hm ⟨by decide, rfl⟩ (by decide) rfl (by decide) (by decide) rfl rfl (by decide) (by decide) hEL rfl (fun a4 b4 k4 vm4 h4 E4 r4 X4 C4 V4 B4 L4 N4 => ?_)
  have S4 := r4.safe hA.lt (hS0 a (List.mem_cons_self ..))
  refine WP.getF (n := 14) (host := "") dS4_11 (Or.inl (hw _ (List.mem_of_getElem? (i := 33) rfl))) Via.refl V4 rfl ?_
  refine WP.putF (n := 17) (host := "") (ty := (.array .byte)) dS4_14 (Or.inl (hw _ (List.mem_of_getElem? (i := 33) rfl))) Via.refl (hV.ext E4) (hA.ext E4) (Or.inr ⟨(hw _ (List.mem_of_getElem? (i := 34) rfl)), rfl, rfl⟩) (hw _ (List.mem_of_getElem? (i := 7) rfl)) (by decide) rfl rfl hN S4 rfl (fun h5 W5 r5 => ?_)
  have A5 := (hA.ext E4).wr W5
  have K5 := ((Keep.refl h0 [a]).ext E4).wr W5 (Or.inl (List.mem_cons_self ..))
  have F5_value := (hV.ext E4).same W5
  have F5_coder := (hK.ext E4).other W5 (Or.inr (slot_ne (t := .byte) (t' := (.array .byte)) (Or.inr (hw _ (List.mem_of_getElem? (i := 32) rfl))) (Or.inr (hw _ (List.mem_of_getElem? (i := 34) rfl))) (by decide) (by decide) (by decide)))
  have C5 := C4.other W5 (Or.inl (Ne.symm (N4 a S4).1))
  have B5 := B4.other W5 (Ne.symm (N4 a S4).2)
  refine WP.inv fun hZ5 hE5 hC5 => ?_
  have S5 := r5.safe (Nat.lt_of_lt_of_le hA.lt r4.2.1) S4
  refine WP.aloadN (n := 18) dS4_17 rfl rfl rfl ?_
  refine WP.ldcA (n := 20) dS4_18 (hw _ (List.mem_of_getElem? (i := 203) rfl)) L4 rfl ?_
  refine WP.getF (n := 23) (host := "") dS4_20 (Or.inl (hw _ (List.mem_of_getElem? (i := 31) rfl))) Via.refl C5 rfl ?_
  refine WP.putF (n := 26) (host := "") (ty := .byte) dS4_23 (Or.inl (hw _ (List.mem_of_getElem? (i := 31) rfl))) Via.refl F5_coder A5 (Or.inr ⟨(hw _ (List.mem_of_getElem? (i := 32) rfl)), rfl, rfl⟩) (hw _ (List.mem_of_getElem? (i := 7) rfl)) (by decide) rfl (by decide) hN S5 rfl (fun h6 W6 r6 => ?_)
  have A6 := A5.wr W6
  have K6 := K5.wr W6 (Or.inl (List.mem_cons_self ..))
  have F6_coder := F5_coder.same W6
  have F6_value := F5_value.other W6 (Or.inr (slot_ne (t := (.array .byte)) (t' := .byte) (Or.inr (hw _ (List.mem_of_getElem? (i := 34) rfl))) (Or.inr (hw _ (List.mem_of_getElem? (i := 32) rfl))) (by decide) (by decide) (by decide)))
  have B6 := B5.other W6 (Ne.symm (N4 a S4).2)
  refine WP.retV dS4_26 rfl (by decide) (by decide) ?_
  exact ⟨rfl, K6, A6, F6_coder, b4, k4, 0, F6_value, B6, rfl⟩
theorem dS1_0 : decode jdk_42_method_3_code 0 = .ok (.aload_n 0, 1) := by decide +kernel
theorem dS1_1 : decode jdk_42_method_3_code 1 = .ok (.aload_n 1, 1) := by decide +kernel
theorem dS1_2 : decode jdk_42_method_3_code 2 = .ok (.iconst 0, 1) := by decide +kernel
theorem dS1_3 : decode jdk_42_method_3_code 3 = .ok (.aload_n 1, 1) := by decide +kernel
theorem dS1_4 : decode jdk_42_method_3_code 4 = .ok (.arraylength, 1) := by decide +kernel
theorem dS1_5 : decode jdk_42_method_3_code 5 = .ok (.aconst_null, 1) := by decide +kernel
theorem dS1_6 : decode jdk_42_method_3_code 6 = .ok (.invokespecial 27, 3) := by decide +kernel
theorem dS1_9 : decode jdk_42_method_3_code 9 = .ok (.return_, 1) := by decide +kernel
set_option maxRecDepth 65536 in
set_option maxHeartbeats 40000000 in
theorem own_si1 (l : Launch) (Z : State) (a0 : Array Value) (hw : ∀ d ∈ tables_1, d.before a0 Z = true) (EL : List (String × Nat)) (hEL : EW Z a0 EL) (h0 : Heap) (a b : Addr) (v0 c0 : Value) (hN : Z.heap.size ≤ a) (hA : Exa Z h0 a "java/lang/String") (hV : Fld Z h0 a "java/lang/String" "value" "[B" v0) (hK : Fld Z h0 a "java/lang/String" "coder" "B" c0) (kb : ClassId) (dv : Value) (hB : Arv Z h0 b kb .char 0 [] dv) (hm : ("java/lang/String", 7) ∈ EL) :
    Con l Z EL false [a] (⟨"java/lang/String", "<init>", "([C)V"⟩ : MethodName) jdk_42_method_3_code 2 none ({ frames := 2, cells := 2, slots := 4, locals := 29 } : Room) #[(.ref a), (.ref b)] h0 (fun v h' => v = none ∧ Keep h0 h' [a] ∧ Str Z h' a []) := by
  refine Con.of (Ls := #[.val (.ref a), .val (.ref b)]) (plainFor_of_name own_pn1) hEL (fun m => by first | (simp [entryFrame, mkF, argsToLocals, Value.category]; done) | rfl) ?_
  intro vm0 hZ0 hE0 hC0 hS0
  refine WP.aloadN (n := 1) dS1_0 rfl rfl rfl ?_
  refine WP.aloadN (n := 2) dS1_1 rfl rfl rfl ?_
  refine WP.iconst (n := 3) (z := (0 : Int32)) dS1_2 rfl rfl ?_
  refine WP.aloadN (n := 4) dS1_3 rfl rfl rfl ?_
  refine WP.alen (n := 5) dS1_4 hB rfl ?_
  refine WP.aconstNull (n := 6) dS1_5  rfl ?_
  refine WP.callP (n := 9) (ce' := 2) (sl' := 4) (Wd := 0) (a := a) (argsL := [(.ref b), (.int (0 : Int32)), (.int (0 : Int32)), .null]) (rest := []) (own_si4 l Z a0 hw EL hEL h0 a b v0 c0 hN hA hV hK hm) dS1_6 rfl (hw _ (List.mem_of_getElem? (i := 12) rfl)) (hw _ (List.mem_of_getElem? (i := 13) rfl)) (hw _ (List.mem_of_getElem? (i := 8) rfl)) (hw _ (List.mem_of_getElem? (i := 15) rfl)) (by decide) (fun y q => by cases List.mem_singleton.mp q; exact ⟨hS0 a (List.mem_cons_self ..), hA.lt⟩) (by decide) (by decide) rfl rfl (by decide) (by decide) rfl rfl (lenOf own_pd1 rfl) rfl (Nat.le_of_eq rfl) rfl (fun v7 vm7 h7 q7 r7 => ?_)
  obtain ⟨rfl, K7, F7⟩ := q7
  refine WP.retV dS1_9 rfl (by decide) (by decide) ?_
  exact ⟨rfl, K7, F7⟩
def own_mn (x y : Int32) : Int32 := if y < x then y else x
theorem own_mnN {k m : Nat} (hk : k < 2147483648) (hm : m ≤ k) : own_mn (Int32.ofNat k) (Int32.ofNat m) = Int32.ofNat m := by
  unfold own_mn
  by_cases c : Int32.ofNat m < Int32.ofNat k
  · rw [if_pos c]
  · rw [if_neg c]; rw [own_ltN (by omega) hk] at c; congr 1; omega
theorem dMN_0 : decode jdk_29_method_69_code 0 = .ok (.iload_n 0, 1) := by decide +kernel
theorem dMN_1 : decode jdk_29_method_69_code 1 = .ok (.iload_n 1, 1) := by decide +kernel
theorem dMN_2 : decode jdk_29_method_69_code 2 = .ok (.if_icmp .gt 7, 3) := by decide +kernel
theorem dMN_5 : decode jdk_29_method_69_code 5 = .ok (.iload_n 0, 1) := by decide +kernel
theorem dMN_6 : decode jdk_29_method_69_code 6 = .ok (.goto 4, 3) := by decide +kernel
theorem dMN_9 : decode jdk_29_method_69_code 9 = .ok (.iload_n 1, 1) := by decide +kernel
theorem dMN_10 : decode jdk_29_method_69_code 10 = .ok (.ireturn, 1) := by decide +kernel
set_option maxRecDepth 65536 in
set_option maxHeartbeats 40000000 in
theorem own_min (l : Launch) (Z : State) (a0 : Array Value) (hw : ∀ d ∈ tables_1, d.before a0 Z = true) (EL : List (String × Nat)) (hEL : EW Z a0 EL) (h0 : Heap) (x y : Int32) :
    Con l Z EL false [] (⟨"java/lang/Math", "min", "(II)I"⟩ : MethodName) jdk_29_method_69_code 2 (some .int) ({ frames := 0, cells := 0, slots := 0, locals := 0 } : Room) #[(.int x), (.int y)] h0 (fun v h' => v = some (.int (own_mn x y)) ∧ h0 = h') := by
  refine Con.of (Ls := #[.val (.int x), .val (.int y)]) (by decide +kernel) hEL (fun m => by first | (simp [entryFrame, mkF, argsToLocals, Value.category]; done) | rfl) ?_
  intro vm0 hZ0 hE0 hC0 hS0
  refine WP.iloadN (n := 1) dMN_0 rfl rfl ?_
  refine WP.iloadN (n := 2) dMN_1 rfl rfl ?_
  refine WP.icmp_gt (n := 9) (n' := 5) dMN_2 (by decide) (by decide) rfl (fun b8 => ?_) (fun b8 => ?_)
  · refine WP.iloadN (n := 10) dMN_9 rfl rfl ?_
    exact WP.retI dMN_10 rfl (by decide) (by decide) ⟨by unfold own_mn; rw [if_pos b8], rfl⟩
  · refine WP.iloadN (n := 6) dMN_5 rfl rfl ?_
    refine WP.goto (n := 10) dMN_6 (by decide) (by decide) ?_
    exact WP.retI dMN_10 rfl (by decide) (by decide) ⟨by unfold own_mn; rw [if_neg b8], rfl⟩
theorem dCO_0 : decode jdk_42_method_152_code 0 = .ok (.getstatic 38, 3) := by decide +kernel
theorem dCO_3 : decode jdk_42_method_152_code 3 = .ok (.ifCond .eq 10, 3) := by decide +kernel
theorem dCO_6 : decode jdk_42_method_152_code 6 = .ok (.aload_n 0, 1) := by decide +kernel
theorem dCO_7 : decode jdk_42_method_152_code 7 = .ok (.getfield 15, 3) := by decide +kernel
theorem dCO_10 : decode jdk_42_method_152_code 10 = .ok (.goto 4, 3) := by decide +kernel
theorem dCO_13 : decode jdk_42_method_152_code 13 = .ok (.iconst 1, 1) := by decide +kernel
theorem dCO_14 : decode jdk_42_method_152_code 14 = .ok (.ireturn, 1) := by decide +kernel
set_option maxRecDepth 65536 in
set_option maxHeartbeats 40000000 in
theorem own_cod (l : Launch) (Z : State) (a0 : Array Value) (hw : ∀ d ∈ tables_1, d.before a0 Z = true) (EL : List (String × Nat)) (hEL : EW Z a0 EL) (h0 : Heap) (a : Addr) (F : Fld Z h0 a "java/lang/String" "coder" "B" (.int 0)) (cz : Int32) (O : Sta Z Z.heap "java/lang/String" "COMPACT_STRINGS" "Z" (.int cz)) (hO : ¬ cz = 0) :
    Con l Z EL false [] (⟨"java/lang/String", "coder", "()B"⟩ : MethodName) jdk_42_method_152_code 1 (some .byte) ({ frames := 0, cells := 0, slots := 0, locals := 0 } : Room) #[(.ref a)] h0 (fun v h' => v = some (.int 0) ∧ h0 = h') := by
  refine Con.of (Ls := #[.val (.ref a)]) (plainFor_of_name own_pn1) hEL (fun m => by first | (simp [entryFrame, mkF, argsToLocals, Value.category]; done) | rfl) ?_
  intro vm0 hZ0 hE0 hC0 hS0
  refine WP.getSZ (n := 3) dCO_0 (hw _ (List.mem_of_getElem? (i := 19) rfl)) Via.refl O rfl ?_
  refine WP.ifcN (n' := 6) dCO_3 ((if0 _ _).trans (feq hO).1) rfl ?_
  refine WP.aloadN (n := 7) dCO_6 rfl rfl rfl ?_
  refine WP.getF (n := 10) (host := "") dCO_7 (Or.inl (hw _ (List.mem_of_getElem? (i := 31) rfl))) Via.refl F rfl ?_
  refine WP.goto (n := 14) dCO_10 (by decide) (by decide) ?_
  exact WP.retN dCO_14 rfl (Or.inr (Or.inl rfl)) (by decide : nar .byte 0 = 0) (by decide) (by decide) ⟨rfl, rfl⟩
theorem dLN_0 : decode jdk_42_method_54_code 0 = .ok (.aload_n 0, 1) := by decide +kernel
theorem dLN_1 : decode jdk_42_method_54_code 1 = .ok (.getfield 9, 3) := by decide +kernel
theorem dLN_4 : decode jdk_42_method_54_code 4 = .ok (.arraylength, 1) := by decide +kernel
theorem dLN_5 : decode jdk_42_method_54_code 5 = .ok (.aload_n 0, 1) := by decide +kernel
theorem dLN_6 : decode jdk_42_method_54_code 6 = .ok (.invokevirtual 335, 3) := by decide +kernel
theorem dLN_9 : decode jdk_42_method_54_code 9 = .ok (.ishr, 1) := by decide +kernel
theorem dLN_10 : decode jdk_42_method_54_code 10 = .ok (.ireturn, 1) := by decide +kernel
set_option maxRecDepth 65536 in
set_option maxHeartbeats 40000000 in
theorem own_len (l : Launch) (Z : State) (a0 : Array Value) (hw : ∀ d ∈ tables_1, d.before a0 Z = true) (EL : List (String × Nat)) (hEL : EW Z a0 EL) (h0 : Heap) (a : Addr) (bs : List Int32) (A : Str Z h0 a bs) (cz : Int32) (O : Sta Z Z.heap "java/lang/String" "COMPACT_STRINGS" "Z" (.int cz)) (hO : ¬ cz = 0) :
    Con l Z EL false [] (⟨"java/lang/String", "length", "()I"⟩ : MethodName) jdk_42_method_54_code 1 (some .int) ({ frames := 1, cells := 0, slots := 0, locals := 13 } : Room) #[(.ref a)] h0 (fun v h' => v = some (.int (Int32.ofNat bs.length)) ∧ h0 = h') := by
  refine Con.of (Ls := #[.val (.ref a)]) (plainFor_of_name own_pn1) hEL (fun m => by first | (simp [entryFrame, mkF, argsToLocals, Value.category]; done) | rfl) ?_
  intro vm0 hZ0 hE0 hC0 hS0
  obtain ⟨f1, f2, b, kb, z, f3, f4, f5⟩ := A
  have hz0 : ¬ z < 0 := by obtain ⟨_, _, _, _, q, _⟩ := f4; exact q
  refine WP.aloadN (n := 1) dLN_0 rfl rfl rfl ?_
  refine WP.getF (n := 4) (host := "") dLN_1 (Or.inl (hw _ (List.mem_of_getElem? (i := 33) rfl))) Via.refl f3 rfl ?_
  refine WP.alen (n := 5) dLN_4 f4 rfl ?_
  refine WP.aloadN (n := 6) dLN_5 rfl rfl rfl ?_
  refine WP.callV (n := 9) (ce' := 0) (sl' := 0) (Wd := 1) (a := a) (argsL := []) (rest := [(.int z)]) (own_cod l Z a0 hw EL hEL h0 a f2 cz O hO) f1 dLN_6 (hw _ (List.mem_of_getElem? (i := 93) rfl)) (hw _ (List.mem_of_getElem? (i := 94) rfl)) (hw _ (List.mem_of_getElem? (i := 96) rfl)) (hw _ (List.mem_of_getElem? (i := 95) rfl)) (hw _ (List.mem_of_getElem? (i := 8) rfl)) (hw _ (List.mem_of_getElem? (i := 97) rfl)) (by decide) (fun _ hz => notFace_of_selects (args := #[]) (mvT hz (hw _ (List.mem_of_getElem? (i := 96) rfl)))) (fun _ q => nomatch q) (by decide) (by decide) rfl rfl (by decide) (by decide) rfl rfl (lenOf own_pd2 rfl) rfl (Nat.le_of_eq rfl) rfl (fun v9 vm9 h9 q9 r9 => ?_)
  obtain ⟨rfl, rfl⟩ := q9
  refine WP.ishr (n := 10) dLN_9  rfl ?_
  rw [own_shr0]
  exact WP.retI dLN_10 rfl (by decide) (by decide) ⟨by rw [(own_z hz0).1, f5], rfl⟩
theorem dAI_0 : decode jdk_68_method_2_code 0 = .ok (.aload_n 0, 1) := by decide +kernel
theorem dAI_1 : decode jdk_68_method_2_code 1 = .ok (.invokespecial 3, 3) := by decide +kernel
theorem dAI_4 : decode jdk_68_method_2_code 4 = .ok (.getstatic 18, 3) := by decide +kernel
theorem dAI_7 : decode jdk_68_method_2_code 7 = .ok (.ifCond .eq 18, 3) := by decide +kernel
theorem dAI_10 : decode jdk_68_method_2_code 10 = .ok (.aload_n 0, 1) := by decide +kernel
theorem dAI_11 : decode jdk_68_method_2_code 11 = .ok (.iload_n 1, 1) := by decide +kernel
theorem dAI_12 : decode jdk_68_method_2_code 12 = .ok (.newarray .byte, 2) := by decide +kernel
theorem dAI_14 : decode jdk_68_method_2_code 14 = .ok (.putfield 15, 3) := by decide +kernel
theorem dAI_17 : decode jdk_68_method_2_code 17 = .ok (.aload_n 0, 1) := by decide +kernel
theorem dAI_18 : decode jdk_68_method_2_code 18 = .ok (.iconst 0, 1) := by decide +kernel
theorem dAI_19 : decode jdk_68_method_2_code 19 = .ok (.putfield 22, 3) := by decide +kernel
theorem dAI_22 : decode jdk_68_method_2_code 22 = .ok (.goto 16, 3) := by decide +kernel
theorem dAI_25 : decode jdk_68_method_2_code 25 = .ok (.aload_n 0, 1) := by decide +kernel
theorem dAI_26 : decode jdk_68_method_2_code 26 = .ok (.iload_n 1, 1) := by decide +kernel
theorem dAI_27 : decode jdk_68_method_2_code 27 = .ok (.invokestatic 26, 3) := by decide +kernel
theorem dAI_30 : decode jdk_68_method_2_code 30 = .ok (.putfield 15, 3) := by decide +kernel
theorem dAI_33 : decode jdk_68_method_2_code 33 = .ok (.aload_n 0, 1) := by decide +kernel
theorem dAI_34 : decode jdk_68_method_2_code 34 = .ok (.iconst 1, 1) := by decide +kernel
theorem dAI_35 : decode jdk_68_method_2_code 35 = .ok (.putfield 22, 3) := by decide +kernel
theorem dAI_38 : decode jdk_68_method_2_code 38 = .ok (.return_, 1) := by decide +kernel
set_option maxRecDepth 65536 in
set_option maxHeartbeats 40000000 in
theorem own_asbi (l : Launch) (Z : State) (a0 : Array Value) (hw : ∀ d ∈ tables_1, d.before a0 Z = true) (EL : List (String × Nat)) (hEL : EW Z a0 EL) (h0 : Heap) (a : Addr) (hN : Z.heap.size ≤ a) (hA : Exa Z h0 a "java/lang/StringBuilder") (hF_value : Fld Z h0 a "java/lang/AbstractStringBuilder" "value" "[B" .null) (hF_coder : Fld Z h0 a "java/lang/AbstractStringBuilder" "coder" "B" (.int 0)) (hF_count : Fld Z h0 a "java/lang/AbstractStringBuilder" "count" "I" (.int 0)) (cz : Int32) (O : Sta Z Z.heap "java/lang/String" "COMPACT_STRINGS" "Z" (.int cz)) (hO : ¬ cz = 0) :
    Con l Z EL false [] (⟨"java/lang/AbstractStringBuilder", "<init>", "(I)V"⟩ : MethodName) jdk_68_method_2_code 2 none ({ frames := 1, cells := 1, slots := 16, locals := 12 } : Room) #[(.ref a), (.int (16 : Int32))] h0 (fun v h' => v = none ∧ Keep h0 h' [a] ∧ ∃ b, h0.size ≤ b ∧ SBf Z h' a b []) := by
  refine Con.of (Ls := #[.val (.ref a), .val (.int (16 : Int32))]) (plainFor_of_name own_pn2) hEL (fun m => by first | (simp [entryFrame, mkF, argsToLocals, Value.category]; done) | rfl) ?_
  intro vm0 hZ0 hE0 hC0 hS0
  refine WP.aloadN (n := 1) dAI_0 rfl rfl rfl ?_
  refine WP.initO (n := 4) (Wd := 0) dAI_1 (hw _ (List.mem_of_getElem? (i := 69) rfl)) (hw _ (List.mem_of_getElem? (i := 17) rfl)) (hw _ (List.mem_of_getElem? (i := 18) rfl)) rfl (by decide) (Nat.le_of_eq rfl) (by decide) rfl ?_
  refine WP.getSZ (n := 7) dAI_4 (hw _ (List.mem_of_getElem? (i := 70) rfl)) Via.refl O rfl ?_
  refine WP.ifcN (n' := 10) dAI_7 ((if0 _ _).trans (feq hO).1) rfl ?_
  refine WP.aloadN (n := 11) dAI_10 rfl rfl rfl ?_
  refine WP.iloadN (n := 12) dAI_11 rfl rfl ?_
  refine WP.newP (n := 14) (ce' := 1) (sl' := 16) (cap := 16) (ty := .byte) dAI_12 (hw _ (List.mem_of_getElem? (i := 24) rfl)) rfl (by decide) (by decide) (by decide) rfl rfl (by decide) (by decide) rfl (fun a10 h10 k10 g10 E10 V10 S10 N10 r10 => ?_)
  have V10_ : Arv Z h10 a10 k10 .byte (16 : Int32) (List.replicate 16 (.int 0)) (.int 0) := V10.pad (pad_rep [] (.int 0) 16)
  have XN : a10 ≠ a := Ne.symm (Nat.ne_of_lt (Nat.lt_of_lt_of_le hA.lt (Nat.le_of_eq g10.symm)))
  refine WP.putFE (n := 17) (host := "") (ty := (.array .byte)) dAI_14 (Or.inl (hw _ (List.mem_of_getElem? (i := 71) rfl))) Via.refl (hF_value.ext E10) (hA.ext E10) (Or.inl (hw _ (List.mem_of_getElem? (i := 72) rfl))) (hw _ (List.mem_of_getElem? (i := 58) rfl)) (by decide) rfl rfl hN (by decide) rfl (fun h11 W11 r11 => ?_)
  have A11 := (hA.ext E10).wr W11
  have K11 := ((Keep.refl h0 [a]).ext E10).wr W11 (Or.inl (List.mem_cons_self ..))
  have F11_value := (hF_value.ext E10).same W11
  have F11_coder := (hF_coder.ext E10).other W11 (Or.inr (slot_ne (t := .byte) (t' := (.array .byte)) (Or.inl (hw _ (List.mem_of_getElem? (i := 74) rfl))) (Or.inl (hw _ (List.mem_of_getElem? (i := 72) rfl))) (by decide) (by decide) (by decide)))
  have F11_count := (hF_count.ext E10).other W11 (Or.inr (slot_ne (t := .int) (t' := (.array .byte)) (Or.inl (hw _ (List.mem_of_getElem? (i := 99) rfl))) (Or.inl (hw _ (List.mem_of_getElem? (i := 72) rfl))) (by decide) (by decide) (by decide)))
  have V11 := V10_.other W11 XN
  refine WP.aloadN (n := 18) dAI_17 rfl rfl rfl ?_
  refine WP.iconst (n := 19) (z := (0 : Int32)) dAI_18 rfl rfl ?_
  refine WP.putFE (n := 22) (host := "") (ty := .byte) dAI_19 (Or.inl (hw _ (List.mem_of_getElem? (i := 73) rfl))) Via.refl F11_coder A11 (Or.inl (hw _ (List.mem_of_getElem? (i := 74) rfl))) (hw _ (List.mem_of_getElem? (i := 58) rfl)) (by decide) rfl (by decide) hN (by decide) rfl (fun h12 W12 r12 => ?_)
  have A12 := A11.wr W12
  have K12 := K11.wr W12 (Or.inl (List.mem_cons_self ..))
  have F12_coder := F11_coder.same W12
  have F12_value := F11_value.other W12 (Or.inr (slot_ne (t := (.array .byte)) (t' := .byte) (Or.inl (hw _ (List.mem_of_getElem? (i := 72) rfl))) (Or.inl (hw _ (List.mem_of_getElem? (i := 74) rfl))) (by decide) (by decide) (by decide)))
  have F12_count := F11_count.other W12 (Or.inr (slot_ne (t := .int) (t' := .byte) (Or.inl (hw _ (List.mem_of_getElem? (i := 99) rfl))) (Or.inl (hw _ (List.mem_of_getElem? (i := 74) rfl))) (by decide) (by decide) (by decide)))
  have V12 := V11.other W12 XN
  refine WP.goto (n := 38) dAI_22 (by decide) (by decide) ?_
  refine WP.retV dAI_38 rfl (by decide) (by decide) ?_
  exact ⟨rfl, K12, a10, Nat.le_of_eq g10.symm, A12, F12_value, F12_coder, F12_count, hN, N10, k10, _, V12, rfl, rfl⟩
theorem dBI_0 : decode jdk_67_method_1_code 0 = .ok (.aload_n 0, 1) := by decide +kernel
theorem dBI_1 : decode jdk_67_method_1_code 1 = .ok (.bipush 16, 2) := by decide +kernel
theorem dBI_3 : decode jdk_67_method_1_code 3 = .ok (.invokespecial 1, 3) := by decide +kernel
theorem dBI_6 : decode jdk_67_method_1_code 6 = .ok (.return_, 1) := by decide +kernel
set_option maxRecDepth 65536 in
set_option maxHeartbeats 40000000 in
theorem own_sbi (l : Launch) (Z : State) (a0 : Array Value) (hw : ∀ d ∈ tables_1, d.before a0 Z = true) (EL : List (String × Nat)) (hEL : EW Z a0 EL) (h0 : Heap) (a : Addr) (hN : Z.heap.size ≤ a) (hA : Exa Z h0 a "java/lang/StringBuilder") (hF_value : Fld Z h0 a "java/lang/AbstractStringBuilder" "value" "[B" .null) (hF_coder : Fld Z h0 a "java/lang/AbstractStringBuilder" "coder" "B" (.int 0)) (hF_count : Fld Z h0 a "java/lang/AbstractStringBuilder" "count" "I" (.int 0)) (cz : Int32) (O : Sta Z Z.heap "java/lang/String" "COMPACT_STRINGS" "Z" (.int cz)) (hO : ¬ cz = 0) :
    Con l Z EL false [] (⟨"java/lang/StringBuilder", "<init>", "()V"⟩ : MethodName) jdk_67_method_1_code 1 none ({ frames := 2, cells := 1, slots := 16, locals := 25 } : Room) #[(.ref a)] h0 (fun v h' => v = none ∧ Keep h0 h' [a] ∧ ∃ b, h0.size ≤ b ∧ SBf Z h' a b []) := by
  refine Con.of (Ls := #[.val (.ref a)]) (plainFor_of_name own_pn3) hEL (fun m => by first | (simp [entryFrame, mkF, argsToLocals, Value.category]; done) | rfl) ?_
  intro vm0 hZ0 hE0 hC0 hS0
  refine WP.aloadN (n := 1) dBI_0 rfl rfl rfl ?_
  refine WP.bipush (n := 3) (z := (16 : Int32)) dBI_1 (by decide) rfl ?_
  refine WP.callP (n := 6) (ce' := 1) (sl' := 16) (Wd := 0) (a := a) (argsL := [(.int (16 : Int32))]) (rest := []) (own_asbi l Z a0 hw EL hEL h0 a hN hA hF_value hF_coder hF_count cz O hO) dBI_3 rfl (hw _ (List.mem_of_getElem? (i := 63) rfl)) (hw _ (List.mem_of_getElem? (i := 64) rfl)) (hw _ (List.mem_of_getElem? (i := 67) rfl)) (hw _ (List.mem_of_getElem? (i := 68) rfl)) (by decide) (fun _ q => nomatch q) (by decide) (by decide) rfl rfl (by decide) (by decide) rfl rfl (lenOf own_pd3 rfl) rfl (Nat.le_of_eq rfl) rfl (fun v13 vm13 h13 q13 r13 => ?_)
  obtain ⟨rfl, K13, F13⟩ := q13
  refine WP.retV dBI_6 rfl (by decide) (by decide) ?_
  exact ⟨rfl, K13, F13⟩
theorem dEC_0 : decode jdk_68_method_9_code 0 = .ok (.aload_n 0, 1) := by decide +kernel
theorem dEC_1 : decode jdk_68_method_9_code 1 = .ok (.getfield 15, 3) := by decide +kernel
theorem dEC_4 : decode jdk_68_method_9_code 4 = .ok (.arraylength, 1) := by decide +kernel
theorem dEC_5 : decode jdk_68_method_9_code 5 = .ok (.aload_n 0, 1) := by decide +kernel
theorem dEC_6 : decode jdk_68_method_9_code 6 = .ok (.getfield 22, 3) := by decide +kernel
theorem dEC_9 : decode jdk_68_method_9_code 9 = .ok (.ishr, 1) := by decide +kernel
theorem dEC_10 : decode jdk_68_method_9_code 10 = .ok (.istore_n 2, 1) := by decide +kernel
theorem dEC_11 : decode jdk_68_method_9_code 11 = .ok (.iload_n 1, 1) := by decide +kernel
theorem dEC_12 : decode jdk_68_method_9_code 12 = .ok (.iload_n 2, 1) := by decide +kernel
theorem dEC_13 : decode jdk_68_method_9_code 13 = .ok (.isub, 1) := by decide +kernel
theorem dEC_14 : decode jdk_68_method_9_code 14 = .ok (.ifCond .le 24, 3) := by decide +kernel
theorem dEC_17 : decode jdk_68_method_9_code 17 = .ok (.aload_n 0, 1) := by decide +kernel
theorem dEC_18 : decode jdk_68_method_9_code 18 = .ok (.aload_n 0, 1) := by decide +kernel
theorem dEC_19 : decode jdk_68_method_9_code 19 = .ok (.getfield 15, 3) := by decide +kernel
theorem dEC_22 : decode jdk_68_method_9_code 22 = .ok (.aload_n 0, 1) := by decide +kernel
theorem dEC_23 : decode jdk_68_method_9_code 23 = .ok (.iload_n 1, 1) := by decide +kernel
theorem dEC_24 : decode jdk_68_method_9_code 24 = .ok (.invokevirtual 104, 3) := by decide +kernel
theorem dEC_27 : decode jdk_68_method_9_code 27 = .ok (.aload_n 0, 1) := by decide +kernel
theorem dEC_28 : decode jdk_68_method_9_code 28 = .ok (.getfield 22, 3) := by decide +kernel
theorem dEC_31 : decode jdk_68_method_9_code 31 = .ok (.ishl, 1) := by decide +kernel
theorem dEC_32 : decode jdk_68_method_9_code 32 = .ok (.invokestatic 108, 3) := by decide +kernel
theorem dEC_35 : decode jdk_68_method_9_code 35 = .ok (.putfield 15, 3) := by decide +kernel
theorem dEC_38 : decode jdk_68_method_9_code 38 = .ok (.return_, 1) := by decide +kernel
set_option maxRecDepth 65536 in
set_option maxHeartbeats 40000000 in
theorem own_eci (l : Launch) (Z : State) (a0 : Array Value) (hw : ∀ d ∈ tables_1, d.before a0 Z = true) (EL : List (String × Nat)) (hEL : EW Z a0 EL) (h0 : Heap) (a b : Addr) (bs : List Int32) (F : SBf Z h0 a b bs) (k : Int32) (hk : ¬ (0 : Int32) < k - 16) :
    Con l Z EL false [] (⟨"java/lang/AbstractStringBuilder", "ensureCapacityInternal", "(I)V"⟩ : MethodName) jdk_68_method_9_code 3 none ({ frames := 0, cells := 0, slots := 0, locals := 0 } : Room) #[(.ref a), (.int k)] h0 (fun v h' => v = none ∧ h0 = h') := by
  refine Con.of (Ls := #[.val (.ref a), .val (.int k), .unset]) (plainFor_of_name own_pn2) hEL (fun m => by first | (simp [entryFrame, mkF, argsToLocals, Value.category]; done) | rfl) ?_
  intro vm0 hZ0 hE0 hC0 hS0
  obtain ⟨f1, f2, f3, f4, f5, f6, kb, vs, f7, f8, f9⟩ := F
  refine WP.aloadN (n := 1) dEC_0 rfl rfl rfl ?_
  refine WP.getF (n := 4) (host := "") dEC_1 (Or.inl (hw _ (List.mem_of_getElem? (i := 71) rfl))) Via.refl f2 rfl ?_
  refine WP.alen (n := 5) dEC_4 f7 rfl ?_
  refine WP.aloadN (n := 6) dEC_5 rfl rfl rfl ?_
  refine WP.getF (n := 9) (host := "") dEC_6 (Or.inl (hw _ (List.mem_of_getElem? (i := 73) rfl))) Via.refl f3 rfl ?_
  refine WP.ishr (n := 10) dEC_9  rfl ?_
  rw [own_shr0]
  refine WP.istoreN (n := 11) (Ls' := #[.val (.ref a), .val (.int k), .val (.int (16 : Int32))]) dEC_10 rfl rfl ?_
  refine WP.iloadN (n := 12) dEC_11 rfl rfl ?_
  refine WP.iloadN (n := 13) dEC_12 rfl rfl ?_
  refine WP.isub (n := 14) dEC_13  rfl ?_
  refine WP.ifcY (n := 38) dEC_14 ((if0 _ _).trans (flt hk).2.2.2) (by decide) (by decide) ?_
  refine WP.retV dEC_38 rfl (by decide) (by decide) ?_
  exact ⟨rfl, rfl⟩
theorem dIN_0 : decode jdk_68_method_71_code 0 = .ok (.getstatic 18, 3) := by decide +kernel
theorem dIN_3 : decode jdk_68_method_71_code 3 = .ok (.ifCond .eq 18, 3) := by decide +kernel
theorem dIN_6 : decode jdk_68_method_71_code 6 = .ok (.aload_n 0, 1) := by decide +kernel
theorem dIN_7 : decode jdk_68_method_71_code 7 = .ok (.getfield 22, 3) := by decide +kernel
theorem dIN_10 : decode jdk_68_method_71_code 10 = .ok (.aload_n 1, 1) := by decide +kernel
theorem dIN_11 : decode jdk_68_method_71_code 11 = .ok (.invokevirtual 40, 3) := by decide +kernel
theorem dIN_14 : decode jdk_68_method_71_code 14 = .ok (.if_icmp .eq 7, 3) := by decide +kernel
theorem dIN_17 : decode jdk_68_method_71_code 17 = .ok (.aload_n 0, 1) := by decide +kernel
theorem dIN_18 : decode jdk_68_method_71_code 18 = .ok (.invokevirtual 195, 3) := by decide +kernel
theorem dIN_21 : decode jdk_68_method_71_code 21 = .ok (.return_, 1) := by decide +kernel
set_option maxRecDepth 65536 in
set_option maxHeartbeats 40000000 in
theorem own_inf (l : Launch) (Z : State) (a0 : Array Value) (hw : ∀ d ∈ tables_1, d.before a0 Z = true) (EL : List (String × Nat)) (hEL : EW Z a0 EL) (h0 : Heap) (a b : Addr) (bs : List Int32) (F : SBf Z h0 a b bs) (s : Addr) (ds : List Int32) (G : Str Z h0 s ds) (cz : Int32) (O : Sta Z Z.heap "java/lang/String" "COMPACT_STRINGS" "Z" (.int cz)) (hO : ¬ cz = 0) :
    Con l Z EL false [] (⟨"java/lang/AbstractStringBuilder", "inflateIfNeededFor", "(Ljava/lang/String;)V"⟩ : MethodName) jdk_68_method_71_code 2 none ({ frames := 1, cells := 0, slots := 0, locals := 13 } : Room) #[(.ref a), (.ref s)] h0 (fun v h' => v = none ∧ h0 = h') := by
  refine Con.of (Ls := #[.val (.ref a), .val (.ref s)]) (plainFor_of_name own_pn2) hEL (fun m => by first | (simp [entryFrame, mkF, argsToLocals, Value.category]; done) | rfl) ?_
  intro vm0 hZ0 hE0 hC0 hS0
  obtain ⟨f1, f2, f3, f4, f5, f6, kb, vs, f7, f8, f9⟩ := F
  obtain ⟨g1, g2, gr⟩ := G
  refine WP.getSZ (n := 3) dIN_0 (hw _ (List.mem_of_getElem? (i := 70) rfl)) Via.refl O rfl ?_
  refine WP.ifcN (n' := 6) dIN_3 ((if0 _ _).trans (feq hO).1) rfl ?_
  refine WP.aloadN (n := 7) dIN_6 rfl rfl rfl ?_
  refine WP.getF (n := 10) (host := "") dIN_7 (Or.inl (hw _ (List.mem_of_getElem? (i := 73) rfl))) Via.refl f3 rfl ?_
  refine WP.aloadN (n := 11) dIN_10 rfl rfl rfl ?_
  refine WP.callV (n := 14) (ce' := 0) (sl' := 0) (Wd := 1) (a := s) (argsL := []) (rest := [(.int (0 : Int32))]) (own_cod l Z a0 hw EL hEL h0 s g2 cz O hO) g1 dIN_11 (hw _ (List.mem_of_getElem? (i := 115) rfl)) (hw _ (List.mem_of_getElem? (i := 94) rfl)) (hw _ (List.mem_of_getElem? (i := 96) rfl)) (hw _ (List.mem_of_getElem? (i := 95) rfl)) (hw _ (List.mem_of_getElem? (i := 8) rfl)) (hw _ (List.mem_of_getElem? (i := 97) rfl)) (by decide) (fun _ hz => notFace_of_selects (args := #[]) (mvT hz (hw _ (List.mem_of_getElem? (i := 96) rfl)))) (fun _ q => nomatch q) (by decide) (by decide) rfl rfl (by decide) (by decide) rfl rfl (lenOf own_pd2 rfl) rfl (Nat.le_of_eq rfl) rfl (fun v14 vm14 h14 q14 r14 => ?_)
  obtain ⟨rfl, rfl⟩ := q14
  refine WP.icmpY (n := 21) dIN_14 (by decide) (by decide) (by decide) ?_
  refine WP.retV dIN_21 rfl (by decide) (by decide) ?_
  exact ⟨rfl, rfl⟩
theorem dGB_0 : decode jdk_42_method_147_code 0 = .ok (.aload_n 0, 1) := by decide +kernel
theorem dGB_1 : decode jdk_42_method_147_code 1 = .ok (.invokevirtual 335, 3) := by decide +kernel
theorem dGB_4 : decode jdk_42_method_147_code 4 = .ok (.iload_n 3, 1) := by decide +kernel
theorem dGB_5 : decode jdk_42_method_147_code 5 = .ok (.if_icmp .ne 23, 3) := by decide +kernel
theorem dGB_8 : decode jdk_42_method_147_code 8 = .ok (.aload_n 0, 1) := by decide +kernel
theorem dGB_9 : decode jdk_42_method_147_code 9 = .ok (.getfield 9, 3) := by decide +kernel
theorem dGB_12 : decode jdk_42_method_147_code 12 = .ok (.iconst 0, 1) := by decide +kernel
theorem dGB_13 : decode jdk_42_method_147_code 13 = .ok (.aload_n 1, 1) := by decide +kernel
theorem dGB_14 : decode jdk_42_method_147_code 14 = .ok (.iload_n 2, 1) := by decide +kernel
theorem dGB_15 : decode jdk_42_method_147_code 15 = .ok (.iload_n 3, 1) := by decide +kernel
theorem dGB_16 : decode jdk_42_method_147_code 16 = .ok (.ishl, 1) := by decide +kernel
theorem dGB_17 : decode jdk_42_method_147_code 17 = .ok (.aload_n 0, 1) := by decide +kernel
theorem dGB_18 : decode jdk_42_method_147_code 18 = .ok (.getfield 9, 3) := by decide +kernel
theorem dGB_21 : decode jdk_42_method_147_code 21 = .ok (.arraylength, 1) := by decide +kernel
theorem dGB_22 : decode jdk_42_method_147_code 22 = .ok (.invokestatic 212, 3) := by decide +kernel
theorem dGB_25 : decode jdk_42_method_147_code 25 = .ok (.goto 18, 3) := by decide +kernel
theorem dGB_28 : decode jdk_42_method_147_code 28 = .ok (.aload_n 0, 1) := by decide +kernel
theorem dGB_29 : decode jdk_42_method_147_code 29 = .ok (.getfield 9, 3) := by decide +kernel
theorem dGB_32 : decode jdk_42_method_147_code 32 = .ok (.iconst 0, 1) := by decide +kernel
theorem dGB_33 : decode jdk_42_method_147_code 33 = .ok (.aload_n 1, 1) := by decide +kernel
theorem dGB_34 : decode jdk_42_method_147_code 34 = .ok (.iload_n 2, 1) := by decide +kernel
theorem dGB_35 : decode jdk_42_method_147_code 35 = .ok (.aload_n 0, 1) := by decide +kernel
theorem dGB_36 : decode jdk_42_method_147_code 36 = .ok (.getfield 9, 3) := by decide +kernel
theorem dGB_39 : decode jdk_42_method_147_code 39 = .ok (.arraylength, 1) := by decide +kernel
theorem dGB_40 : decode jdk_42_method_147_code 40 = .ok (.invokestatic 106, 3) := by decide +kernel
theorem dGB_43 : decode jdk_42_method_147_code 43 = .ok (.return_, 1) := by decide +kernel
set_option maxRecDepth 65536 in
set_option maxHeartbeats 40000000 in
theorem own_gb (l : Launch) (Z : State) (a0 : Array Value) (hw : ∀ d ∈ tables_1, d.before a0 Z = true) (EL : List (String × Nat)) (hEL : EW Z a0 EL) (h0 : Heap) (s b : Addr) (ds : List Int32) (G : Str Z h0 s ds) (kb : ClassId) (vs : List Value) (n : Nat) (B : Arv Z h0 b kb .byte 16 vs (.int 0)) (hv : vs.length = 16) (hn : n + ds.length ≤ 16) (hN : Z.heap.size ≤ b) (hL : EWn Z a0 EL 16) (cz : Int32) (O : Sta Z Z.heap "java/lang/String" "COMPACT_STRINGS" "Z" (.int cz)) (hO : ¬ cz = 0) :
    Con l Z EL false [] (⟨"java/lang/String", "getBytes", "([BIB)V"⟩ : MethodName) jdk_42_method_147_code 4 none ({ frames := 1, cells := 0, slots := 0, locals := 40 } : Room) #[(.ref s), (.ref b), (.int (Int32.ofNat n)), (.int (0 : Int32))] h0 (fun v h' => v = none ∧ Keep h0 h' [b] ∧ Arv Z h' b kb .byte 16 (vs.take n ++ ds.map Value.int ++ vs.drop (n + ds.length)) (.int 0)) := by
  refine Con.of (Ls := #[.val (.ref s), .val (.ref b), .val (.int (Int32.ofNat n)), .val (.int (0 : Int32))]) (plainFor_of_name own_pn1) hEL (fun m => by first | (simp [entryFrame, mkF, argsToLocals, Value.category]; done) | rfl) ?_
  intro vm0 hZ0 hE0 hC0 hS0
  obtain ⟨g1, g2, t, kt, z, g3, g4, g5⟩ := G
  have hz0 : ¬ z < 0 := by obtain ⟨_, _, _, _, q, _⟩ := g4; exact q
  refine WP.aloadN (n := 1) dGB_0 rfl rfl rfl ?_
  refine WP.callV (n := 4) (ce' := 0) (sl' := 0) (Wd := 0) (a := s) (argsL := []) (rest := []) (own_cod l Z a0 hw EL hEL h0 s g2 cz O hO) g1 dGB_1 (hw _ (List.mem_of_getElem? (i := 93) rfl)) (hw _ (List.mem_of_getElem? (i := 94) rfl)) (hw _ (List.mem_of_getElem? (i := 96) rfl)) (hw _ (List.mem_of_getElem? (i := 95) rfl)) (hw _ (List.mem_of_getElem? (i := 8) rfl)) (hw _ (List.mem_of_getElem? (i := 97) rfl)) (by decide) (fun _ hz => notFace_of_selects (args := #[]) (mvT hz (hw _ (List.mem_of_getElem? (i := 96) rfl)))) (fun _ q => nomatch q) (by decide) (by decide) rfl rfl (by decide) (by decide) rfl rfl (lenOf own_pd2 rfl) rfl (Nat.le_of_eq rfl) rfl (fun v15 vm15 h15 q15 r15 => ?_)
  obtain ⟨rfl, rfl⟩ := q15
  refine WP.iloadN (n := 5) dGB_4 rfl rfl ?_
  refine WP.icmpN (n' := 8) dGB_5 (by decide) rfl ?_
  refine WP.aloadN (n := 9) dGB_8 rfl rfl rfl ?_
  refine WP.getF (n := 12) (host := "") dGB_9 (Or.inl (hw _ (List.mem_of_getElem? (i := 33) rfl))) Via.refl g3 rfl ?_
  refine WP.iconst (n := 13) (z := (0 : Int32)) dGB_12 rfl rfl ?_
  refine WP.aloadN (n := 14) dGB_13 rfl rfl rfl ?_
  refine WP.iloadN (n := 15) dGB_14 rfl rfl ?_
  refine WP.iloadN (n := 16) dGB_15 rfl rfl ?_
  refine WP.ishl (n := 17) dGB_16  rfl ?_
  rw [own_shl0]
  refine WP.aloadN (n := 18) dGB_17 rfl rfl rfl ?_
  refine WP.getF (n := 21) (host := "") dGB_18 (Or.inl (hw _ (List.mem_of_getElem? (i := 33) rfl))) Via.refl g3 rfl ?_
  refine WP.alen (n := 22) dGB_21 g4 rfl ?_
  refine WP.inv fun hZc hEc hCc => ?_
  refine WP.copyB (n := 25) (Wd := 0) (vr := vs.take n ++ ds.map Value.int ++ vs.drop (n + ds.length)) dGB_22 (hw _ (List.mem_of_getElem? (i := 121) rfl)) (hw _ (List.mem_of_getElem? (i := 124) rfl)) (hw _ (List.mem_of_getElem? (i := 122) rfl)) (hw _ (List.mem_of_getElem? (i := 123) rfl)) g4 B (by decide) (own_nn (by omega)) hz0 (by rw [g5]; show 0 + _ ≤ _; omega) (by rw [own_clamp (by omega), g5]; show _ ≤ 16; omega) (us := ds.map Value.int) (by rw [g5, show ds.length = (ds.map Value.int).length by simp, own_rangeMap]) (by rw [own_clamp (by omega), g5]; omega) (by rw [own_clamp (by omega), g5]) hN (own_safeLen hZc hL B) rfl (by decide) (Nat.le_of_eq rfl) (by decide) rfl (fun h7 K7 V7 r7 => ?_)
  refine WP.goto (n := 43) dGB_25 (by decide) (by decide) ?_
  refine WP.retV dGB_43 rfl (by decide) (by decide) ?_
  exact ⟨rfl, K7, V7⟩
theorem dPS_0 : decode jdk_68_method_73_code 0 = .ok (.aload_n 0, 1) := by decide +kernel
theorem dPS_1 : decode jdk_68_method_73_code 1 = .ok (.aload_n 2, 1) := by decide +kernel
theorem dPS_2 : decode jdk_68_method_73_code 2 = .ok (.invokevirtual 397, 3) := by decide +kernel
theorem dPS_5 : decode jdk_68_method_73_code 5 = .ok (.aload_n 2, 1) := by decide +kernel
theorem dPS_6 : decode jdk_68_method_73_code 6 = .ok (.aload_n 0, 1) := by decide +kernel
theorem dPS_7 : decode jdk_68_method_73_code 7 = .ok (.getfield 15, 3) := by decide +kernel
theorem dPS_10 : decode jdk_68_method_73_code 10 = .ok (.iload_n 1, 1) := by decide +kernel
theorem dPS_11 : decode jdk_68_method_73_code 11 = .ok (.aload_n 0, 1) := by decide +kernel
theorem dPS_12 : decode jdk_68_method_73_code 12 = .ok (.getfield 22, 3) := by decide +kernel
theorem dPS_15 : decode jdk_68_method_73_code 15 = .ok (.invokevirtual 399, 3) := by decide +kernel
theorem dPS_18 : decode jdk_68_method_73_code 18 = .ok (.return_, 1) := by decide +kernel
set_option maxRecDepth 65536 in
set_option maxHeartbeats 40000000 in
theorem own_psa (l : Launch) (Z : State) (a0 : Array Value) (hw : ∀ d ∈ tables_1, d.before a0 Z = true) (EL : List (String × Nat)) (hEL : EW Z a0 EL) (h0 : Heap) (a b : Addr) (bs : List Int32) (F : SBf Z h0 a b bs) (s : Addr) (ds : List Int32) (G : Str Z h0 s ds) (hn : bs.length + ds.length ≤ 16) (hL : EWn Z a0 EL 16) (cz : Int32) (O : Sta Z Z.heap "java/lang/String" "COMPACT_STRINGS" "Z" (.int cz)) (hO : ¬ cz = 0) :
    Con l Z EL false [] (⟨"java/lang/AbstractStringBuilder", "putStringAt", "(ILjava/lang/String;)V"⟩ : MethodName) jdk_68_method_73_code 3 none ({ frames := 2, cells := 0, slots := 0, locals := 60 } : Room) #[(.ref a), (.int (Int32.ofNat bs.length)), (.ref s)] h0 (fun v h' => v = none ∧ ∃ (kb : ClassId) (vs : List Value), vs.length = 16 ∧ vs.take bs.length = bs.map Value.int ∧ Keep h0 h' [b] ∧ Arv Z h' b kb .byte 16 (vs.take bs.length ++ ds.map Value.int ++ vs.drop (bs.length + ds.length)) (.int 0)) := by
  refine Con.of (Ls := #[.val (.ref a), .val (.int (Int32.ofNat bs.length)), .val (.ref s)]) (plainFor_of_name own_pn2) hEL (fun m => by first | (simp [entryFrame, mkF, argsToLocals, Value.category]; done) | rfl) ?_
  intro vm0 hZ0 hE0 hC0 hS0
  obtain ⟨f1, f2, f3, f4, f5, f6, kb, vs, f7, f8, f9⟩ := id F
  refine WP.aloadN (n := 1) dPS_0 rfl rfl rfl ?_
  refine WP.aloadN (n := 2) dPS_1 rfl rfl rfl ?_
  refine WP.callPr (n := 5) (ce' := 0) (sl' := 0) (Wd := 0) (a := a) (argsL := [(.ref s)]) (rest := []) (own_inf l Z a0 hw EL hEL h0 a b bs F s ds G cz O hO) f1 dPS_2 (hw _ (List.mem_of_getElem? (i := 110) rfl)) (hw _ (List.mem_of_getElem? (i := 111) rfl)) (hw _ (List.mem_of_getElem? (i := 113) rfl)) (hw _ (List.mem_of_getElem? (i := 112) rfl)) (hw _ (List.mem_of_getElem? (i := 67) rfl)) (hw _ (List.mem_of_getElem? (i := 114) rfl)) (by decide) (fun _ q => nomatch q) (by decide) (by decide) rfl rfl (by decide) (by decide) rfl rfl (lenOf own_pd4 rfl) rfl (Nat.le_of_eq rfl) rfl (fun v16 vm16 h16 q16 r16 => ?_)
  obtain ⟨rfl, rfl⟩ := q16
  refine WP.aloadN (n := 6) dPS_5 rfl rfl rfl ?_
  refine WP.aloadN (n := 7) dPS_6 rfl rfl rfl ?_
  refine WP.getF (n := 10) (host := "") dPS_7 (Or.inl (hw _ (List.mem_of_getElem? (i := 71) rfl))) Via.refl f2 rfl ?_
  refine WP.iloadN (n := 11) dPS_10 rfl rfl ?_
  refine WP.aloadN (n := 12) dPS_11 rfl rfl rfl ?_
  refine WP.getF (n := 15) (host := "") dPS_12 (Or.inl (hw _ (List.mem_of_getElem? (i := 73) rfl))) Via.refl f3 rfl ?_
  refine WP.callV (n := 18) (ce' := 0) (sl' := 0) (Wd := 0) (a := s) (argsL := [(.ref b), (.int (Int32.ofNat bs.length)), (.int (0 : Int32))]) (rest := []) (own_gb l Z a0 hw EL hEL h0 s b ds G kb vs bs.length f7 f8 hn f6 hL cz O hO) G.1 dPS_15 (hw _ (List.mem_of_getElem? (i := 116) rfl)) (hw _ (List.mem_of_getElem? (i := 117) rfl)) (hw _ (List.mem_of_getElem? (i := 119) rfl)) (hw _ (List.mem_of_getElem? (i := 118) rfl)) (hw _ (List.mem_of_getElem? (i := 8) rfl)) (hw _ (List.mem_of_getElem? (i := 120) rfl)) (by decide) (fun _ hz => notFace_of_selects (args := #[]) (mvT hz (hw _ (List.mem_of_getElem? (i := 119) rfl)))) (fun _ q => nomatch q) (by decide) (by decide) rfl rfl (by decide) (by decide) rfl rfl (lenOf own_pd5 rfl) rfl (Nat.le_of_eq rfl) rfl (fun v17 vm17 h17 q17 r17 => ?_)
  obtain ⟨rfl, K17, V17⟩ := q17
  refine WP.retV dPS_18 rfl (by decide) (by decide) ?_
  exact ⟨rfl, kb, vs, f8, f9, K17, V17⟩
theorem dAA_0 : decode jdk_68_method_22_code 0 = .ok (.aload_n 1, 1) := by decide +kernel
theorem dAA_1 : decode jdk_68_method_22_code 1 = .ok (.ifnonnull 8, 3) := by decide +kernel
theorem dAA_4 : decode jdk_68_method_22_code 4 = .ok (.aload_n 0, 1) := by decide +kernel
theorem dAA_5 : decode jdk_68_method_22_code 5 = .ok (.invokevirtual 204, 3) := by decide +kernel
theorem dAA_8 : decode jdk_68_method_22_code 8 = .ok (.areturn, 1) := by decide +kernel
theorem dAA_9 : decode jdk_68_method_22_code 9 = .ok (.aload_n 1, 1) := by decide +kernel
theorem dAA_10 : decode jdk_68_method_22_code 10 = .ok (.invokevirtual 32, 3) := by decide +kernel
theorem dAA_13 : decode jdk_68_method_22_code 13 = .ok (.istore_n 2, 1) := by decide +kernel
theorem dAA_14 : decode jdk_68_method_22_code 14 = .ok (.aload_n 0, 1) := by decide +kernel
theorem dAA_15 : decode jdk_68_method_22_code 15 = .ok (.aload_n 0, 1) := by decide +kernel
theorem dAA_16 : decode jdk_68_method_22_code 16 = .ok (.getfield 79, 3) := by decide +kernel
theorem dAA_19 : decode jdk_68_method_22_code 19 = .ok (.iload_n 2, 1) := by decide +kernel
theorem dAA_20 : decode jdk_68_method_22_code 20 = .ok (.iadd, 1) := by decide +kernel
theorem dAA_21 : decode jdk_68_method_22_code 21 = .ok (.invokevirtual 100, 3) := by decide +kernel
theorem dAA_24 : decode jdk_68_method_22_code 24 = .ok (.aload_n 0, 1) := by decide +kernel
theorem dAA_25 : decode jdk_68_method_22_code 25 = .ok (.aload_n 0, 1) := by decide +kernel
theorem dAA_26 : decode jdk_68_method_22_code 26 = .ok (.getfield 79, 3) := by decide +kernel
theorem dAA_29 : decode jdk_68_method_22_code 29 = .ok (.aload_n 1, 1) := by decide +kernel
theorem dAA_30 : decode jdk_68_method_22_code 30 = .ok (.invokevirtual 208, 3) := by decide +kernel
theorem dAA_33 : decode jdk_68_method_22_code 33 = .ok (.aload_n 0, 1) := by decide +kernel
theorem dAA_34 : decode jdk_68_method_22_code 34 = .ok (.dup, 1) := by decide +kernel
theorem dAA_35 : decode jdk_68_method_22_code 35 = .ok (.getfield 79, 3) := by decide +kernel
theorem dAA_38 : decode jdk_68_method_22_code 38 = .ok (.iload_n 2, 1) := by decide +kernel
theorem dAA_39 : decode jdk_68_method_22_code 39 = .ok (.iadd, 1) := by decide +kernel
theorem dAA_40 : decode jdk_68_method_22_code 40 = .ok (.putfield 79, 3) := by decide +kernel
theorem dAA_43 : decode jdk_68_method_22_code 43 = .ok (.aload_n 0, 1) := by decide +kernel
theorem dAA_44 : decode jdk_68_method_22_code 44 = .ok (.areturn, 1) := by decide +kernel
set_option maxRecDepth 65536 in
set_option maxHeartbeats 40000000 in
theorem own_aapp (l : Launch) (Z : State) (a0 : Array Value) (hw : ∀ d ∈ tables_1, d.before a0 Z = true) (EL : List (String × Nat)) (hEL : EW Z a0 EL) (h0 : Heap) (a b : Addr) (bs : List Int32) (F : SBf Z h0 a b bs) (s : Addr) (ds : List Int32) (G : Str Z h0 s ds) (hn : bs.length + ds.length ≤ 16) (hL : EWn Z a0 EL 16) (cz : Int32) (O : Sta Z Z.heap "java/lang/String" "COMPACT_STRINGS" "Z" (.int cz)) (hO : ¬ cz = 0) :
    Con l Z EL false [] (⟨"java/lang/AbstractStringBuilder", "append", "(Ljava/lang/String;)Ljava/lang/AbstractStringBuilder;"⟩ : MethodName) jdk_68_method_22_code 3 (some (.object "java/lang/AbstractStringBuilder")) ({ frames := 3, cells := 0, slots := 0, locals := 80 } : Room) #[(.ref a), (.ref s)] h0 (fun v h' => v = some (.ref a) ∧ Keep h0 h' [b, a] ∧ SBf Z h' a b (bs ++ ds)) := by
  refine Con.of (Ls := #[.val (.ref a), .val (.ref s), .unset]) (plainFor_of_name own_pn2) hEL (fun m => by first | (simp [entryFrame, mkF, argsToLocals, Value.category]; done) | rfl) ?_
  intro vm0 hZ0 hE0 hC0 hS0
  obtain ⟨f1, f2, f3, f4, f5, f6, kb0, vs0, f7, f8, f9⟩ := id F
  have nab : b ≠ a := fun e => Exa.neArv f1 f7 (hw _ (List.mem_of_getElem? (i := 58) rfl)) e.symm
  have m1 : a ∉ [b] := fun q => nab (List.mem_singleton.mp q).symm
  refine WP.aloadN (n := 1) dAA_0 rfl rfl rfl ?_
  refine WP.ifnonnullY (n := 9) dAA_1 (by decide) (by decide) ?_
  refine WP.aloadN (n := 10) dAA_9 rfl rfl rfl ?_
  refine WP.callV (n := 13) (ce' := 0) (sl' := 0) (Wd := 0) (a := s) (argsL := []) (rest := []) (own_len l Z a0 hw EL hEL h0 s ds G cz O hO) G.1 dAA_10 (hw _ (List.mem_of_getElem? (i := 88) rfl)) (hw _ (List.mem_of_getElem? (i := 89) rfl)) (hw _ (List.mem_of_getElem? (i := 91) rfl)) (hw _ (List.mem_of_getElem? (i := 90) rfl)) (hw _ (List.mem_of_getElem? (i := 8) rfl)) (hw _ (List.mem_of_getElem? (i := 92) rfl)) (by decide) (fun _ hz => notFace_of_selects (args := #[]) (mvT hz (hw _ (List.mem_of_getElem? (i := 91) rfl)))) (fun _ q => nomatch q) (by decide) (by decide) rfl rfl (by decide) (by decide) rfl rfl (lenOf own_pd6 rfl) rfl (Nat.le_of_eq rfl) rfl (fun v18 vm18 h18 q18 r18 => ?_)
  obtain ⟨rfl, rfl⟩ := q18
  refine WP.istoreN (n := 14) (Ls' := #[.val (.ref a), .val (.ref s), .val (.int (Int32.ofNat ds.length))]) dAA_13 rfl rfl ?_
  refine WP.aloadN (n := 15) dAA_14 rfl rfl rfl ?_
  refine WP.aloadN (n := 16) dAA_15 rfl rfl rfl ?_
  refine WP.getF (n := 19) (host := "") dAA_16 (Or.inl (hw _ (List.mem_of_getElem? (i := 98) rfl))) Via.refl f4 rfl ?_
  refine WP.iloadN (n := 20) dAA_19 rfl rfl ?_
  refine WP.iadd (n := 21) dAA_20  rfl ?_
  rw [own_addN (by omega)]
  refine WP.callPr (n := 24) (ce' := 0) (sl' := 0) (Wd := 0) (a := a) (argsL := [(.int (Int32.ofNat (bs.length + ds.length)))]) (rest := []) (own_eci l Z a0 hw EL hEL h0 a b bs F (Int32.ofNat (bs.length + ds.length)) (own_le16 hn)) f1 dAA_21 (hw _ (List.mem_of_getElem? (i := 100) rfl)) (hw _ (List.mem_of_getElem? (i := 101) rfl)) (hw _ (List.mem_of_getElem? (i := 103) rfl)) (hw _ (List.mem_of_getElem? (i := 102) rfl)) (hw _ (List.mem_of_getElem? (i := 67) rfl)) (hw _ (List.mem_of_getElem? (i := 104) rfl)) (by decide) (fun _ q => nomatch q) (by decide) (by decide) rfl rfl (by decide) (by decide) rfl rfl (lenOf own_pd3 rfl) rfl (Nat.le_of_eq rfl) rfl (fun v19 vm19 h19 q19 r19 => ?_)
  obtain ⟨rfl, rfl⟩ := q19
  refine WP.aloadN (n := 25) dAA_24 rfl rfl rfl ?_
  refine WP.aloadN (n := 26) dAA_25 rfl rfl rfl ?_
  refine WP.getF (n := 29) (host := "") dAA_26 (Or.inl (hw _ (List.mem_of_getElem? (i := 98) rfl))) Via.refl f4 rfl ?_
  refine WP.aloadN (n := 30) dAA_29 rfl rfl rfl ?_
  refine WP.callPr (n := 33) (ce' := 0) (sl' := 0) (Wd := 0) (a := a) (argsL := [(.int (Int32.ofNat bs.length)), (.ref s)]) (rest := []) (own_psa l Z a0 hw EL hEL h0 a b bs F s ds G hn hL cz O hO) f1 dAA_30 (hw _ (List.mem_of_getElem? (i := 105) rfl)) (hw _ (List.mem_of_getElem? (i := 106) rfl)) (hw _ (List.mem_of_getElem? (i := 108) rfl)) (hw _ (List.mem_of_getElem? (i := 107) rfl)) (hw _ (List.mem_of_getElem? (i := 67) rfl)) (hw _ (List.mem_of_getElem? (i := 109) rfl)) (by decide) (fun _ q => nomatch q) (by decide) (by decide) rfl rfl (by decide) (by decide) rfl rfl (lenOf own_pd7 rfl) rfl (Nat.le_of_eq rfl) rfl (fun v20 vm20 h20 q20 r20 => ?_)
  obtain ⟨rfl, kb, vs, e1, e2, K20, V20⟩ := q20
  refine WP.aloadN (n := 34) dAA_33 rfl rfl rfl ?_
  refine WP.dup (n := 35) dAA_34 rfl rfl ?_
  refine WP.getF (n := 38) (host := "") dAA_35 (Or.inl (hw _ (List.mem_of_getElem? (i := 98) rfl))) Via.refl (f4.keep K20 m1) rfl ?_
  refine WP.iloadN (n := 39) dAA_38 rfl rfl ?_
  refine WP.iadd (n := 40) dAA_39  rfl ?_
  rw [own_addN (by omega)]
  refine WP.putFE (n := 43) (host := "") (ty := .int) dAA_40 (Or.inl (hw _ (List.mem_of_getElem? (i := 98) rfl))) Via.refl (f4.keep K20 m1) (f1.keep K20) (Or.inl (hw _ (List.mem_of_getElem? (i := 99) rfl))) (hw _ (List.mem_of_getElem? (i := 58) rfl)) (by decide) rfl rfl f5 (by decide) rfl (fun h21 W21 r21 => ?_)
  have A21 := (f1.keep K20).wr W21
  have F21_count := (f4.keep K20 m1).same W21
  have F21_value := (f2.keep K20 m1).other W21 (Or.inr (slot_ne (t := (.array .byte)) (t' := .int) (Or.inl (hw _ (List.mem_of_getElem? (i := 72) rfl))) (Or.inl (hw _ (List.mem_of_getElem? (i := 99) rfl))) (by decide) (by decide) (by decide)))
  have F21_coder := (f3.keep K20 m1).other W21 (Or.inr (slot_ne (t := .byte) (t' := .int) (Or.inl (hw _ (List.mem_of_getElem? (i := 74) rfl))) (Or.inl (hw _ (List.mem_of_getElem? (i := 99) rfl))) (by decide) (by decide) (by decide)))
  refine WP.aloadN (n := 44) dAA_43 rfl rfl rfl ?_
  refine WP.retA dAA_44 rfl rfl rfl rfl (by decide) (by decide) ⟨rfl, ?_, ?_⟩
  · exact (Keep.trans (ws' := [b]) (Keep.refl h0 [b, a]) K20 (fun x hx => Or.inl (by cases List.mem_singleton.mp hx; exact List.mem_cons_self ..))).wr W21 (Or.inl (List.mem_cons_of_mem _ (List.mem_cons_self ..)))
  · have el : (ds.map Value.int).length = ds.length := by simp
    have s1 := own_splice_len (vs := vs) (us := ds.map Value.int) (n := bs.length) (by rw [el, e1]; exact hn)
    have s2 := own_splice (vs := vs) (us := ds.map Value.int) (n := bs.length) (by omega)
    rw [el] at s1 s2
    refine ⟨A21, F21_value, F21_coder, ?_, f5, f6, kb, _, V20.other W21 nab, s1.trans e1, ?_⟩
    · rw [List.length_append]; exact F21_count
    · rw [List.length_append, s2, e2, List.map_append]
theorem dSA_0 : decode jdk_67_method_7_code 0 = .ok (.aload_n 0, 1) := by decide +kernel
theorem dSA_1 : decode jdk_67_method_7_code 1 = .ok (.aload_n 1, 1) := by decide +kernel
theorem dSA_2 : decode jdk_67_method_7_code 2 = .ok (.invokespecial 29, 3) := by decide +kernel
theorem dSA_5 : decode jdk_67_method_7_code 5 = .ok (.pop, 1) := by decide +kernel
theorem dSA_6 : decode jdk_67_method_7_code 6 = .ok (.aload_n 0, 1) := by decide +kernel
theorem dSA_7 : decode jdk_67_method_7_code 7 = .ok (.areturn, 1) := by decide +kernel
set_option maxRecDepth 65536 in
set_option maxHeartbeats 40000000 in
theorem own_sapp (l : Launch) (Z : State) (a0 : Array Value) (hw : ∀ d ∈ tables_1, d.before a0 Z = true) (EL : List (String × Nat)) (hEL : EW Z a0 EL) (h0 : Heap) (a b : Addr) (bs : List Int32) (F : SBf Z h0 a b bs) (s : Addr) (ds : List Int32) (G : Str Z h0 s ds) (hn : bs.length + ds.length ≤ 16) (hL : EWn Z a0 EL 16) (cz : Int32) (O : Sta Z Z.heap "java/lang/String" "COMPACT_STRINGS" "Z" (.int cz)) (hO : ¬ cz = 0) :
    Con l Z EL false [] (⟨"java/lang/StringBuilder", "append", "(Ljava/lang/String;)Ljava/lang/StringBuilder;"⟩ : MethodName) jdk_67_method_7_code 2 (some (.object "java/lang/StringBuilder")) ({ frames := 4, cells := 0, slots := 0, locals := 100 } : Room) #[(.ref a), (.ref s)] h0 (fun v h' => v = some (.ref a) ∧ Keep h0 h' [b, a] ∧ SBf Z h' a b (bs ++ ds)) := by
  refine Con.of (Ls := #[.val (.ref a), .val (.ref s)]) (plainFor_of_name own_pn3) hEL (fun m => by first | (simp [entryFrame, mkF, argsToLocals, Value.category]; done) | rfl) ?_
  intro vm0 hZ0 hE0 hC0 hS0
  have f1 := F.1
  refine WP.aloadN (n := 1) dSA_0 rfl rfl rfl ?_
  refine WP.aloadN (n := 2) dSA_1 rfl rfl rfl ?_
  refine WP.callSu (n := 5) (ce' := 0) (sl' := 0) (Wd := 0) (a := a) (argsL := [(.ref s)]) (rest := []) (own_aapp l Z a0 hw EL hEL h0 a b bs F s ds G hn hL cz O hO) (Ins.self f1) dSA_2 (by decide) (hw _ (List.mem_of_getElem? (i := 83) rfl)) (own_sameM (hw _ (List.mem_of_getElem? (i := 86) rfl)) (own_nfAB (y := (⟨"java/lang/AbstractStringBuilder", "getValue", "()[B"⟩ : MethodName)) (notFace_of_selects (args := a0) (hw _ (List.mem_of_getElem? (i := 142) rfl))) rfl (by obtain ⟨r, _, e, _⟩ := Cond.declares_spec (hw _ (List.mem_of_getElem? (i := 140) rfl)); exact ⟨r, e⟩)) (by decide)) (hw _ (List.mem_of_getElem? (i := 84) rfl)) (hw _ (List.mem_of_getElem? (i := 85) rfl)) (hw _ (List.mem_of_getElem? (i := 67) rfl)) (hw _ (List.mem_of_getElem? (i := 87) rfl)) (fun _ q => nomatch q) (by decide) (by decide) rfl rfl (by decide) (by decide) rfl rfl (lenOf own_pd8 rfl) rfl (Nat.le_of_eq rfl) rfl (fun v22 vm22 h22 q22 r22 => ?_)
  obtain ⟨rfl, K22, F22⟩ := q22
  refine WP.pop (n := 6) dSA_5 rfl rfl ?_
  refine WP.aloadN (n := 7) dSA_6 rfl rfl rfl ?_
  exact WP.retA dSA_7 rfl rfl rfl rfl (by decide) (by decide) ⟨rfl, K22, F22⟩
theorem dCK_0 : decode jdk_65_method_131_code 0 = .ok (.iload_n 1, 1) := by decide +kernel
theorem dCK_1 : decode jdk_65_method_131_code 1 = .ok (.iload_n 0, 1) := by decide +kernel
theorem dCK_2 : decode jdk_65_method_131_code 2 = .ok (.if_icmp .ge 35, 3) := by decide +kernel
theorem dCK_5 : decode jdk_65_method_131_code 5 = .ok (.new 43, 3) := by decide +kernel
theorem dCK_8 : decode jdk_65_method_131_code 8 = .ok (.dup, 1) := by decide +kernel
theorem dCK_9 : decode jdk_65_method_131_code 9 = .ok (.new 45, 3) := by decide +kernel
theorem dCK_12 : decode jdk_65_method_131_code 12 = .ok (.dup, 1) := by decide +kernel
theorem dCK_13 : decode jdk_65_method_131_code 13 = .ok (.invokespecial 47, 3) := by decide +kernel
theorem dCK_16 : decode jdk_65_method_131_code 16 = .ok (.iload_n 0, 1) := by decide +kernel
theorem dCK_17 : decode jdk_65_method_131_code 17 = .ok (.invokevirtual 54, 3) := by decide +kernel
theorem dCK_20 : decode jdk_65_method_131_code 20 = .ok (.ldc_w 337, 3) := by decide +kernel
theorem dCK_23 : decode jdk_65_method_131_code 23 = .ok (.invokevirtual 50, 3) := by decide +kernel
theorem dCK_26 : decode jdk_65_method_131_code 26 = .ok (.iload_n 1, 1) := by decide +kernel
theorem dCK_27 : decode jdk_65_method_131_code 27 = .ok (.invokevirtual 54, 3) := by decide +kernel
theorem dCK_30 : decode jdk_65_method_131_code 30 = .ok (.invokevirtual 61, 3) := by decide +kernel
theorem dCK_33 : decode jdk_65_method_131_code 33 = .ok (.invokespecial 65, 3) := by decide +kernel
theorem dCK_36 : decode jdk_65_method_131_code 36 = .ok (.athrow, 1) := by decide +kernel
theorem dCK_37 : decode jdk_65_method_131_code 37 = .ok (.return_, 1) := by decide +kernel
set_option maxRecDepth 65536 in
set_option maxHeartbeats 40000000 in
theorem own_chk (l : Launch) (Z : State) (a0 : Array Value) (hw : ∀ d ∈ tables_1, d.before a0 Z = true) (EL : List (String × Nat)) (hEL : EW Z a0 EL) (h0 : Heap) (f t : Int32) (hk : ¬ t < f) :
    Con l Z EL false [] (⟨"java/util/Arrays", "checkLength", "(II)V"⟩ : MethodName) jdk_65_method_131_code 2 none ({ frames := 0, cells := 0, slots := 0, locals := 0 } : Room) #[(.int f), (.int t)] h0 (fun v h' => v = none ∧ h0 = h') := by
  refine Con.of (Ls := #[.val (.int f), .val (.int t)]) (plainFor_of_name own_pn4) hEL (fun m => by first | (simp [entryFrame, mkF, argsToLocals, Value.category]; done) | rfl) ?_
  intro vm0 hZ0 hE0 hC0 hS0
  refine WP.iloadN (n := 1) dCK_0 rfl rfl ?_
  refine WP.iloadN (n := 2) dCK_1 rfl rfl ?_
  refine WP.icmpY (n := 37) dCK_2 (flt hk).2.1 (by decide) (by decide) ?_
  refine WP.retV dCK_37 rfl (by decide) (by decide) ?_
  exact ⟨rfl, rfl⟩
theorem dCB_0 : decode jdk_65_method_133_code 0 = .ok (.iload_n 1, 1) := by decide +kernel
theorem dCB_1 : decode jdk_65_method_133_code 1 = .ok (.iload_n 2, 1) := by decide +kernel
theorem dCB_2 : decode jdk_65_method_133_code 2 = .ok (.invokestatic 343, 3) := by decide +kernel
theorem dCB_5 : decode jdk_65_method_133_code 5 = .ok (.iload_n 2, 1) := by decide +kernel
theorem dCB_6 : decode jdk_65_method_133_code 6 = .ok (.iload_n 1, 1) := by decide +kernel
theorem dCB_7 : decode jdk_65_method_133_code 7 = .ok (.isub, 1) := by decide +kernel
theorem dCB_8 : decode jdk_65_method_133_code 8 = .ok (.istore_n 3, 1) := by decide +kernel
theorem dCB_9 : decode jdk_65_method_133_code 9 = .ok (.iload_n 3, 1) := by decide +kernel
theorem dCB_10 : decode jdk_65_method_133_code 10 = .ok (.newarray .byte, 2) := by decide +kernel
theorem dCB_12 : decode jdk_65_method_133_code 12 = .ok (.astore 4, 2) := by decide +kernel
theorem dCB_14 : decode jdk_65_method_133_code 14 = .ok (.aload_n 0, 1) := by decide +kernel
theorem dCB_15 : decode jdk_65_method_133_code 15 = .ok (.iload_n 1, 1) := by decide +kernel
theorem dCB_16 : decode jdk_65_method_133_code 16 = .ok (.aload 4, 2) := by decide +kernel
theorem dCB_18 : decode jdk_65_method_133_code 18 = .ok (.iconst 0, 1) := by decide +kernel
theorem dCB_19 : decode jdk_65_method_133_code 19 = .ok (.aload_n 0, 1) := by decide +kernel
theorem dCB_20 : decode jdk_65_method_133_code 20 = .ok (.arraylength, 1) := by decide +kernel
theorem dCB_21 : decode jdk_65_method_133_code 21 = .ok (.iload_n 1, 1) := by decide +kernel
theorem dCB_22 : decode jdk_65_method_133_code 22 = .ok (.isub, 1) := by decide +kernel
theorem dCB_23 : decode jdk_65_method_133_code 23 = .ok (.iload_n 3, 1) := by decide +kernel
theorem dCB_24 : decode jdk_65_method_133_code 24 = .ok (.invokestatic 304, 3) := by decide +kernel
theorem dCB_27 : decode jdk_65_method_133_code 27 = .ok (.invokestatic 150, 3) := by decide +kernel
theorem dCB_30 : decode jdk_65_method_133_code 30 = .ok (.aload 4, 2) := by decide +kernel
theorem dCB_32 : decode jdk_65_method_133_code 32 = .ok (.areturn, 1) := by decide +kernel
set_option maxRecDepth 65536 in
set_option maxHeartbeats 40000000 in
theorem own_crb (l : Launch) (Z : State) (a0 : Array Value) (hw : ∀ d ∈ tables_1, d.before a0 Z = true) (EL : List (String × Nat)) (hEL : EW Z a0 EL) (h0 : Heap) (b : Addr) (kb : ClassId) (z : Int32) (vs : List Value) (f t : Nat) (B : Arv Z h0 b kb .byte z vs (.int 0)) (hz : z.toNatClampNeg = vs.length) (hft : f ≤ t) (ht : t ≤ vs.length) (hcap : t - f ≤ 16)  :
    Con l Z EL false [] (⟨"java/util/Arrays", "copyOfRangeByte", "([BII)[B"⟩ : MethodName) jdk_65_method_133_code 5 (some (.array .byte)) ({ frames := 1, cells := 1, slots := 16, locals := 45 } : Room) #[(.ref b), (.int (Int32.ofNat f)), (.int (Int32.ofNat t))] h0 (fun v h' => ∃ c kc, v = some (.ref c) ∧ h0.size ≤ c ∧ Ext h0 h' ∧ Arv Z h' c kc .byte (Int32.ofNat (t - f)) ((vs.drop f).take (t - f)) (.int 0)) := by
  refine Con.of (Ls := #[.val (.ref b), .val (.int (Int32.ofNat f)), .val (.int (Int32.ofNat t)), .unset, .unset]) (plainFor_of_name own_pn4) hEL (fun m => by first | (simp [entryFrame, mkF, argsToLocals, Value.category]; done) | rfl) ?_
  intro vm0 hZ0 hE0 hC0 hS0
  have hz0 : ¬ z < 0 := by obtain ⟨_, _, _, _, q, _⟩ := B; exact q
  have hzb := own_z hz0
  rw [hz] at hzb
  refine WP.iloadN (n := 1) dCB_0 rfl rfl ?_
  refine WP.iloadN (n := 2) dCB_1 rfl rfl ?_
  refine WP.callS (n := 5) (ce' := 0) (sl' := 0) (Wd := 0) (argsL := [(.int (Int32.ofNat f)), (.int (Int32.ofNat t))]) (rest := []) (own_chk l Z a0 hw EL hEL h0 (Int32.ofNat f) (Int32.ofNat t) (by rw [own_ltN (by omega) (by omega)]; omega)) dCB_2 (hw _ (List.mem_of_getElem? (i := 164) rfl)) (hw _ (List.mem_of_getElem? (i := 165) rfl)) (hw _ (List.mem_of_getElem? (i := 159) rfl)) (hw _ (List.mem_of_getElem? (i := 166) rfl)) (by decide) (fun _ q => nomatch q) (by decide) (by decide) rfl rfl (by decide) (by decide) rfl rfl (lenOf own_pd9 rfl) rfl (Nat.le_of_eq rfl) rfl (fun v23 vm23 h23 q23 r23 => ?_)
  obtain ⟨rfl, rfl⟩ := q23
  refine WP.iloadN (n := 6) dCB_5 rfl rfl ?_
  refine WP.iloadN (n := 7) dCB_6 rfl rfl ?_
  refine WP.isub (n := 8) dCB_7  rfl ?_
  rw [own_subN (by omega) hft]
  refine WP.istoreN (n := 9) (Ls' := #[.val (.ref b), .val (.int (Int32.ofNat f)), .val (.int (Int32.ofNat t)), .val (.int (Int32.ofNat (t - f))), .unset]) dCB_8 rfl rfl ?_
  refine WP.iloadN (n := 10) dCB_9 rfl rfl ?_
  refine WP.newP (n := 12) (ce' := 1) (sl' := 16) (cap := 16) (ty := .byte) dCB_10 (hw _ (List.mem_of_getElem? (i := 24) rfl)) rfl (own_nn (by omega)) (by rw [own_clamp (by omega)]; exact hcap) (by decide) rfl rfl (by decide) (by decide) rfl (fun a24 h24 k24 g24 E24 V24 S24 N24 r24 => ?_)
  have V24_ : Arv Z h24 a24 k24 .byte (Int32.ofNat (t - f)) (List.replicate (t - f) (.int 0)) (.int 0) := V24.pad (pad_rep [] (.int 0) (t - f))
  refine WP.astore (n := 14) (Ls' := #[.val (.ref b), .val (.int (Int32.ofNat f)), .val (.int (Int32.ofNat t)), .val (.int (Int32.ofNat (t - f))), .val (.ref a24)]) dCB_12 rfl rfl rfl ?_
  refine WP.aloadN (n := 15) dCB_14 rfl rfl rfl ?_
  refine WP.iloadN (n := 16) dCB_15 rfl rfl ?_
  refine WP.aload (n := 18) dCB_16 rfl rfl rfl ?_
  refine WP.iconst (n := 19) (z := (0 : Int32)) dCB_18 rfl rfl ?_
  refine WP.aloadN (n := 20) dCB_19 rfl rfl rfl ?_
  refine WP.alen (n := 21) dCB_20 (B.ext E24) rfl ?_
  refine WP.iloadN (n := 22) dCB_21 rfl rfl ?_
  refine WP.isub (n := 23) dCB_22  rfl ?_
  rw [show z - Int32.ofNat f = Int32.ofNat (vs.length - f) by rw [hzb.1, own_subN hzb.2 (by omega)]]
  refine WP.iloadN (n := 24) dCB_23 rfl rfl ?_
  refine WP.callS (n := 27) (ce' := 1) (sl' := 16) (Wd := 4) (argsL := [(.int (Int32.ofNat (vs.length - f))), (.int (Int32.ofNat (t - f)))]) (rest := [(.int (0 : Int32)), (.ref a24), (.int (Int32.ofNat f)), (.ref b)]) (own_min l Z a0 hw EL hEL h24 (Int32.ofNat (vs.length - f)) (Int32.ofNat (t - f))) dCB_24 (hw _ (List.mem_of_getElem? (i := 167) rfl)) (hw _ (List.mem_of_getElem? (i := 168) rfl)) (hw _ (List.mem_of_getElem? (i := 169) rfl)) (hw _ (List.mem_of_getElem? (i := 170) rfl)) (by decide) (fun _ q => nomatch q) (by decide) (by decide) rfl rfl (by decide) (by decide) rfl rfl (lenOf own_pd10 rfl) rfl (Nat.le_of_eq rfl) rfl (fun v25 vm25 h25 q25 r25 => ?_)
  obtain ⟨rfl, rfl⟩ := q25
  rw [own_mnN (k := vs.length - f) (m := t - f) (by omega) (by omega)]
  refine WP.inv fun hZc hEc hCc => ?_
  have S24_ : Safe Z EL vm25 h24 a24 := by first | exact S24 | exact r25.safe V24.lt S24
  refine WP.copyB (n := 30) (Wd := 0) (vr := (vs.drop f).take (t - f)) dCB_27 (hw _ (List.mem_of_getElem? (i := 171) rfl)) (hw _ (List.mem_of_getElem? (i := 124) rfl)) (hw _ (List.mem_of_getElem? (i := 122) rfl)) (hw _ (List.mem_of_getElem? (i := 123) rfl)) (B.ext E24) V24_ (own_nn (by omega)) (by decide) (own_nn (by omega)) (by rw [own_clamp (by omega), own_clamp (by omega), hz]; omega) (by rw [own_clamp (by omega)]; show 0 + _ ≤ _; omega) (us := (vs.drop f).take (t - f)) (by rw [own_clamp (by omega), own_clamp (by omega), own_rangeDrop _ _ _ _ (by omega)]) (by rw [own_clamp (by omega), List.length_replicate]; show 0 + _ ≤ _; omega) (by rw [own_clamp (by omega)]; show List.take 0 _ ++ _ ++ List.drop (0 + _) _ = _; simp) N24 S24_ rfl (by decide) (Nat.le_of_eq rfl) (by decide) rfl (fun h7 K7 V7 r7 => ?_)
  refine WP.aload (n := 32) dCB_30 rfl rfl rfl ?_
  exact WP.retA dCB_32 rfl rfl rfl rfl (by decide) (by decide) ⟨_, _, rfl, Nat.le_of_eq g24.symm, ext_keep1 E24 K7 (Nat.le_of_eq g24.symm), V7⟩
theorem dCR_0 : decode jdk_65_method_132_code 0 = .ok (.iload_n 1, 1) := by decide +kernel
theorem dCR_1 : decode jdk_65_method_132_code 1 = .ok (.ifCond .ne 9, 3) := by decide +kernel
theorem dCR_4 : decode jdk_65_method_132_code 4 = .ok (.iload_n 2, 1) := by decide +kernel
theorem dCR_5 : decode jdk_65_method_132_code 5 = .ok (.aload_n 0, 1) := by decide +kernel
theorem dCR_6 : decode jdk_65_method_132_code 6 = .ok (.arraylength, 1) := by decide +kernel
theorem dCR_7 : decode jdk_65_method_132_code 7 = .ok (.if_icmp .eq 10, 3) := by decide +kernel
theorem dCR_10 : decode jdk_65_method_132_code 10 = .ok (.aload_n 0, 1) := by decide +kernel
theorem dCR_11 : decode jdk_65_method_132_code 11 = .ok (.iload_n 1, 1) := by decide +kernel
theorem dCR_12 : decode jdk_65_method_132_code 12 = .ok (.iload_n 2, 1) := by decide +kernel
theorem dCR_13 : decode jdk_65_method_132_code 13 = .ok (.invokestatic 339, 3) := by decide +kernel
theorem dCR_16 : decode jdk_65_method_132_code 16 = .ok (.areturn, 1) := by decide +kernel
theorem dCR_17 : decode jdk_65_method_132_code 17 = .ok (.aload_n 0, 1) := by decide +kernel
theorem dCR_18 : decode jdk_65_method_132_code 18 = .ok (.invokevirtual 310, 3) := by decide +kernel
theorem dCR_21 : decode jdk_65_method_132_code 21 = .ok (.checkcast 311, 3) := by decide +kernel
theorem dCR_24 : decode jdk_65_method_132_code 24 = .ok (.areturn, 1) := by decide +kernel
set_option maxRecDepth 65536 in
set_option maxHeartbeats 40000000 in
theorem own_cor (l : Launch) (Z : State) (a0 : Array Value) (hw : ∀ d ∈ tables_1, d.before a0 Z = true) (EL : List (String × Nat)) (hEL : EW Z a0 EL) (h0 : Heap) (b : Addr) (kb : ClassId) (z : Int32) (vs : List Value) (f t : Nat) (B : Arv Z h0 b kb .byte z vs (.int 0)) (hz : z.toNatClampNeg = vs.length) (hft : f ≤ t) (ht : t ≤ vs.length) (hcap : t - f ≤ 16) (hw' : ¬ (f = 0 ∧ t = vs.length)) :
    Con l Z EL false [] (⟨"java/util/Arrays", "copyOfRange", "([BII)[B"⟩ : MethodName) jdk_65_method_132_code 3 (some (.array .byte)) ({ frames := 2, cells := 1, slots := 16, locals := 65 } : Room) #[(.ref b), (.int (Int32.ofNat f)), (.int (Int32.ofNat t))] h0 (fun v h' => ∃ c kc, v = some (.ref c) ∧ h0.size ≤ c ∧ Ext h0 h' ∧ Arv Z h' c kc .byte (Int32.ofNat (t - f)) ((vs.drop f).take (t - f)) (.int 0)) := by
  refine Con.of (Ls := #[.val (.ref b), .val (.int (Int32.ofNat f)), .val (.int (Int32.ofNat t))]) (plainFor_of_name own_pn4) hEL (fun m => by first | (simp [entryFrame, mkF, argsToLocals, Value.category]; done) | rfl) ?_
  intro vm0 hZ0 hE0 hC0 hS0
  have hz0 : ¬ z < 0 := by obtain ⟨_, _, _, _, q, _⟩ := B; exact q
  have hzb := own_z hz0
  rw [hz] at hzb
  refine WP.iloadN (n := 1) dCR_0 rfl rfl ?_
  refine WP.if_ne (n := 10) (n' := 4) dCR_1 (by decide) (by decide) rfl (fun b26 => ?_) (fun b26 => ?_)
  · refine WP.aloadN (n := 11) dCR_10 rfl rfl rfl ?_
    refine WP.iloadN (n := 12) dCR_11 rfl rfl ?_
    refine WP.iloadN (n := 13) dCR_12 rfl rfl ?_
    refine WP.callS (n := 16) (ce' := 1) (sl' := 16) (Wd := 0) (argsL := [(.ref b), (.int (Int32.ofNat f)), (.int (Int32.ofNat t))]) (rest := []) (own_crb l Z a0 hw EL hEL h0 b kb z vs f t B hz hft ht hcap) dCR_13 (hw _ (List.mem_of_getElem? (i := 161) rfl)) (hw _ (List.mem_of_getElem? (i := 162) rfl)) (hw _ (List.mem_of_getElem? (i := 159) rfl)) (hw _ (List.mem_of_getElem? (i := 163) rfl)) (by decide) (fun _ q => nomatch q) (by decide) (by decide) rfl rfl (by decide) (by decide) rfl rfl (lenOf own_pd11 rfl) rfl (Nat.le_of_eq rfl) rfl (fun v27 vm27 h27 q27 r27 => ?_)
    obtain ⟨c27, kc27, rfl, N27, E27, V27⟩ := q27
    exact WP.retA dCR_16 rfl rfl rfl rfl (by decide) (by decide) ⟨_, _, rfl, N27, E27, V27⟩
  · refine WP.iloadN (n := 5) dCR_4 rfl rfl ?_
    refine WP.aloadN (n := 6) dCR_5 rfl rfl rfl ?_
    refine WP.alen (n := 7) dCR_6 B rfl ?_
    refine WP.icmpN (n' := 10) dCR_7 (feq (fun e => hw' ⟨(by have e1 := congrArg Int32.toNatClampNeg b26; rw [own_clamp (by omega)] at e1; exact e1), (by have e1 := congrArg Int32.toNatClampNeg e; rw [own_clamp (by omega), hz] at e1; exact e1)⟩)).1 rfl ?_
    refine WP.aloadN (n := 11) dCR_10 rfl rfl rfl ?_
    refine WP.iloadN (n := 12) dCR_11 rfl rfl ?_
    refine WP.iloadN (n := 13) dCR_12 rfl rfl ?_
    refine WP.callS (n := 16) (ce' := 1) (sl' := 16) (Wd := 0) (argsL := [(.ref b), (.int (Int32.ofNat f)), (.int (Int32.ofNat t))]) (rest := []) (own_crb l Z a0 hw EL hEL h0 b kb z vs f t B hz hft ht hcap) dCR_13 (hw _ (List.mem_of_getElem? (i := 161) rfl)) (hw _ (List.mem_of_getElem? (i := 162) rfl)) (hw _ (List.mem_of_getElem? (i := 159) rfl)) (hw _ (List.mem_of_getElem? (i := 163) rfl)) (by decide) (fun _ q => nomatch q) (by decide) (by decide) rfl rfl (by decide) (by decide) rfl rfl (lenOf own_pd11 rfl) rfl (Nat.le_of_eq rfl) rfl (fun v28 vm28 h28 q28 r28 => ?_)
    obtain ⟨c28, kc28, rfl, N28, E28, V28⟩ := q28
    exact WP.retA dCR_16 rfl rfl rfl rfl (by decide) (by decide) ⟨_, _, rfl, N28, E28, V28⟩
theorem dGV_0 : decode jdk_68_method_64_code 0 = .ok (.aload_n 0, 1) := by decide +kernel
theorem dGV_1 : decode jdk_68_method_64_code 1 = .ok (.getfield 15, 3) := by decide +kernel
theorem dGV_4 : decode jdk_68_method_64_code 4 = .ok (.areturn, 1) := by decide +kernel
set_option maxRecDepth 65536 in
set_option maxHeartbeats 40000000 in
theorem own_gv (l : Launch) (Z : State) (a0 : Array Value) (hw : ∀ d ∈ tables_1, d.before a0 Z = true) (EL : List (String × Nat)) (hEL : EW Z a0 EL) (h0 : Heap) (a b : Addr) (bs : List Int32) (F : SBf Z h0 a b bs)  :
    Con l Z EL false [] (⟨"java/lang/AbstractStringBuilder", "getValue", "()[B"⟩ : MethodName) jdk_68_method_64_code 1 (some (.array .byte)) ({ frames := 0, cells := 0, slots := 0, locals := 0 } : Room) #[(.ref a)] h0 (fun v h' => v = some (.ref b) ∧ h0 = h') := by
  refine Con.of (Ls := #[.val (.ref a)]) (plainFor_of_name own_pn2) hEL (fun m => by first | (simp [entryFrame, mkF, argsToLocals, Value.category]; done) | rfl) ?_
  intro vm0 hZ0 hE0 hC0 hS0
  refine WP.aloadN (n := 1) dGV_0 rfl rfl rfl ?_
  refine WP.getF (n := 4) (host := "") dGV_1 (Or.inl (hw _ (List.mem_of_getElem? (i := 71) rfl))) Via.refl F.2.1 rfl ?_
  exact WP.retA dGV_4 rfl rfl rfl rfl (by decide) (by decide) ⟨rfl, rfl⟩
theorem dAL_0 : decode jdk_68_method_6_code 0 = .ok (.aload_n 0, 1) := by decide +kernel
theorem dAL_1 : decode jdk_68_method_6_code 1 = .ok (.getfield 79, 3) := by decide +kernel
theorem dAL_4 : decode jdk_68_method_6_code 4 = .ok (.ireturn, 1) := by decide +kernel
set_option maxRecDepth 65536 in
set_option maxHeartbeats 40000000 in
theorem own_al (l : Launch) (Z : State) (a0 : Array Value) (hw : ∀ d ∈ tables_1, d.before a0 Z = true) (EL : List (String × Nat)) (hEL : EW Z a0 EL) (h0 : Heap) (a b : Addr) (bs : List Int32) (F : SBf Z h0 a b bs)  :
    Con l Z EL false [] (⟨"java/lang/AbstractStringBuilder", "length", "()I"⟩ : MethodName) jdk_68_method_6_code 1 (some .int) ({ frames := 0, cells := 0, slots := 0, locals := 0 } : Room) #[(.ref a)] h0 (fun v h' => v = some (.int (Int32.ofNat bs.length)) ∧ h0 = h') := by
  refine Con.of (Ls := #[.val (.ref a)]) (plainFor_of_name own_pn2) hEL (fun m => by first | (simp [entryFrame, mkF, argsToLocals, Value.category]; done) | rfl) ?_
  intro vm0 hZ0 hE0 hC0 hS0
  refine WP.aloadN (n := 1) dAL_0 rfl rfl rfl ?_
  refine WP.getF (n := 4) (host := "") dAL_1 (Or.inl (hw _ (List.mem_of_getElem? (i := 98) rfl))) Via.refl F.2.2.2.1 rfl ?_
  exact WP.retI dAL_4 rfl (by decide) (by decide) ⟨rfl, rfl⟩
theorem dBL_0 : decode jdk_67_method_93_code 0 = .ok (.aload_n 0, 1) := by decide +kernel
theorem dBL_1 : decode jdk_67_method_93_code 1 = .ok (.invokespecial 343, 3) := by decide +kernel
theorem dBL_4 : decode jdk_67_method_93_code 4 = .ok (.ireturn, 1) := by decide +kernel
set_option maxRecDepth 65536 in
set_option maxHeartbeats 40000000 in
theorem own_bl (l : Launch) (Z : State) (a0 : Array Value) (hw : ∀ d ∈ tables_1, d.before a0 Z = true) (EL : List (String × Nat)) (hEL : EW Z a0 EL) (h0 : Heap) (a b : Addr) (bs : List Int32) (F : SBf Z h0 a b bs)  :
    Con l Z EL false [] (⟨"java/lang/StringBuilder", "length", "()I"⟩ : MethodName) jdk_67_method_93_code 1 (some .int) ({ frames := 1, cells := 0, slots := 0, locals := 12 } : Room) #[(.ref a)] h0 (fun v h' => v = some (.int (Int32.ofNat bs.length)) ∧ h0 = h') := by
  refine Con.of (Ls := #[.val (.ref a)]) (plainFor_of_name own_pn3) hEL (fun m => by first | (simp [entryFrame, mkF, argsToLocals, Value.category]; done) | rfl) ?_
  intro vm0 hZ0 hE0 hC0 hS0
  refine WP.aloadN (n := 1) dBL_0 rfl rfl rfl ?_
  refine WP.callSu (n := 4) (ce' := 0) (sl' := 0) (Wd := 0) (a := a) (argsL := []) (rest := []) (own_al l Z a0 hw EL hEL h0 a b bs F) (Ins.self F.1) dBL_1 (by decide) (hw _ (List.mem_of_getElem? (i := 150) rfl)) (own_sameM (hw _ (List.mem_of_getElem? (i := 145) rfl)) (own_nfAB (y := (⟨"java/lang/AbstractStringBuilder", "getValue", "()[B"⟩ : MethodName)) (notFace_of_selects (args := a0) (hw _ (List.mem_of_getElem? (i := 142) rfl))) rfl (by obtain ⟨r, _, e, _⟩ := Cond.declares_spec (hw _ (List.mem_of_getElem? (i := 140) rfl)); exact ⟨r, e⟩)) (by decide)) (hw _ (List.mem_of_getElem? (i := 146) rfl)) (hw _ (List.mem_of_getElem? (i := 85) rfl)) (hw _ (List.mem_of_getElem? (i := 67) rfl)) (hw _ (List.mem_of_getElem? (i := 151) rfl)) (fun _ q => nomatch q) (by decide) (by decide) rfl rfl (by decide) (by decide) rfl rfl (lenOf own_pd6 rfl) rfl (Nat.le_of_eq rfl) rfl (fun v29 vm29 h29 q29 r29 => ?_)
  obtain ⟨rfl, rfl⟩ := q29
  exact WP.retI dBL_4 rfl (by decide) (by decide) ⟨rfl, rfl⟩
theorem dIL_0 : decode jdk_68_method_68_code 0 = .ok (.getstatic 18, 3) := by decide +kernel
theorem dIL_3 : decode jdk_68_method_68_code 3 = .ok (.ifCond .eq 14, 3) := by decide +kernel
theorem dIL_6 : decode jdk_68_method_68_code 6 = .ok (.aload_n 0, 1) := by decide +kernel
theorem dIL_7 : decode jdk_68_method_68_code 7 = .ok (.getfield 22, 3) := by decide +kernel
theorem dIL_10 : decode jdk_68_method_68_code 10 = .ok (.ifCond .ne 7, 3) := by decide +kernel
theorem dIL_13 : decode jdk_68_method_68_code 13 = .ok (.iconst 1, 1) := by decide +kernel
theorem dIL_14 : decode jdk_68_method_68_code 14 = .ok (.goto 4, 3) := by decide +kernel
theorem dIL_17 : decode jdk_68_method_68_code 17 = .ok (.iconst 0, 1) := by decide +kernel
theorem dIL_18 : decode jdk_68_method_68_code 18 = .ok (.ireturn, 1) := by decide +kernel
set_option maxRecDepth 65536 in
set_option maxHeartbeats 40000000 in
theorem own_isl (l : Launch) (Z : State) (a0 : Array Value) (hw : ∀ d ∈ tables_1, d.before a0 Z = true) (EL : List (String × Nat)) (hEL : EW Z a0 EL) (h0 : Heap) (a b : Addr) (bs : List Int32) (F : SBf Z h0 a b bs) (cz : Int32) (O : Sta Z Z.heap "java/lang/String" "COMPACT_STRINGS" "Z" (.int cz)) (hO : ¬ cz = 0) :
    Con l Z EL false [] (⟨"java/lang/AbstractStringBuilder", "isLatin1", "()Z"⟩ : MethodName) jdk_68_method_68_code 1 (some .boolean) ({ frames := 0, cells := 0, slots := 0, locals := 0 } : Room) #[(.ref a)] h0 (fun v h' => v = some (.int 1) ∧ h0 = h') := by
  refine Con.of (Ls := #[.val (.ref a)]) (plainFor_of_name own_pn2) hEL (fun m => by first | (simp [entryFrame, mkF, argsToLocals, Value.category]; done) | rfl) ?_
  intro vm0 hZ0 hE0 hC0 hS0
  refine WP.getSZ (n := 3) dIL_0 (hw _ (List.mem_of_getElem? (i := 70) rfl)) Via.refl O rfl ?_
  refine WP.ifcN (n' := 6) dIL_3 ((if0 _ _).trans (feq hO).1) rfl ?_
  refine WP.aloadN (n := 7) dIL_6 rfl rfl rfl ?_
  refine WP.getF (n := 10) (host := "") dIL_7 (Or.inl (hw _ (List.mem_of_getElem? (i := 73) rfl))) Via.refl F.2.2.1 rfl ?_
  refine WP.ifcN (n' := 13) dIL_10 (by decide) rfl ?_
  refine WP.iconst (n := 14) (z := (1 : Int32)) dIL_13 rfl rfl ?_
  refine WP.goto (n := 18) dIL_14 (by decide) (by decide) ?_
  exact WP.retN dIL_18 rfl (Or.inl rfl) (by decide : nar .boolean 1 = 1) (by decide) (by decide) ⟨rfl, rfl⟩
theorem dX2_0 : decode jdk_42_method_150_code 0 = .ok (.aload_n 0, 1) := by decide +kernel
theorem dX2_1 : decode jdk_42_method_150_code 1 = .ok (.invokespecial 1, 3) := by decide +kernel
theorem dX2_4 : decode jdk_42_method_150_code 4 = .ok (.aload_n 1, 1) := by decide +kernel
theorem dX2_5 : decode jdk_42_method_150_code 5 = .ok (.invokevirtual 552, 3) := by decide +kernel
theorem dX2_8 : decode jdk_42_method_150_code 8 = .ok (.astore_n 3, 1) := by decide +kernel
theorem dX2_9 : decode jdk_42_method_150_code 9 = .ok (.aload_n 1, 1) := by decide +kernel
theorem dX2_10 : decode jdk_42_method_150_code 10 = .ok (.invokevirtual 549, 3) := by decide +kernel
theorem dX2_13 : decode jdk_42_method_150_code 13 = .ok (.istore 4, 2) := by decide +kernel
theorem dX2_15 : decode jdk_42_method_150_code 15 = .ok (.aload_n 1, 1) := by decide +kernel
theorem dX2_16 : decode jdk_42_method_150_code 16 = .ok (.invokevirtual 1047, 3) := by decide +kernel
theorem dX2_19 : decode jdk_42_method_150_code 19 = .ok (.ifCond .eq 22, 3) := by decide +kernel
theorem dX2_22 : decode jdk_42_method_150_code 22 = .ok (.aload_n 0, 1) := by decide +kernel
theorem dX2_23 : decode jdk_42_method_150_code 23 = .ok (.iconst 0, 1) := by decide +kernel
theorem dX2_24 : decode jdk_42_method_150_code 24 = .ok (.putfield 15, 3) := by decide +kernel
theorem dX2_27 : decode jdk_42_method_150_code 27 = .ok (.aload_n 0, 1) := by decide +kernel
theorem dX2_28 : decode jdk_42_method_150_code 28 = .ok (.aload_n 3, 1) := by decide +kernel
theorem dX2_29 : decode jdk_42_method_150_code 29 = .ok (.iconst 0, 1) := by decide +kernel
theorem dX2_30 : decode jdk_42_method_150_code 30 = .ok (.iload 4, 2) := by decide +kernel
theorem dX2_32 : decode jdk_42_method_150_code 32 = .ok (.invokestatic 54, 3) := by decide +kernel
theorem dX2_35 : decode jdk_42_method_150_code 35 = .ok (.putfield 9, 3) := by decide +kernel
theorem dX2_38 : decode jdk_42_method_150_code 38 = .ok (.goto 59, 3) := by decide +kernel
theorem dX2_41 : decode jdk_42_method_150_code 41 = .ok (.getstatic 38, 3) := by decide +kernel
theorem dX2_44 : decode jdk_42_method_150_code 44 = .ok (.ifCond .eq 35, 3) := by decide +kernel
theorem dX2_47 : decode jdk_42_method_150_code 47 = .ok (.aload_n 1, 1) := by decide +kernel
theorem dX2_48 : decode jdk_42_method_150_code 48 = .ok (.getfield 1048, 3) := by decide +kernel
theorem dX2_51 : decode jdk_42_method_150_code 51 = .ok (.ifCond .eq 28, 3) := by decide +kernel
theorem dX2_54 : decode jdk_42_method_150_code 54 = .ok (.aload_n 0, 1) := by decide +kernel
theorem dX2_55 : decode jdk_42_method_150_code 55 = .ok (.aload_n 3, 1) := by decide +kernel
theorem dX2_56 : decode jdk_42_method_150_code 56 = .ok (.iconst 0, 1) := by decide +kernel
theorem dX2_57 : decode jdk_42_method_150_code 57 = .ok (.iload 4, 2) := by decide +kernel
theorem dX2_59 : decode jdk_42_method_150_code 59 = .ok (.invokestatic 1051, 3) := by decide +kernel
theorem dX2_62 : decode jdk_42_method_150_code 62 = .ok (.putfield 9, 3) := by decide +kernel
theorem dX2_65 : decode jdk_42_method_150_code 65 = .ok (.aload_n 0, 1) := by decide +kernel
theorem dX2_66 : decode jdk_42_method_150_code 66 = .ok (.aload_n 0, 1) := by decide +kernel
theorem dX2_67 : decode jdk_42_method_150_code 67 = .ok (.getfield 9, 3) := by decide +kernel
theorem dX2_70 : decode jdk_42_method_150_code 70 = .ok (.iload 4, 2) := by decide +kernel
theorem dX2_72 : decode jdk_42_method_150_code 72 = .ok (.invokestatic 47, 3) := by decide +kernel
theorem dX2_75 : decode jdk_42_method_150_code 75 = .ok (.putfield 15, 3) := by decide +kernel
theorem dX2_78 : decode jdk_42_method_150_code 78 = .ok (.return_, 1) := by decide +kernel
theorem dX2_79 : decode jdk_42_method_150_code 79 = .ok (.aload_n 0, 1) := by decide +kernel
theorem dX2_80 : decode jdk_42_method_150_code 80 = .ok (.iconst 1, 1) := by decide +kernel
theorem dX2_81 : decode jdk_42_method_150_code 81 = .ok (.putfield 15, 3) := by decide +kernel
theorem dX2_84 : decode jdk_42_method_150_code 84 = .ok (.aload_n 0, 1) := by decide +kernel
theorem dX2_85 : decode jdk_42_method_150_code 85 = .ok (.aload_n 3, 1) := by decide +kernel
theorem dX2_86 : decode jdk_42_method_150_code 86 = .ok (.iconst 0, 1) := by decide +kernel
theorem dX2_87 : decode jdk_42_method_150_code 87 = .ok (.iload 4, 2) := by decide +kernel
theorem dX2_89 : decode jdk_42_method_150_code 89 = .ok (.iconst 1, 1) := by decide +kernel
theorem dX2_90 : decode jdk_42_method_150_code 90 = .ok (.ishl, 1) := by decide +kernel
theorem dX2_91 : decode jdk_42_method_150_code 91 = .ok (.invokestatic 54, 3) := by decide +kernel
theorem dX2_94 : decode jdk_42_method_150_code 94 = .ok (.putfield 9, 3) := by decide +kernel
theorem dX2_97 : decode jdk_42_method_150_code 97 = .ok (.return_, 1) := by decide +kernel
set_option maxRecDepth 65536 in
set_option maxHeartbeats 40000000 in
theorem own_s2 (l : Launch) (Z : State) (a0 : Array Value) (hw : ∀ d ∈ tables_1, d.before a0 Z = true) (EL : List (String × Nat)) (hEL : EW Z a0 EL) (h0 : Heap) (x : Addr) (v0 c0 : Value) (hN : Z.heap.size ≤ x) (hA : Exa Z h0 x "java/lang/String") (hV : Fld Z h0 x "java/lang/String" "value" "[B" v0) (hK : Fld Z h0 x "java/lang/String" "coder" "B" c0) (a b : Addr) (bs : List Int32) (F : SBf Z h0 a b bs) (hlt : bs.length < 16) (cz : Int32) (O : Sta Z Z.heap "java/lang/String" "COMPACT_STRINGS" "Z" (.int cz)) (hO : ¬ cz = 0) :
    Con l Z EL false [x] (⟨"java/lang/String", "<init>", "(Ljava/lang/AbstractStringBuilder;Ljava/lang/Void;)V"⟩ : MethodName) jdk_42_method_150_code 5 none ({ frames := 3, cells := 1, slots := 16, locals := 82 } : Room) #[(.ref x), (.ref a), .null] h0 (fun v h' => v = none ∧ Keep h0 h' [x] ∧ Str Z h' x bs) := by
  refine Con.of (Ls := #[.val (.ref x), .val (.ref a), .val .null, .unset, .unset]) (plainFor_of_name own_pn1) hEL (fun m => by first | (simp [entryFrame, mkF, argsToLocals, Value.category]; done) | rfl) ?_
  intro vm0 hZ0 hE0 hC0 hS0
  obtain ⟨f1, f2, f3, f4, f5, f6, kb, vs, f7, f8, f9⟩ := id F
  have nxb : b ≠ x := fun e => Exa.neArv hA f7 (hw _ (List.mem_of_getElem? (i := 7) rfl)) e.symm
  refine WP.aloadN (n := 1) dX2_0 rfl rfl rfl ?_
  refine WP.initO (n := 4) (Wd := 0) dX2_1 (hw _ (List.mem_of_getElem? (i := 16) rfl)) (hw _ (List.mem_of_getElem? (i := 17) rfl)) (hw _ (List.mem_of_getElem? (i := 18) rfl)) rfl (by decide) (Nat.le_of_eq rfl) (by decide) rfl ?_
  refine WP.aloadN (n := 5) dX2_4 rfl rfl rfl ?_
  refine WP.callV (n := 8) (ce' := 0) (sl' := 0) (Wd := 0) (a := a) (argsL := []) (rest := []) (own_gv l Z a0 hw EL hEL h0 a b bs F) f1 dX2_5 (hw _ (List.mem_of_getElem? (i := 139) rfl)) (hw _ (List.mem_of_getElem? (i := 140) rfl)) (hw _ (List.mem_of_getElem? (i := 142) rfl)) (hw _ (List.mem_of_getElem? (i := 141) rfl)) (hw _ (List.mem_of_getElem? (i := 67) rfl)) (hw _ (List.mem_of_getElem? (i := 143) rfl)) (by decide) (fun _ hz => notFace_of_selects (args := #[]) (mvT hz (hw _ (List.mem_of_getElem? (i := 142) rfl)))) (fun _ q => nomatch q) (by decide) (by decide) rfl rfl (by decide) (by decide) rfl rfl (lenOf own_pd12 rfl) rfl (Nat.le_of_eq rfl) rfl (fun v30 vm30 h30 q30 r30 => ?_)
  obtain ⟨rfl, rfl⟩ := q30
  refine WP.astoreN (n := 9) (Ls' := #[.val (.ref x), .val (.ref a), .val .null, .val (.ref b), .unset]) dX2_8 rfl rfl rfl ?_
  refine WP.aloadN (n := 10) dX2_9 rfl rfl rfl ?_
  refine WP.callV (n := 13) (ce' := 0) (sl' := 0) (Wd := 0) (a := a) (argsL := []) (rest := []) (own_bl l Z a0 hw EL hEL h0 a b bs F) f1 dX2_10 (hw _ (List.mem_of_getElem? (i := 144) rfl)) (hw _ (List.mem_of_getElem? (i := 145) rfl)) (hw _ (List.mem_of_getElem? (i := 147) rfl)) (hw _ (List.mem_of_getElem? (i := 148) rfl)) (hw _ (List.mem_of_getElem? (i := 59) rfl)) (hw _ (List.mem_of_getElem? (i := 149) rfl)) (by decide) (fun _ hz => own_nfAB (y := (⟨"java/lang/AbstractStringBuilder", "getValue", "()[B"⟩ : MethodName)) (notFace_of_selects (args := #[]) (mvT hz (hw _ (List.mem_of_getElem? (i := 142) rfl)))) rfl (by obtain ⟨r, _, e, _⟩ := Cond.declares_spec (args := #[]) (mvT hz (hw _ (List.mem_of_getElem? (i := 140) rfl))); exact ⟨r, e⟩)) (fun _ q => nomatch q) (by decide) (by decide) rfl rfl (by decide) (by decide) rfl rfl (lenOf own_pd6 rfl) rfl (Nat.le_of_eq rfl) rfl (fun v31 vm31 h31 q31 r31 => ?_)
  obtain ⟨rfl, rfl⟩ := q31
  refine WP.istore (n := 15) (Ls' := #[.val (.ref x), .val (.ref a), .val .null, .val (.ref b), .val (.int (Int32.ofNat bs.length))]) dX2_13 rfl rfl ?_
  refine WP.aloadN (n := 16) dX2_15 rfl rfl rfl ?_
  refine WP.callV (n := 19) (ce' := 0) (sl' := 0) (Wd := 0) (a := a) (argsL := []) (rest := []) (own_isl l Z a0 hw EL hEL h0 a b bs F cz O hO) f1 dX2_16 (hw _ (List.mem_of_getElem? (i := 152) rfl)) (hw _ (List.mem_of_getElem? (i := 153) rfl)) (hw _ (List.mem_of_getElem? (i := 155) rfl)) (hw _ (List.mem_of_getElem? (i := 154) rfl)) (hw _ (List.mem_of_getElem? (i := 67) rfl)) (hw _ (List.mem_of_getElem? (i := 156) rfl)) (by decide) (fun _ hz => notFace_of_selects (args := #[]) (mvT hz (hw _ (List.mem_of_getElem? (i := 155) rfl)))) (fun _ q => nomatch q) (by decide) (by decide) rfl rfl (by decide) (by decide) rfl rfl (lenOf own_pd13 rfl) rfl (Nat.le_of_eq rfl) rfl (fun v32 vm32 h32 q32 r32 => ?_)
  obtain ⟨rfl, rfl⟩ := q32
  refine WP.ifcN (n' := 22) dX2_19 (by decide) rfl ?_
  refine WP.aloadN (n := 23) dX2_22 rfl rfl rfl ?_
  refine WP.iconst (n := 24) (z := (0 : Int32)) dX2_23 rfl rfl ?_
  refine WP.inv fun hZp hEp hCp => ?_
  have SX : Safe Z EL vm32 h0 x := (r32.safe hA.lt (r31.safe hA.lt (r30.safe hA.lt (hS0 x (List.mem_cons_self ..)))))
  refine WP.putF (n := 27) (host := "") (ty := .byte) dX2_24 (Or.inl (hw _ (List.mem_of_getElem? (i := 31) rfl))) Via.refl hK hA (Or.inr ⟨(hw _ (List.mem_of_getElem? (i := 32) rfl)), rfl, rfl⟩) (hw _ (List.mem_of_getElem? (i := 7) rfl)) (by decide) rfl (by decide) hN SX rfl (fun h33 W33 r33 => ?_)
  have A33 := hA.wr W33
  have K33 := (Keep.refl h0 [x]).wr W33 (Or.inl (List.mem_cons_self ..))
  have F33_coder := hK.same W33
  have F33_value := hV.other W33 (Or.inr (slot_ne (t := (.array .byte)) (t' := .byte) (Or.inr (hw _ (List.mem_of_getElem? (i := 34) rfl))) (Or.inr (hw _ (List.mem_of_getElem? (i := 32) rfl))) (by decide) (by decide) (by decide)))
  have S33 := r33.safe hA.lt SX
  have B33 := f7.other W33 nxb
  refine WP.aloadN (n := 28) dX2_27 rfl rfl rfl ?_
  refine WP.aloadN (n := 29) dX2_28 rfl rfl rfl ?_
  refine WP.iconst (n := 30) (z := (0 : Int32)) dX2_29 rfl rfl ?_
  refine WP.iload (n := 32) dX2_30 rfl rfl ?_
  refine WP.callS (n := 35) (ce' := 1) (sl' := 16) (Wd := 1) (argsL := [(.ref b), (.int (0 : Int32)), (.int (Int32.ofNat bs.length))]) (rest := [(.ref x)]) (own_cor l Z a0 hw EL hEL h33 b kb 16 vs 0 bs.length B33 (by rw [f8]; rfl) (by omega) (by omega) (by omega) (by rw [f8]; omega)) dX2_32 (hw _ (List.mem_of_getElem? (i := 157) rfl)) (hw _ (List.mem_of_getElem? (i := 158) rfl)) (hw _ (List.mem_of_getElem? (i := 159) rfl)) (hw _ (List.mem_of_getElem? (i := 160) rfl)) (by decide) (fun _ q => nomatch q) (by decide) (by decide) rfl rfl (by decide) (by decide) rfl rfl (lenOf own_pd11 rfl) rfl (Nat.le_of_eq rfl) rfl (fun v34 vm34 h34 q34 r34 => ?_)
  obtain ⟨c34, kc34, rfl, N34, E34, V34⟩ := q34
  have S34 := r34.safe (Nat.lt_of_lt_of_le hA.lt r33.2.1) S33
  have XN34 : c34 ≠ x := Ne.symm (Nat.ne_of_lt (Nat.lt_of_lt_of_le (Nat.lt_of_lt_of_le hA.lt r33.2.1) N34))
  refine WP.putF (n := 38) (host := "") (ty := (.array .byte)) dX2_35 (Or.inl (hw _ (List.mem_of_getElem? (i := 33) rfl))) Via.refl (F33_value.ext E34) (A33.ext E34) (Or.inr ⟨(hw _ (List.mem_of_getElem? (i := 34) rfl)), rfl, rfl⟩) (hw _ (List.mem_of_getElem? (i := 7) rfl)) (by decide) rfl rfl hN S34 rfl (fun h35 W35 r35 => ?_)
  have A35 := (A33.ext E34).wr W35
  have K35 := (K33.ext E34).wr W35 (Or.inl (List.mem_cons_self ..))
  have F35_value := (F33_value.ext E34).same W35
  have F35_coder := (F33_coder.ext E34).other W35 (Or.inr (slot_ne (t := .byte) (t' := (.array .byte)) (Or.inr (hw _ (List.mem_of_getElem? (i := 32) rfl))) (Or.inr (hw _ (List.mem_of_getElem? (i := 34) rfl))) (by decide) (by decide) (by decide)))
  have V35 := V34.other W35 XN34
  refine WP.goto (n := 97) dX2_38 (by decide) (by decide) ?_
  refine WP.retV dX2_97 rfl (by decide) (by decide) ?_
  refine ⟨rfl, K35, A35, F35_coder, c34, kc34, Int32.ofNat bs.length, F35_value, ?_, ?_⟩
  · have e := V35
    rw [List.drop_zero, Nat.sub_zero, f9] at e
    exact e
  · rw [own_clamp (by omega)]
theorem dX1_0 : decode jdk_42_method_53_code 0 = .ok (.aload_n 0, 1) := by decide +kernel
theorem dX1_1 : decode jdk_42_method_53_code 1 = .ok (.aload_n 1, 1) := by decide +kernel
theorem dX1_2 : decode jdk_42_method_53_code 2 = .ok (.aconst_null, 1) := by decide +kernel
theorem dX1_3 : decode jdk_42_method_53_code 3 = .ok (.invokespecial 489, 3) := by decide +kernel
theorem dX1_6 : decode jdk_42_method_53_code 6 = .ok (.return_, 1) := by decide +kernel
set_option maxRecDepth 65536 in
set_option maxHeartbeats 40000000 in
theorem own_s1 (l : Launch) (Z : State) (a0 : Array Value) (hw : ∀ d ∈ tables_1, d.before a0 Z = true) (EL : List (String × Nat)) (hEL : EW Z a0 EL) (h0 : Heap) (x : Addr) (v0 c0 : Value) (hN : Z.heap.size ≤ x) (hA : Exa Z h0 x "java/lang/String") (hV : Fld Z h0 x "java/lang/String" "value" "[B" v0) (hK : Fld Z h0 x "java/lang/String" "coder" "B" c0) (a b : Addr) (bs : List Int32) (F : SBf Z h0 a b bs) (hlt : bs.length < 16) (cz : Int32) (O : Sta Z Z.heap "java/lang/String" "COMPACT_STRINGS" "Z" (.int cz)) (hO : ¬ cz = 0) :
    Con l Z EL false [x] (⟨"java/lang/String", "<init>", "(Ljava/lang/StringBuilder;)V"⟩ : MethodName) jdk_42_method_53_code 2 none ({ frames := 4, cells := 1, slots := 16, locals := 98 } : Room) #[(.ref x), (.ref a)] h0 (fun v h' => v = none ∧ Keep h0 h' [x] ∧ Str Z h' x bs) := by
  refine Con.of (Ls := #[.val (.ref x), .val (.ref a)]) (plainFor_of_name own_pn1) hEL (fun m => by first | (simp [entryFrame, mkF, argsToLocals, Value.category]; done) | rfl) ?_
  intro vm0 hZ0 hE0 hC0 hS0
  refine WP.aloadN (n := 1) dX1_0 rfl rfl rfl ?_
  refine WP.aloadN (n := 2) dX1_1 rfl rfl rfl ?_
  refine WP.aconstNull (n := 3) dX1_2  rfl ?_
  refine WP.callP (n := 6) (ce' := 1) (sl' := 16) (Wd := 0) (a := x) (argsL := [(.ref a), .null]) (rest := []) (own_s2 l Z a0 hw EL hEL h0 x v0 c0 hN hA hV hK a b bs F hlt cz O hO) dX1_3 rfl (hw _ (List.mem_of_getElem? (i := 136) rfl)) (hw _ (List.mem_of_getElem? (i := 137) rfl)) (hw _ (List.mem_of_getElem? (i := 8) rfl)) (hw _ (List.mem_of_getElem? (i := 138) rfl)) (by decide) (fun y q => by cases List.mem_singleton.mp q; exact ⟨hS0 x (List.mem_cons_self ..), hA.lt⟩) (by decide) (by decide) rfl rfl (by decide) (by decide) rfl rfl (lenOf own_pd14 rfl) rfl (Nat.le_of_eq rfl) rfl (fun v36 vm36 h36 q36 r36 => ?_)
  obtain ⟨rfl, K36, F36⟩ := q36
  refine WP.retV dX1_6 rfl (by decide) (by decide) ?_
  exact ⟨rfl, K36, F36⟩
theorem dTS_0 : decode jdk_67_method_42_code 0 = .ok (.new 18, 3) := by decide +kernel
theorem dTS_3 : decode jdk_67_method_42_code 3 = .ok (.dup, 1) := by decide +kernel
theorem dTS_4 : decode jdk_67_method_42_code 4 = .ok (.aload_n 0, 1) := by decide +kernel
theorem dTS_5 : decode jdk_67_method_42_code 5 = .ok (.invokespecial 137, 3) := by decide +kernel
theorem dTS_8 : decode jdk_67_method_42_code 8 = .ok (.areturn, 1) := by decide +kernel
set_option maxRecDepth 65536 in
set_option maxHeartbeats 40000000 in
theorem own_ts (l : Launch) (Z : State) (a0 : Array Value) (hw : ∀ d ∈ tables_1, d.before a0 Z = true) (EL : List (String × Nat)) (hEL : EW Z a0 EL) (h0 : Heap) (a b : Addr) (bs : List Int32) (F : SBf Z h0 a b bs) (hlt : bs.length < 16) (cz : Int32) (O : Sta Z Z.heap "java/lang/String" "COMPACT_STRINGS" "Z" (.int cz)) (hO : ¬ cz = 0) :
    Con l Z EL false [] (⟨"java/lang/StringBuilder", "toString", "()Ljava/lang/String;"⟩ : MethodName) jdk_67_method_42_code 1 (some (.object "java/lang/String")) ({ frames := 5, cells := 2, slots := 20, locals := 113 } : Room) #[(.ref a)] h0 (fun v h' => ∃ s, v = some (.ref s) ∧ Str Z h' s bs ∧ Ext h0 h') := by
  refine Con.of (Ls := #[.val (.ref a)]) (plainFor_of_name own_pn3) hEL (fun m => by first | (simp [entryFrame, mkF, argsToLocals, Value.category]; done) | rfl) ?_
  intro vm0 hZ0 hE0 hC0 hS0
  refine WP.new (n := 3) (ce' := 1) (sl' := 4) dTS_0 (hw _ (List.mem_of_getElem? (i := 132) rfl)) (hw _ (List.mem_of_getElem? (i := 7) rfl)) (hw _ (List.mem_of_getElem? (i := 8) rfl)) rfl rfl (by decide) (by decide) rfl (fun a37 h37 g37 E37 A37 D37 S37 N37 r37 => ?_)
  refine WP.dup (n := 4) dTS_3 rfl rfl ?_
  refine WP.aloadN (n := 5) dTS_4 rfl rfl rfl ?_
  refine WP.callP (n := 8) (ce' := 2) (sl' := 20) (Wd := 1) (a := a37) (argsL := [(.ref a)]) (rest := [(.ref a37)]) (own_s1 l Z a0 hw EL hEL h37 a37 _ _ N37 A37 (D37 (Or.inr (hw _ (List.mem_of_getElem? (i := 34) rfl))) (ty := .array .byte) (by decide)) (D37 (Or.inr (hw _ (List.mem_of_getElem? (i := 32) rfl))) (ty := .byte) (by decide)) a b bs (F.ext E37) hlt cz O hO) dTS_5 rfl (hw _ (List.mem_of_getElem? (i := 133) rfl)) (hw _ (List.mem_of_getElem? (i := 134) rfl)) (hw _ (List.mem_of_getElem? (i := 8) rfl)) (hw _ (List.mem_of_getElem? (i := 135) rfl)) (by decide) (fun y q => by cases List.mem_singleton.mp q; exact ⟨S37, A37.lt⟩) (by decide) (by decide) rfl rfl (by decide) (by decide) rfl rfl (lenOf own_pd15 rfl) rfl (Nat.le_of_eq rfl) rfl (fun v38 vm38 h38 q38 r38 => ?_)
  obtain ⟨rfl, K38, F38⟩ := q38
  exact WP.retA dTS_8 rfl rfl rfl rfl (by decide) (by decide) ⟨_, rfl, F38, ext_keep1 E37 K38 (Nat.le_of_eq g37.symm)⟩
theorem dVA_0 : decode prog_36_method_1_code 0 = .ok (.getstatic 13, 3) := by decide +kernel
theorem dVA_3 : decode prog_36_method_1_code 3 = .ok (.invokevirtual 17, 3) := by decide +kernel
theorem dVA_6 : decode prog_36_method_1_code 6 = .ok (.checkcast 18, 3) := by decide +kernel
theorem dVA_9 : decode prog_36_method_1_code 9 = .ok (.areturn, 1) := by decide +kernel
set_option maxRecDepth 65536 in
set_option maxHeartbeats 40000000 in
theorem own_vals (l : Launch) (Z : State) (a0 : Array Value) (hw : ∀ d ∈ tables_1, d.before a0 Z = true) (EL : List (String × Nat)) (hEL : EW Z a0 EL) (h0 : Heap) (vv f0 f1 f2 : Addr) (kv : ClassId) (P : own_SF Z vv f0 f1 f2 kv) :
    Con l Z EL false [] (⟨"com/example/research_api_client/researchapiclient/lotus/LineCheck$Status", "values", "()[Lcom/example/research_api_client/researchapiclient/lotus/LineCheck$Status;"⟩ : MethodName) prog_36_method_1_code 0 (some (.array (.object "com/example/research_api_client/researchapiclient/lotus/LineCheck$Status"))) ({ frames := 1, cells := 1, slots := 3, locals := 20 } : Room) #[] h0 (fun v h' => ∃ b, v = some (.ref b) ∧ Arv Z h' b kv (.object "com/example/research_api_client/researchapiclient/lotus/LineCheck$Status") 3 [.ref f0, .ref f1, .ref f2] .null ∧ Ext h0 h') := by
  refine Con.of (Ls := #[]) (plainFor_of_name own_pn5) hEL (fun m => by first | (simp [entryFrame, mkF, argsToLocals, Value.category]; done) | rfl) ?_
  intro vm0 hZ0 hE0 hC0 hS0
  obtain ⟨p1, p2, p3, p4⟩ := P
  refine WP.getSZ (n := 3) dVA_0 (hw _ (List.mem_of_getElem? (i := 42) rfl)) Via.refl p1 rfl ?_
  refine WP.inv fun hZc hEc hCc => ?_
  refine WP.clone (n := 6) (Wd := 0) (cap := 3) (ce' := 1) (sl' := 3) dVA_3 (hw _ (List.mem_of_getElem? (i := 44) rfl)) (hw _ (List.mem_of_getElem? (i := 45) rfl)) (hw _ (List.mem_of_getElem? (i := 49) rfl)) (hw _ (List.mem_of_getElem? (i := 47) rfl)) (hw _ (List.mem_of_getElem? (i := 48) rfl)) (hw _ (List.mem_of_getElem? (i := 50) rfl)) (p3.ext hEc) (p2.ext hEc) rfl (by decide) (Nat.le_of_eq rfl) (by decide) (by decide) rfl rfl (by decide) (by decide) rfl (fun b h1 e1 E1 A1 X1 r1 => ?_)
  refine WP.castY (n := 9) dVA_6 (hw _ (List.mem_of_getElem? (i := 55) rfl)) (Ins.self X1) rfl ?_
  exact WP.retA dVA_9 rfl rfl rfl rfl (by decide) (by decide) ⟨b, rfl, A1, E1⟩
theorem dOM_0 : decode prog_36_method_6_code 0 = .ok (.invokestatic 36, 3) := by decide +kernel
theorem dOM_3 : decode prog_36_method_6_code 3 = .ok (.astore_n 1, 1) := by decide +kernel
theorem dOM_4 : decode prog_36_method_6_code 4 = .ok (.aload_n 1, 1) := by decide +kernel
theorem dOM_5 : decode prog_36_method_6_code 5 = .ok (.arraylength, 1) := by decide +kernel
theorem dOM_6 : decode prog_36_method_6_code 6 = .ok (.istore_n 2, 1) := by decide +kernel
theorem dOM_7 : decode prog_36_method_6_code 7 = .ok (.iconst 0, 1) := by decide +kernel
theorem dOM_8 : decode prog_36_method_6_code 8 = .ok (.istore_n 3, 1) := by decide +kernel
theorem dOM_9 : decode prog_36_method_6_code 9 = .ok (.iload_n 3, 1) := by decide +kernel
theorem dOM_10 : decode prog_36_method_6_code 10 = .ok (.iload_n 2, 1) := by decide +kernel
theorem dOM_11 : decode prog_36_method_6_code 11 = .ok (.if_icmp .ge 47, 3) := by decide +kernel
theorem dOM_14 : decode prog_36_method_6_code 14 = .ok (.aload_n 1, 1) := by decide +kernel
theorem dOM_15 : decode prog_36_method_6_code 15 = .ok (.iload_n 3, 1) := by decide +kernel
theorem dOM_16 : decode prog_36_method_6_code 16 = .ok (.aaload, 1) := by decide +kernel
theorem dOM_17 : decode prog_36_method_6_code 17 = .ok (.astore 4, 2) := by decide +kernel
theorem dOM_19 : decode prog_36_method_6_code 19 = .ok (.aload_n 0, 1) := by decide +kernel
theorem dOM_20 : decode prog_36_method_6_code 20 = .ok (.new 40, 3) := by decide +kernel
theorem dOM_23 : decode prog_36_method_6_code 23 = .ok (.dup, 1) := by decide +kernel
theorem dOM_24 : decode prog_36_method_6_code 24 = .ok (.invokespecial 42, 3) := by decide +kernel
theorem dOM_27 : decode prog_36_method_6_code 27 = .ok (.ldc 45, 2) := by decide +kernel
theorem dOM_29 : decode prog_36_method_6_code 29 = .ok (.invokevirtual 47, 3) := by decide +kernel
theorem dOM_32 : decode prog_36_method_6_code 32 = .ok (.aload 4, 2) := by decide +kernel
theorem dOM_34 : decode prog_36_method_6_code 34 = .ok (.getfield 32, 3) := by decide +kernel
theorem dOM_37 : decode prog_36_method_6_code 37 = .ok (.invokevirtual 47, 3) := by decide +kernel
theorem dOM_40 : decode prog_36_method_6_code 40 = .ok (.invokevirtual 51, 3) := by decide +kernel
theorem dOM_43 : decode prog_36_method_6_code 43 = .ok (.invokevirtual 55, 3) := by decide +kernel
theorem dOM_46 : decode prog_36_method_6_code 46 = .ok (.ifCond .eq 6, 3) := by decide +kernel
theorem dOM_49 : decode prog_36_method_6_code 49 = .ok (.aload 4, 2) := by decide +kernel
theorem dOM_51 : decode prog_36_method_6_code 51 = .ok (.areturn, 1) := by decide +kernel
theorem dOM_52 : decode prog_36_method_6_code 52 = .ok (.iinc 3 1, 3) := by decide +kernel
theorem dOM_55 : decode prog_36_method_6_code 55 = .ok (.goto (-46), 3) := by decide +kernel
theorem dOM_58 : decode prog_36_method_6_code 58 = .ok (.aconst_null, 1) := by decide +kernel
theorem dOM_59 : decode prog_36_method_6_code 59 = .ok (.areturn, 1) := by decide +kernel
set_option maxRecDepth 65536 in
set_option maxHeartbeats 40000000 in
theorem own_om (l : Launch) (Z : State) (a0 : Array Value) (hw : ∀ d ∈ tables_1, d.before a0 Z = true) (EL : List (String × Nat)) (hEL : EW Z a0 EL) (h0 : Heap) (vv f0 f1 f2 : Addr) (kv : ClassId) (P : own_SF Z vv f0 f1 f2 kv) (m : Addr) (bs : List Int32) (G : Str Z h0 m bs) (hm : ("com/example/research_api_client/researchapiclient/lotus/LineCheck$Status", 45) ∈ EL) (hL : EWn Z a0 EL 16) (cz : Int32) (O : Sta Z Z.heap "java/lang/String" "COMPACT_STRINGS" "Z" (.int cz)) (hO : ¬ cz = 0) :
    Con l Z EL false [] (⟨"com/example/research_api_client/researchapiclient/lotus/LineCheck$Status", "ofMember", "(Ljava/lang/String;)Lcom/example/research_api_client/researchapiclient/lotus/LineCheck$Status;"⟩ : MethodName) prog_36_method_6_code 5 (some (.object "com/example/research_api_client/researchapiclient/lotus/LineCheck$Status")) ({ frames := 6, cells := 19, slots := 260, locals := 160 } : Room) #[(.ref m)] h0 (fun v h' => v = some (own_pick bs f0 f1 f2) ∧ Ext h0 h') := by
  have wS : ∀ a ∈ Bundle.stringAtoms, a.before a0 Z = true := fun d hd => hw d ((by decide +kernel : ∀ d ∈ Bundle.stringAtoms, d ∈ tables_1) d hd)
  refine Con.of (Ls := #[.val (.ref m), .unset, .unset, .unset, .unset]) (plainFor_of_name own_pn5) hEL (fun m => by first | (simp [entryFrame, mkF, argsToLocals, Value.category]; done) | rfl) ?_
  intro vm0 hZ0 hE0 hC0 hS0
  obtain ⟨p1, p2, p3, ⟨-, -, s0, p40, p41⟩, ⟨-, -, s1, p50, p51⟩, ⟨-, -, s2, p60, p61⟩⟩ := id P
  refine WP.callS (n := 3) (ce' := 1) (sl' := 3) (Wd := 0) (argsL := []) (rest := []) (own_vals l Z a0 hw EL hEL h0 vv f0 f1 f2 kv P) dOM_0 (hw _ (List.mem_of_getElem? (i := 39) rfl)) (hw _ (List.mem_of_getElem? (i := 40) rfl)) (hw _ (List.mem_of_getElem? (i := 37) rfl)) (hw _ (List.mem_of_getElem? (i := 41) rfl)) (by decide) (fun _ q => nomatch q) (by decide) (by decide) rfl rfl (by decide) (by decide) rfl rfl (lenOf own_pd16 rfl) rfl (Nat.le_of_eq rfl) rfl (fun v39 vm39 h39 q39 r39 => ?_)
  obtain ⟨b39, rfl, V39, E39⟩ := q39
  refine WP.astoreN (n := 4) (Ls' := #[.val (.ref m), .val (.ref b39), .unset, .unset, .unset]) dOM_3 rfl rfl rfl ?_
  refine WP.aloadN (n := 5) dOM_4 rfl rfl rfl ?_
  refine WP.alen (n := 6) dOM_5 V39 rfl ?_
  refine WP.istoreN (n := 7) (Ls' := #[.val (.ref m), .val (.ref b39), .val (.int (3 : Int32)), .unset, .unset]) dOM_6 rfl rfl ?_
  refine WP.iconst (n := 8) (z := (0 : Int32)) dOM_7 rfl rfl ?_
  refine WP.istoreN (n := 9) (Ls' := #[.val (.ref m), .val (.ref b39), .val (.int (3 : Int32)), .val (.int (0 : Int32)), .unset]) dOM_8 rfl rfl ?_
  refine WP.iloadN (n := 10) dOM_9 rfl rfl ?_
  refine WP.iloadN (n := 11) dOM_10 rfl rfl ?_
  refine WP.icmpN (n' := 14) dOM_11 (by decide) rfl ?_
  refine WP.aloadN (n := 15) dOM_14 rfl rfl rfl ?_
  refine WP.iloadN (n := 16) dOM_15 rfl rfl ?_
  refine WP.aaload (n := 17) (v := .ref f0) dOM_16 V39 rfl (by decide) rfl rfl ?_
  refine WP.astore (n := 19) (Ls' := #[.val (.ref m), .val (.ref b39), .val (.int (3 : Int32)), .val (.int (0 : Int32)), .val (.ref f0)]) dOM_17 rfl rfl rfl ?_
  refine WP.aloadN (n := 20) dOM_19 rfl rfl rfl ?_
  refine WP.new (n := 23) (ce' := 2) (sl' := 7) dOM_20 (hw _ (List.mem_of_getElem? (i := 57) rfl)) (hw _ (List.mem_of_getElem? (i := 58) rfl)) (hw _ (List.mem_of_getElem? (i := 59) rfl)) rfl rfl (by decide) (by decide) rfl (fun a40 h40 g40 E40 A40 D40 S40 N40 r40 => ?_)
  refine WP.dup (n := 24) dOM_23 rfl rfl ?_
  refine WP.callP (n := 27) (ce' := 3) (sl' := 23) (Wd := 2) (a := a40) (argsL := []) (rest := [(.ref a40), (.ref m)]) (own_sbi l Z a0 hw EL hEL h40 a40 N40 A40 (D40 (Or.inl (hw _ (List.mem_of_getElem? (i := 72) rfl))) (ty := (.array .byte)) (by decide)) (D40 (Or.inl (hw _ (List.mem_of_getElem? (i := 74) rfl))) (ty := .byte) (by decide)) (D40 (Or.inl (hw _ (List.mem_of_getElem? (i := 99) rfl))) (ty := .int) (by decide)) cz O hO) dOM_24 rfl (hw _ (List.mem_of_getElem? (i := 60) rfl)) (hw _ (List.mem_of_getElem? (i := 61) rfl)) (hw _ (List.mem_of_getElem? (i := 59) rfl)) (hw _ (List.mem_of_getElem? (i := 62) rfl)) (by decide) (fun _ q => nomatch q) (by decide) (by decide) rfl rfl (by decide) (by decide) rfl rfl (lenOf own_pd17 rfl) rfl (Nat.le_of_eq rfl) rfl (fun v41 vm41 h41 q41 r41 => ?_)
  obtain ⟨rfl, K41, x41, n41, F41⟩ := q41
  have EX41 := ext_keep1 E40 K41 (Nat.le_of_eq g40.symm)
  have m41 : Array.size h39 ≤ x41 := Nat.le_trans E40.1 n41
  refine WP.ldcC (n := 29) (nn := 16) (ce' := 5) (sl' := 43) (vs := ([112, 105, 100, 95] : List Int32).map Value.int) (z := 4) dOM_27 rfl (hw _ (List.mem_of_getElem? (i := 75) rfl)) wS hm ⟨by decide, by decide⟩ (by decide) rfl (by decide) (by decide) rfl rfl (by decide) (by decide) hEL rfl (fun a42 b42 k42 vm42 h42 E42 r42 X42 C42 V42 B42 L42 N42 => ?_)
  have F42 : Str Z h42 a42 [112, 105, 100, 95] := ⟨X42, C42, b42, k42, 4, V42, B42, rfl⟩
  refine WP.callV (n := 32) (ce' := 5) (sl' := 43) (Wd := 1) (a := a40) (argsL := [(.ref a42)]) (rest := [(.ref m)]) (own_sapp l Z a0 hw EL hEL h42 a40 x41 [] (F41.ext E42) a42 [112, 105, 100, 95] F42 (by decide) hL cz O hO) (F41.ext E42).1 dOM_29 (hw _ (List.mem_of_getElem? (i := 78) rfl)) (hw _ (List.mem_of_getElem? (i := 79) rfl)) (hw _ (List.mem_of_getElem? (i := 81) rfl)) (hw _ (List.mem_of_getElem? (i := 80) rfl)) (hw _ (List.mem_of_getElem? (i := 59) rfl)) (hw _ (List.mem_of_getElem? (i := 82) rfl)) (by decide) (fun _ hz => notFace_of_selects (args := #[]) (mvT hz (hw _ (List.mem_of_getElem? (i := 81) rfl)))) (fun _ q => nomatch q) (by decide) (by decide) rfl rfl (by decide) (by decide) rfl rfl (lenOf own_pd18 rfl) rfl (Nat.le_of_eq rfl) rfl (fun v43 vm43 h43 q43 r43 => ?_)
  obtain ⟨rfl, K43, F43⟩ := q43
  have F43_ : SBf Z h43 a40 x41 [112, 105, 100, 95] := F43
  have EX43 := ext_keep (ext_trans EX41 E42) K43 (own_mem2 m41 (Nat.le_of_eq g40.symm))
  refine WP.aload (n := 34) dOM_32 rfl rfl rfl ?_
  refine WP.inv fun hZ44 hE44 hC44 => ?_
  refine WP.getF (n := 37) (host := "") dOM_34 (Or.inl (hw _ (List.mem_of_getElem? (i := 125) rfl))) Via.refl (p40.ext hE44) rfl ?_
  refine WP.callV (n := 40) (ce' := 5) (sl' := 43) (Wd := 1) (a := a40) (argsL := [(.ref s0)]) (rest := [(.ref m)]) (own_sapp l Z a0 hw EL hEL h43 a40 x41 [112, 105, 100, 95] F43_ s0 [102, 111, 117, 110, 100] (p41.ext hE44) (by decide) hL cz O hO) F43_.1 dOM_37 (hw _ (List.mem_of_getElem? (i := 78) rfl)) (hw _ (List.mem_of_getElem? (i := 79) rfl)) (hw _ (List.mem_of_getElem? (i := 81) rfl)) (hw _ (List.mem_of_getElem? (i := 80) rfl)) (hw _ (List.mem_of_getElem? (i := 59) rfl)) (hw _ (List.mem_of_getElem? (i := 82) rfl)) (by decide) (fun _ hz => notFace_of_selects (args := #[]) (mvT hz (hw _ (List.mem_of_getElem? (i := 81) rfl)))) (fun _ q => nomatch q) (by decide) (by decide) rfl rfl (by decide) (by decide) rfl rfl (lenOf own_pd18 rfl) rfl (Nat.le_of_eq rfl) rfl (fun v45 vm45 h45 q45 r45 => ?_)
  obtain ⟨rfl, K45, F45⟩ := q45
  have F45_ : SBf Z h45 a40 x41 [112, 105, 100, 95, 102, 111, 117, 110, 100] := F45
  have EX45 := ext_keep EX43 K45 (own_mem2 m41 (Nat.le_of_eq g40.symm))
  refine WP.callV (n := 43) (ce' := 7) (sl' := 63) (Wd := 1) (a := a40) (argsL := []) (rest := [(.ref m)]) (own_ts l Z a0 hw EL hEL h45 a40 x41 [112, 105, 100, 95, 102, 111, 117, 110, 100] F45_ (by decide) cz O hO) F45_.1 dOM_40 (hw _ (List.mem_of_getElem? (i := 127) rfl)) (hw _ (List.mem_of_getElem? (i := 128) rfl)) (hw _ (List.mem_of_getElem? (i := 130) rfl)) (hw _ (List.mem_of_getElem? (i := 129) rfl)) (hw _ (List.mem_of_getElem? (i := 59) rfl)) (hw _ (List.mem_of_getElem? (i := 131) rfl)) (by decide) (fun _ hz => notFace_of_selects (args := #[]) (mvT hz (hw _ (List.mem_of_getElem? (i := 130) rfl)))) (fun _ q => nomatch q) (by decide) (by decide) rfl rfl (by decide) (by decide) rfl rfl (lenOf own_pd19 rfl) rfl (Nat.le_of_eq rfl) rfl (fun v46 vm46 h46 q46 r46 => ?_)
  obtain ⟨y46, rfl, F46, E46⟩ := q46
  refine WP.callV (n := 46) (ce' := 7) (sl' := 63) (Wd := 0) (a := m) (argsL := [(.ref y46)]) (rest := []) (own_seq l Z a0 hw EL hEL h46 m y46 bs [112, 105, 100, 95, 102, 111, 117, 110, 100] (G.ext (ext_trans E39 (ext_trans EX45 E46))) F46 cz O hO) (G.ext (ext_trans E39 (ext_trans EX45 E46))).1 dOM_43 (hw _ (List.mem_of_getElem? (i := 172) rfl)) (hw _ (List.mem_of_getElem? (i := 173) rfl)) (hw _ (List.mem_of_getElem? (i := 175) rfl)) (hw _ (List.mem_of_getElem? (i := 174) rfl)) (hw _ (List.mem_of_getElem? (i := 8) rfl)) (hw _ (List.mem_of_getElem? (i := 176) rfl)) (by decide) (fun _ hz => notFace_of_selects (args := #[]) (mvT hz (hw _ (List.mem_of_getElem? (i := 175) rfl)))) (fun _ q => nomatch q) (by decide) (by decide) rfl rfl (by decide) (by decide) rfl rfl (lenOf own_pd20 rfl) rfl (Nat.le_of_eq rfl) rfl (fun v47 vm47 h47 q47 r47 => ?_)
  obtain ⟨rfl, rfl⟩ := q47
  by_cases hb0 : bs = [112, 105, 100, 95, 102, 111, 117, 110, 100]
  · rw [if_pos hb0]
    refine WP.ifcN (n' := 49) dOM_46 (by decide) rfl ?_
    refine WP.aload (n := 51) dOM_49 rfl rfl rfl ?_
    exact WP.retA dOM_51 rfl rfl rfl rfl (by decide) (by decide) ⟨by unfold own_pick own_P0 own_P1 own_P2; rw [if_pos hb0], (ext_trans E39 (ext_trans EX45 E46))⟩
  · rw [if_neg hb0]
    refine WP.ifcY (n := 52) dOM_46 (by decide) (by decide) (by decide) ?_
    refine WP.iinc (n := 55) (z := (1 : Int32)) (Ls' := #[.val (.ref m), .val (.ref b39), .val (.int (3 : Int32)), .val (.int (1 : Int32)), .val (.ref f0)]) dOM_52 rfl (by decide) rfl rfl ?_
    refine WP.goto (n := 9) dOM_55 (by decide) (by decide) ?_
    refine WP.iloadN (n := 10) dOM_9 rfl rfl ?_
    refine WP.iloadN (n := 11) dOM_10 rfl rfl ?_
    refine WP.icmpN (n' := 14) dOM_11 (by decide) rfl ?_
    refine WP.aloadN (n := 15) dOM_14 rfl rfl rfl ?_
    refine WP.iloadN (n := 16) dOM_15 rfl rfl ?_
    refine WP.aaload (n := 17) (v := .ref f1) dOM_16 (V39.ext (ext_trans EX45 E46)) rfl (by decide) rfl rfl ?_
    refine WP.astore (n := 19) (Ls' := #[.val (.ref m), .val (.ref b39), .val (.int (3 : Int32)), .val (.int (1 : Int32)), .val (.ref f1)]) dOM_17 rfl rfl rfl ?_
    refine WP.aloadN (n := 20) dOM_19 rfl rfl rfl ?_
    refine WP.new (n := 23) (ce' := 8) (sl' := 67) dOM_20 (hw _ (List.mem_of_getElem? (i := 57) rfl)) (hw _ (List.mem_of_getElem? (i := 58) rfl)) (hw _ (List.mem_of_getElem? (i := 59) rfl)) rfl rfl (by decide) (by decide) rfl (fun a48 h48 g48 E48 A48 D48 S48 N48 r48 => ?_)
    refine WP.dup (n := 24) dOM_23 rfl rfl ?_
    refine WP.callP (n := 27) (ce' := 9) (sl' := 83) (Wd := 2) (a := a48) (argsL := []) (rest := [(.ref a48), (.ref m)]) (own_sbi l Z a0 hw EL hEL h48 a48 N48 A48 (D48 (Or.inl (hw _ (List.mem_of_getElem? (i := 72) rfl))) (ty := (.array .byte)) (by decide)) (D48 (Or.inl (hw _ (List.mem_of_getElem? (i := 74) rfl))) (ty := .byte) (by decide)) (D48 (Or.inl (hw _ (List.mem_of_getElem? (i := 99) rfl))) (ty := .int) (by decide)) cz O hO) dOM_24 rfl (hw _ (List.mem_of_getElem? (i := 60) rfl)) (hw _ (List.mem_of_getElem? (i := 61) rfl)) (hw _ (List.mem_of_getElem? (i := 59) rfl)) (hw _ (List.mem_of_getElem? (i := 62) rfl)) (by decide) (fun _ q => nomatch q) (by decide) (by decide) rfl rfl (by decide) (by decide) rfl rfl (lenOf own_pd17 rfl) rfl (Nat.le_of_eq rfl) rfl (fun v49 vm49 h49 q49 r49 => ?_)
    obtain ⟨rfl, K49, x49, n49, F49⟩ := q49
    have EX49 := ext_keep1 E48 K49 (Nat.le_of_eq g48.symm)
    have m49 : Array.size h46 ≤ x49 := Nat.le_trans E48.1 n49
    refine WP.ldcC (n := 29) (nn := 16) (ce' := 11) (sl' := 103) (vs := ([112, 105, 100, 95] : List Int32).map Value.int) (z := 4) dOM_27 rfl (hw _ (List.mem_of_getElem? (i := 75) rfl)) wS hm ⟨by decide, by decide⟩ (by decide) rfl (by decide) (by decide) rfl rfl (by decide) (by decide) hEL rfl (fun a50 b50 k50 vm50 h50 E50 r50 X50 C50 V50 B50 L50 N50 => ?_)
    have F50 : Str Z h50 a50 [112, 105, 100, 95] := ⟨X50, C50, b50, k50, 4, V50, B50, rfl⟩
    refine WP.callV (n := 32) (ce' := 11) (sl' := 103) (Wd := 1) (a := a48) (argsL := [(.ref a50)]) (rest := [(.ref m)]) (own_sapp l Z a0 hw EL hEL h50 a48 x49 [] (F49.ext E50) a50 [112, 105, 100, 95] F50 (by decide) hL cz O hO) (F49.ext E50).1 dOM_29 (hw _ (List.mem_of_getElem? (i := 78) rfl)) (hw _ (List.mem_of_getElem? (i := 79) rfl)) (hw _ (List.mem_of_getElem? (i := 81) rfl)) (hw _ (List.mem_of_getElem? (i := 80) rfl)) (hw _ (List.mem_of_getElem? (i := 59) rfl)) (hw _ (List.mem_of_getElem? (i := 82) rfl)) (by decide) (fun _ hz => notFace_of_selects (args := #[]) (mvT hz (hw _ (List.mem_of_getElem? (i := 81) rfl)))) (fun _ q => nomatch q) (by decide) (by decide) rfl rfl (by decide) (by decide) rfl rfl (lenOf own_pd18 rfl) rfl (Nat.le_of_eq rfl) rfl (fun v51 vm51 h51 q51 r51 => ?_)
    obtain ⟨rfl, K51, F51⟩ := q51
    have F51_ : SBf Z h51 a48 x49 [112, 105, 100, 95] := F51
    have EX51 := ext_keep (ext_trans EX49 E50) K51 (own_mem2 m49 (Nat.le_of_eq g48.symm))
    refine WP.aload (n := 34) dOM_32 rfl rfl rfl ?_
    refine WP.inv fun hZ52 hE52 hC52 => ?_
    refine WP.getF (n := 37) (host := "") dOM_34 (Or.inl (hw _ (List.mem_of_getElem? (i := 125) rfl))) Via.refl (p50.ext hE52) rfl ?_
    refine WP.callV (n := 40) (ce' := 11) (sl' := 103) (Wd := 1) (a := a48) (argsL := [(.ref s1)]) (rest := [(.ref m)]) (own_sapp l Z a0 hw EL hEL h51 a48 x49 [112, 105, 100, 95] F51_ s1 [110, 111, 116, 70, 111, 117, 110, 100] (p51.ext hE52) (by decide) hL cz O hO) F51_.1 dOM_37 (hw _ (List.mem_of_getElem? (i := 78) rfl)) (hw _ (List.mem_of_getElem? (i := 79) rfl)) (hw _ (List.mem_of_getElem? (i := 81) rfl)) (hw _ (List.mem_of_getElem? (i := 80) rfl)) (hw _ (List.mem_of_getElem? (i := 59) rfl)) (hw _ (List.mem_of_getElem? (i := 82) rfl)) (by decide) (fun _ hz => notFace_of_selects (args := #[]) (mvT hz (hw _ (List.mem_of_getElem? (i := 81) rfl)))) (fun _ q => nomatch q) (by decide) (by decide) rfl rfl (by decide) (by decide) rfl rfl (lenOf own_pd18 rfl) rfl (Nat.le_of_eq rfl) rfl (fun v53 vm53 h53 q53 r53 => ?_)
    obtain ⟨rfl, K53, F53⟩ := q53
    have F53_ : SBf Z h53 a48 x49 [112, 105, 100, 95, 110, 111, 116, 70, 111, 117, 110, 100] := F53
    have EX53 := ext_keep EX51 K53 (own_mem2 m49 (Nat.le_of_eq g48.symm))
    refine WP.callV (n := 43) (ce' := 13) (sl' := 123) (Wd := 1) (a := a48) (argsL := []) (rest := [(.ref m)]) (own_ts l Z a0 hw EL hEL h53 a48 x49 [112, 105, 100, 95, 110, 111, 116, 70, 111, 117, 110, 100] F53_ (by decide) cz O hO) F53_.1 dOM_40 (hw _ (List.mem_of_getElem? (i := 127) rfl)) (hw _ (List.mem_of_getElem? (i := 128) rfl)) (hw _ (List.mem_of_getElem? (i := 130) rfl)) (hw _ (List.mem_of_getElem? (i := 129) rfl)) (hw _ (List.mem_of_getElem? (i := 59) rfl)) (hw _ (List.mem_of_getElem? (i := 131) rfl)) (by decide) (fun _ hz => notFace_of_selects (args := #[]) (mvT hz (hw _ (List.mem_of_getElem? (i := 130) rfl)))) (fun _ q => nomatch q) (by decide) (by decide) rfl rfl (by decide) (by decide) rfl rfl (lenOf own_pd19 rfl) rfl (Nat.le_of_eq rfl) rfl (fun v54 vm54 h54 q54 r54 => ?_)
    obtain ⟨y54, rfl, F54, E54⟩ := q54
    refine WP.callV (n := 46) (ce' := 13) (sl' := 123) (Wd := 0) (a := m) (argsL := [(.ref y54)]) (rest := []) (own_seq l Z a0 hw EL hEL h54 m y54 bs [112, 105, 100, 95, 110, 111, 116, 70, 111, 117, 110, 100] (G.ext (ext_trans E39 (ext_trans EX45 (ext_trans E46 (ext_trans EX53 E54))))) F54 cz O hO) (G.ext (ext_trans E39 (ext_trans EX45 (ext_trans E46 (ext_trans EX53 E54))))).1 dOM_43 (hw _ (List.mem_of_getElem? (i := 172) rfl)) (hw _ (List.mem_of_getElem? (i := 173) rfl)) (hw _ (List.mem_of_getElem? (i := 175) rfl)) (hw _ (List.mem_of_getElem? (i := 174) rfl)) (hw _ (List.mem_of_getElem? (i := 8) rfl)) (hw _ (List.mem_of_getElem? (i := 176) rfl)) (by decide) (fun _ hz => notFace_of_selects (args := #[]) (mvT hz (hw _ (List.mem_of_getElem? (i := 175) rfl)))) (fun _ q => nomatch q) (by decide) (by decide) rfl rfl (by decide) (by decide) rfl rfl (lenOf own_pd20 rfl) rfl (Nat.le_of_eq rfl) rfl (fun v55 vm55 h55 q55 r55 => ?_)
    obtain ⟨rfl, rfl⟩ := q55
    by_cases hb1 : bs = [112, 105, 100, 95, 110, 111, 116, 70, 111, 117, 110, 100]
    · rw [if_pos hb1]
      refine WP.ifcN (n' := 49) dOM_46 (by decide) rfl ?_
      refine WP.aload (n := 51) dOM_49 rfl rfl rfl ?_
      exact WP.retA dOM_51 rfl rfl rfl rfl (by decide) (by decide) ⟨by unfold own_pick own_P0 own_P1 own_P2; rw [if_neg hb0, if_pos hb1], (ext_trans E39 (ext_trans EX45 (ext_trans E46 (ext_trans EX53 E54))))⟩
    · rw [if_neg hb1]
      refine WP.ifcY (n := 52) dOM_46 (by decide) (by decide) (by decide) ?_
      refine WP.iinc (n := 55) (z := (2 : Int32)) (Ls' := #[.val (.ref m), .val (.ref b39), .val (.int (3 : Int32)), .val (.int (2 : Int32)), .val (.ref f1)]) dOM_52 rfl (by decide) rfl rfl ?_
      refine WP.goto (n := 9) dOM_55 (by decide) (by decide) ?_
      refine WP.iloadN (n := 10) dOM_9 rfl rfl ?_
      refine WP.iloadN (n := 11) dOM_10 rfl rfl ?_
      refine WP.icmpN (n' := 14) dOM_11 (by decide) rfl ?_
      refine WP.aloadN (n := 15) dOM_14 rfl rfl rfl ?_
      refine WP.iloadN (n := 16) dOM_15 rfl rfl ?_
      refine WP.aaload (n := 17) (v := .ref f2) dOM_16 (V39.ext (ext_trans EX45 (ext_trans E46 (ext_trans EX53 E54)))) rfl (by decide) rfl rfl ?_
      refine WP.astore (n := 19) (Ls' := #[.val (.ref m), .val (.ref b39), .val (.int (3 : Int32)), .val (.int (2 : Int32)), .val (.ref f2)]) dOM_17 rfl rfl rfl ?_
      refine WP.aloadN (n := 20) dOM_19 rfl rfl rfl ?_
      refine WP.new (n := 23) (ce' := 14) (sl' := 127) dOM_20 (hw _ (List.mem_of_getElem? (i := 57) rfl)) (hw _ (List.mem_of_getElem? (i := 58) rfl)) (hw _ (List.mem_of_getElem? (i := 59) rfl)) rfl rfl (by decide) (by decide) rfl (fun a56 h56 g56 E56 A56 D56 S56 N56 r56 => ?_)
      refine WP.dup (n := 24) dOM_23 rfl rfl ?_
      refine WP.callP (n := 27) (ce' := 15) (sl' := 143) (Wd := 2) (a := a56) (argsL := []) (rest := [(.ref a56), (.ref m)]) (own_sbi l Z a0 hw EL hEL h56 a56 N56 A56 (D56 (Or.inl (hw _ (List.mem_of_getElem? (i := 72) rfl))) (ty := (.array .byte)) (by decide)) (D56 (Or.inl (hw _ (List.mem_of_getElem? (i := 74) rfl))) (ty := .byte) (by decide)) (D56 (Or.inl (hw _ (List.mem_of_getElem? (i := 99) rfl))) (ty := .int) (by decide)) cz O hO) dOM_24 rfl (hw _ (List.mem_of_getElem? (i := 60) rfl)) (hw _ (List.mem_of_getElem? (i := 61) rfl)) (hw _ (List.mem_of_getElem? (i := 59) rfl)) (hw _ (List.mem_of_getElem? (i := 62) rfl)) (by decide) (fun _ q => nomatch q) (by decide) (by decide) rfl rfl (by decide) (by decide) rfl rfl (lenOf own_pd17 rfl) rfl (Nat.le_of_eq rfl) rfl (fun v57 vm57 h57 q57 r57 => ?_)
      obtain ⟨rfl, K57, x57, n57, F57⟩ := q57
      have EX57 := ext_keep1 E56 K57 (Nat.le_of_eq g56.symm)
      have m57 : Array.size h54 ≤ x57 := Nat.le_trans E56.1 n57
      refine WP.ldcC (n := 29) (nn := 16) (ce' := 17) (sl' := 163) (vs := ([112, 105, 100, 95] : List Int32).map Value.int) (z := 4) dOM_27 rfl (hw _ (List.mem_of_getElem? (i := 75) rfl)) wS hm ⟨by decide, by decide⟩ (by decide) rfl (by decide) (by decide) rfl rfl (by decide) (by decide) hEL rfl (fun a58 b58 k58 vm58 h58 E58 r58 X58 C58 V58 B58 L58 N58 => ?_)
      have F58 : Str Z h58 a58 [112, 105, 100, 95] := ⟨X58, C58, b58, k58, 4, V58, B58, rfl⟩
      refine WP.callV (n := 32) (ce' := 17) (sl' := 163) (Wd := 1) (a := a56) (argsL := [(.ref a58)]) (rest := [(.ref m)]) (own_sapp l Z a0 hw EL hEL h58 a56 x57 [] (F57.ext E58) a58 [112, 105, 100, 95] F58 (by decide) hL cz O hO) (F57.ext E58).1 dOM_29 (hw _ (List.mem_of_getElem? (i := 78) rfl)) (hw _ (List.mem_of_getElem? (i := 79) rfl)) (hw _ (List.mem_of_getElem? (i := 81) rfl)) (hw _ (List.mem_of_getElem? (i := 80) rfl)) (hw _ (List.mem_of_getElem? (i := 59) rfl)) (hw _ (List.mem_of_getElem? (i := 82) rfl)) (by decide) (fun _ hz => notFace_of_selects (args := #[]) (mvT hz (hw _ (List.mem_of_getElem? (i := 81) rfl)))) (fun _ q => nomatch q) (by decide) (by decide) rfl rfl (by decide) (by decide) rfl rfl (lenOf own_pd18 rfl) rfl (Nat.le_of_eq rfl) rfl (fun v59 vm59 h59 q59 r59 => ?_)
      obtain ⟨rfl, K59, F59⟩ := q59
      have F59_ : SBf Z h59 a56 x57 [112, 105, 100, 95] := F59
      have EX59 := ext_keep (ext_trans EX57 E58) K59 (own_mem2 m57 (Nat.le_of_eq g56.symm))
      refine WP.aload (n := 34) dOM_32 rfl rfl rfl ?_
      refine WP.inv fun hZ60 hE60 hC60 => ?_
      refine WP.getF (n := 37) (host := "") dOM_34 (Or.inl (hw _ (List.mem_of_getElem? (i := 125) rfl))) Via.refl (p60.ext hE60) rfl ?_
      refine WP.callV (n := 40) (ce' := 17) (sl' := 163) (Wd := 1) (a := a56) (argsL := [(.ref s2)]) (rest := [(.ref m)]) (own_sapp l Z a0 hw EL hEL h59 a56 x57 [112, 105, 100, 95] F59_ s2 [105, 110, 118, 97, 108, 105, 100] (p61.ext hE60) (by decide) hL cz O hO) F59_.1 dOM_37 (hw _ (List.mem_of_getElem? (i := 78) rfl)) (hw _ (List.mem_of_getElem? (i := 79) rfl)) (hw _ (List.mem_of_getElem? (i := 81) rfl)) (hw _ (List.mem_of_getElem? (i := 80) rfl)) (hw _ (List.mem_of_getElem? (i := 59) rfl)) (hw _ (List.mem_of_getElem? (i := 82) rfl)) (by decide) (fun _ hz => notFace_of_selects (args := #[]) (mvT hz (hw _ (List.mem_of_getElem? (i := 81) rfl)))) (fun _ q => nomatch q) (by decide) (by decide) rfl rfl (by decide) (by decide) rfl rfl (lenOf own_pd18 rfl) rfl (Nat.le_of_eq rfl) rfl (fun v61 vm61 h61 q61 r61 => ?_)
      obtain ⟨rfl, K61, F61⟩ := q61
      have F61_ : SBf Z h61 a56 x57 [112, 105, 100, 95, 105, 110, 118, 97, 108, 105, 100] := F61
      have EX61 := ext_keep EX59 K61 (own_mem2 m57 (Nat.le_of_eq g56.symm))
      refine WP.callV (n := 43) (ce' := 19) (sl' := 183) (Wd := 1) (a := a56) (argsL := []) (rest := [(.ref m)]) (own_ts l Z a0 hw EL hEL h61 a56 x57 [112, 105, 100, 95, 105, 110, 118, 97, 108, 105, 100] F61_ (by decide) cz O hO) F61_.1 dOM_40 (hw _ (List.mem_of_getElem? (i := 127) rfl)) (hw _ (List.mem_of_getElem? (i := 128) rfl)) (hw _ (List.mem_of_getElem? (i := 130) rfl)) (hw _ (List.mem_of_getElem? (i := 129) rfl)) (hw _ (List.mem_of_getElem? (i := 59) rfl)) (hw _ (List.mem_of_getElem? (i := 131) rfl)) (by decide) (fun _ hz => notFace_of_selects (args := #[]) (mvT hz (hw _ (List.mem_of_getElem? (i := 130) rfl)))) (fun _ q => nomatch q) (by decide) (by decide) rfl rfl (by decide) (by decide) rfl rfl (lenOf own_pd19 rfl) rfl (Nat.le_of_eq rfl) rfl (fun v62 vm62 h62 q62 r62 => ?_)
      obtain ⟨y62, rfl, F62, E62⟩ := q62
      refine WP.callV (n := 46) (ce' := 19) (sl' := 183) (Wd := 0) (a := m) (argsL := [(.ref y62)]) (rest := []) (own_seq l Z a0 hw EL hEL h62 m y62 bs [112, 105, 100, 95, 105, 110, 118, 97, 108, 105, 100] (G.ext (ext_trans E39 (ext_trans EX45 (ext_trans E46 (ext_trans EX53 (ext_trans E54 (ext_trans EX61 E62))))))) F62 cz O hO) (G.ext (ext_trans E39 (ext_trans EX45 (ext_trans E46 (ext_trans EX53 (ext_trans E54 (ext_trans EX61 E62))))))).1 dOM_43 (hw _ (List.mem_of_getElem? (i := 172) rfl)) (hw _ (List.mem_of_getElem? (i := 173) rfl)) (hw _ (List.mem_of_getElem? (i := 175) rfl)) (hw _ (List.mem_of_getElem? (i := 174) rfl)) (hw _ (List.mem_of_getElem? (i := 8) rfl)) (hw _ (List.mem_of_getElem? (i := 176) rfl)) (by decide) (fun _ hz => notFace_of_selects (args := #[]) (mvT hz (hw _ (List.mem_of_getElem? (i := 175) rfl)))) (fun _ q => nomatch q) (by decide) (by decide) rfl rfl (by decide) (by decide) rfl rfl (lenOf own_pd20 rfl) rfl (Nat.le_of_eq rfl) rfl (fun v63 vm63 h63 q63 r63 => ?_)
      obtain ⟨rfl, rfl⟩ := q63
      by_cases hb2 : bs = [112, 105, 100, 95, 105, 110, 118, 97, 108, 105, 100]
      · rw [if_pos hb2]
        refine WP.ifcN (n' := 49) dOM_46 (by decide) rfl ?_
        refine WP.aload (n := 51) dOM_49 rfl rfl rfl ?_
        exact WP.retA dOM_51 rfl rfl rfl rfl (by decide) (by decide) ⟨by unfold own_pick own_P0 own_P1 own_P2; rw [if_neg hb0, if_neg hb1, if_pos hb2], (ext_trans E39 (ext_trans EX45 (ext_trans E46 (ext_trans EX53 (ext_trans E54 (ext_trans EX61 E62))))))⟩
      · rw [if_neg hb2]
        refine WP.ifcY (n := 52) dOM_46 (by decide) (by decide) (by decide) ?_
        refine WP.iinc (n := 55) (z := (3 : Int32)) (Ls' := #[.val (.ref m), .val (.ref b39), .val (.int (3 : Int32)), .val (.int (3 : Int32)), .val (.ref f2)]) dOM_52 rfl (by decide) rfl rfl ?_
        refine WP.goto (n := 9) dOM_55 (by decide) (by decide) ?_
        refine WP.iloadN (n := 10) dOM_9 rfl rfl ?_
        refine WP.iloadN (n := 11) dOM_10 rfl rfl ?_
        refine WP.icmpY (n := 58) dOM_11 (by decide) (by decide) (by decide) ?_
        refine WP.aconstNull (n := 59) dOM_58  rfl ?_
        exact WP.retA dOM_59 rfl rfl rfl rfl (by decide) (by decide) ⟨by unfold own_pick own_P0 own_P1 own_P2; rw [if_neg hb0, if_neg hb1, if_neg hb2], (ext_trans E39 (ext_trans EX45 (ext_trans E46 (ext_trans EX53 (ext_trans E54 (ext_trans EX61 E62))))))⟩
theorem dEX_0 : decode method_3_code 0 = .ok (.aload_n 0, 1) := by decide +kernel
theorem dEX_1 : decode method_3_code 1 = .ok (.ldc 42, 2) := by decide +kernel
theorem dEX_3 : decode method_3_code 3 = .ok (.invokevirtual 44, 3) := by decide +kernel
theorem dEX_6 : decode method_3_code 6 = .ok (.ifCond .eq 7, 3) := by decide +kernel
theorem dEX_9 : decode method_3_code 9 = .ok (.getstatic 48, 3) := by decide +kernel
theorem dEX_12 : decode method_3_code 12 = .ok (.areturn, 1) := by decide +kernel
theorem dEX_13 : decode method_3_code 13 = .ok (.aload_n 0, 1) := by decide +kernel
theorem dEX_14 : decode method_3_code 14 = .ok (.ldc 52, 2) := by decide +kernel
theorem dEX_16 : decode method_3_code 16 = .ok (.invokevirtual 44, 3) := by decide +kernel
theorem dEX_19 : decode method_3_code 19 = .ok (.ifCond .eq 7, 3) := by decide +kernel
theorem dEX_22 : decode method_3_code 22 = .ok (.getstatic 54, 3) := by decide +kernel
theorem dEX_25 : decode method_3_code 25 = .ok (.areturn, 1) := by decide +kernel
theorem dEX_26 : decode method_3_code 26 = .ok (.aload_n 0, 1) := by decide +kernel
theorem dEX_27 : decode method_3_code 27 = .ok (.ldc 57, 2) := by decide +kernel
theorem dEX_29 : decode method_3_code 29 = .ok (.invokevirtual 44, 3) := by decide +kernel
theorem dEX_32 : decode method_3_code 32 = .ok (.ifCond .eq 7, 3) := by decide +kernel
theorem dEX_35 : decode method_3_code 35 = .ok (.getstatic 59, 3) := by decide +kernel
theorem dEX_38 : decode method_3_code 38 = .ok (.areturn, 1) := by decide +kernel
theorem dEX_39 : decode method_3_code 39 = .ok (.aconst_null, 1) := by decide +kernel
theorem dEX_40 : decode method_3_code 40 = .ok (.areturn, 1) := by decide +kernel
set_option maxRecDepth 65536 in
set_option maxHeartbeats 40000000 in
theorem own_ex (l : Launch) (Z : State) (a0 : Array Value) (hw : ∀ d ∈ tables_1, d.before a0 Z = true) (EL : List (String × Nat)) (hEL : EW Z a0 EL) (h0 : Heap) (vv f0 f1 f2 : Addr) (kv : ClassId) (P : own_SF Z vv f0 f1 f2 kv) (m : Addr) (bs : List Int32) (G : Str Z h0 m bs) (hm0 : ("com/example/research_api_client/researchapiclient/lotus/StatusOfMemberPinLaw", 42) ∈ EL) (hm1 : ("com/example/research_api_client/researchapiclient/lotus/StatusOfMemberPinLaw", 52) ∈ EL) (hm2 : ("com/example/research_api_client/researchapiclient/lotus/StatusOfMemberPinLaw", 57) ∈ EL) (cz : Int32) (O : Sta Z Z.heap "java/lang/String" "COMPACT_STRINGS" "Z" (.int cz)) (hO : ¬ cz = 0) :
    Con l Z EL false [] (⟨"com/example/research_api_client/researchapiclient/lotus/StatusOfMemberPinLaw", "expected", "(Ljava/lang/String;)Lcom/example/research_api_client/researchapiclient/lotus/LineCheck$Status;"⟩ : MethodName) method_3_code 1 (some (.object "com/example/research_api_client/researchapiclient/lotus/LineCheck$Status")) ({ frames := 2, cells := 6, slots := 140, locals := 40 } : Room) #[(.ref m)] h0 (fun v h' => v = some (own_pick bs f0 f1 f2) ∧ Ext h0 h') := by
  have wS : ∀ a ∈ Bundle.stringAtoms, a.before a0 Z = true := fun d hd => hw d ((by decide +kernel : ∀ d ∈ Bundle.stringAtoms, d ∈ tables_1) d hd)
  refine Con.of (Ls := #[.val (.ref m)]) (plainFor_of_name own_pn6) hEL (fun m => by first | (simp [entryFrame, mkF, argsToLocals, Value.category]; done) | rfl) ?_
  intro vm0 hZ0 hE0 hC0 hS0
  obtain ⟨p1, p2, p3, ⟨p4, -⟩, ⟨p5, -⟩, ⟨p6, -⟩⟩ := id P
  refine WP.aloadN (n := 1) dEX_0 rfl rfl rfl ?_
  refine WP.ldcC (n := 3) (nn := 36) (ce' := 2) (sl' := 40) (vs := ([112, 105, 100, 95, 102, 111, 117, 110, 100] : List Int32).map Value.int) (z := 9) dEX_1 rfl (hw _ (List.mem_of_getElem? (i := 185) rfl)) wS hm0 ⟨by decide, by decide⟩ (by decide) rfl (by decide) (by decide) rfl rfl (by decide) (by decide) hEL rfl (fun a64 b64 k64 vm64 h64 E64 r64 X64 C64 V64 B64 L64 N64 => ?_)
  have F64 : Str Z h64 a64 [112, 105, 100, 95, 102, 111, 117, 110, 100] := ⟨X64, C64, b64, k64, 9, V64, B64, rfl⟩
  refine WP.callV (n := 6) (ce' := 2) (sl' := 40) (Wd := 0) (a := m) (argsL := [(.ref a64)]) (rest := []) (own_seq l Z a0 hw EL hEL h64 m a64 bs own_P0 (G.ext E64) F64 cz O hO) (G.ext E64).1 dEX_3 (hw _ (List.mem_of_getElem? (i := 186) rfl)) (hw _ (List.mem_of_getElem? (i := 173) rfl)) (hw _ (List.mem_of_getElem? (i := 175) rfl)) (hw _ (List.mem_of_getElem? (i := 174) rfl)) (hw _ (List.mem_of_getElem? (i := 8) rfl)) (hw _ (List.mem_of_getElem? (i := 176) rfl)) (by decide) (fun _ hz => notFace_of_selects (args := #[]) (mvT hz (hw _ (List.mem_of_getElem? (i := 175) rfl)))) (fun _ q => nomatch q) (by decide) (by decide) rfl rfl (by decide) (by decide) rfl rfl (lenOf own_pd20 rfl) rfl (Nat.le_of_eq rfl) rfl (fun v65 vm65 h65 q65 r65 => ?_)
  obtain ⟨rfl, rfl⟩ := q65
  by_cases hb0 : bs = own_P0
  · rw [if_pos hb0]
    refine WP.ifcN (n' := 9) dEX_6 (by decide) rfl ?_
    refine WP.getSZ (n := 12) dEX_9 (hw _ (List.mem_of_getElem? (i := 201) rfl)) Via.refl p4 rfl ?_
    exact WP.retA dEX_12 rfl rfl rfl rfl (by decide) (by decide) ⟨by unfold own_pick; rw [if_pos hb0], E64⟩
  · rw [if_neg hb0]
    refine WP.ifcY (n := 13) dEX_6 (by decide) (by decide) (by decide) ?_
    refine WP.aloadN (n := 14) dEX_13 rfl rfl rfl ?_
    refine WP.ldcC (n := 16) (nn := 48) (ce' := 4) (sl' := 92) (vs := ([112, 105, 100, 95, 110, 111, 116, 70, 111, 117, 110, 100] : List Int32).map Value.int) (z := 12) dEX_14 rfl (hw _ (List.mem_of_getElem? (i := 187) rfl)) wS hm1 ⟨by decide, by decide⟩ (by decide) rfl (by decide) (by decide) rfl rfl (by decide) (by decide) hEL rfl (fun a66 b66 k66 vm66 h66 E66 r66 X66 C66 V66 B66 L66 N66 => ?_)
    have F66 : Str Z h66 a66 [112, 105, 100, 95, 110, 111, 116, 70, 111, 117, 110, 100] := ⟨X66, C66, b66, k66, 12, V66, B66, rfl⟩
    refine WP.callV (n := 19) (ce' := 4) (sl' := 92) (Wd := 0) (a := m) (argsL := [(.ref a66)]) (rest := []) (own_seq l Z a0 hw EL hEL h66 m a66 bs own_P1 (G.ext (ext_trans E64 E66)) F66 cz O hO) (G.ext (ext_trans E64 E66)).1 dEX_16 (hw _ (List.mem_of_getElem? (i := 186) rfl)) (hw _ (List.mem_of_getElem? (i := 173) rfl)) (hw _ (List.mem_of_getElem? (i := 175) rfl)) (hw _ (List.mem_of_getElem? (i := 174) rfl)) (hw _ (List.mem_of_getElem? (i := 8) rfl)) (hw _ (List.mem_of_getElem? (i := 176) rfl)) (by decide) (fun _ hz => notFace_of_selects (args := #[]) (mvT hz (hw _ (List.mem_of_getElem? (i := 175) rfl)))) (fun _ q => nomatch q) (by decide) (by decide) rfl rfl (by decide) (by decide) rfl rfl (lenOf own_pd20 rfl) rfl (Nat.le_of_eq rfl) rfl (fun v67 vm67 h67 q67 r67 => ?_)
    obtain ⟨rfl, rfl⟩ := q67
    by_cases hb1 : bs = own_P1
    · rw [if_pos hb1]
      refine WP.ifcN (n' := 22) dEX_19 (by decide) rfl ?_
      refine WP.getSZ (n := 25) dEX_22 (hw _ (List.mem_of_getElem? (i := 202) rfl)) Via.refl p5 rfl ?_
      exact WP.retA dEX_25 rfl rfl rfl rfl (by decide) (by decide) ⟨by unfold own_pick; rw [if_neg hb0, if_pos hb1], (ext_trans E64 E66)⟩
    · rw [if_neg hb1]
      refine WP.ifcY (n := 26) dEX_19 (by decide) (by decide) (by decide) ?_
      refine WP.aloadN (n := 27) dEX_26 rfl rfl rfl ?_
      refine WP.ldcC (n := 29) (nn := 44) (ce' := 6) (sl' := 140) (vs := ([112, 105, 100, 95, 105, 110, 118, 97, 108, 105, 100] : List Int32).map Value.int) (z := 11) dEX_27 rfl (hw _ (List.mem_of_getElem? (i := 188) rfl)) wS hm2 ⟨by decide, by decide⟩ (by decide) rfl (by decide) (by decide) rfl rfl (by decide) (by decide) hEL rfl (fun a68 b68 k68 vm68 h68 E68 r68 X68 C68 V68 B68 L68 N68 => ?_)
      have F68 : Str Z h68 a68 [112, 105, 100, 95, 105, 110, 118, 97, 108, 105, 100] := ⟨X68, C68, b68, k68, 11, V68, B68, rfl⟩
      refine WP.callV (n := 32) (ce' := 6) (sl' := 140) (Wd := 0) (a := m) (argsL := [(.ref a68)]) (rest := []) (own_seq l Z a0 hw EL hEL h68 m a68 bs own_P2 (G.ext (ext_trans E64 (ext_trans E66 E68))) F68 cz O hO) (G.ext (ext_trans E64 (ext_trans E66 E68))).1 dEX_29 (hw _ (List.mem_of_getElem? (i := 186) rfl)) (hw _ (List.mem_of_getElem? (i := 173) rfl)) (hw _ (List.mem_of_getElem? (i := 175) rfl)) (hw _ (List.mem_of_getElem? (i := 174) rfl)) (hw _ (List.mem_of_getElem? (i := 8) rfl)) (hw _ (List.mem_of_getElem? (i := 176) rfl)) (by decide) (fun _ hz => notFace_of_selects (args := #[]) (mvT hz (hw _ (List.mem_of_getElem? (i := 175) rfl)))) (fun _ q => nomatch q) (by decide) (by decide) rfl rfl (by decide) (by decide) rfl rfl (lenOf own_pd20 rfl) rfl (Nat.le_of_eq rfl) rfl (fun v69 vm69 h69 q69 r69 => ?_)
      obtain ⟨rfl, rfl⟩ := q69
      by_cases hb2 : bs = own_P2
      · rw [if_pos hb2]
        refine WP.ifcN (n' := 35) dEX_32 (by decide) rfl ?_
        refine WP.getSZ (n := 38) dEX_35 (hw _ (List.mem_of_getElem? (i := 204) rfl)) Via.refl p6 rfl ?_
        exact WP.retA dEX_38 rfl rfl rfl rfl (by decide) (by decide) ⟨by unfold own_pick; rw [if_neg hb0, if_neg hb1, if_pos hb2], (ext_trans E64 (ext_trans E66 E68))⟩
      · rw [if_neg hb2]
        refine WP.ifcY (n := 39) dEX_32 (by decide) (by decide) (by decide) ?_
        refine WP.aconstNull (n := 40) dEX_39  rfl ?_
        exact WP.retA dEX_40 rfl rfl rfl rfl (by decide) (by decide) ⟨by unfold own_pick; rw [if_neg hb0, if_neg hb1, if_neg hb2], (ext_trans E64 (ext_trans E66 E68))⟩
theorem dMF_0 : decode method_4_code 0 = .ok (.iload_n 0, 1) := by decide +kernel
theorem dMF_1 : decode method_4_code 1 = .ok (.ifCond .ne 56, 3) := by decide +kernel
theorem dMF_4 : decode method_4_code 4 = .ok (.bipush 9, 2) := by decide +kernel
theorem dMF_6 : decode method_4_code 6 = .ok (.newarray .char, 2) := by decide +kernel
theorem dMF_8 : decode method_4_code 8 = .ok (.dup, 1) := by decide +kernel
theorem dMF_9 : decode method_4_code 9 = .ok (.iconst 0, 1) := by decide +kernel
theorem dMF_10 : decode method_4_code 10 = .ok (.bipush 112, 2) := by decide +kernel
theorem dMF_12 : decode method_4_code 12 = .ok (.castore, 1) := by decide +kernel
theorem dMF_13 : decode method_4_code 13 = .ok (.dup, 1) := by decide +kernel
theorem dMF_14 : decode method_4_code 14 = .ok (.iconst 1, 1) := by decide +kernel
theorem dMF_15 : decode method_4_code 15 = .ok (.bipush 105, 2) := by decide +kernel
theorem dMF_17 : decode method_4_code 17 = .ok (.castore, 1) := by decide +kernel
theorem dMF_18 : decode method_4_code 18 = .ok (.dup, 1) := by decide +kernel
theorem dMF_19 : decode method_4_code 19 = .ok (.iconst 2, 1) := by decide +kernel
theorem dMF_20 : decode method_4_code 20 = .ok (.bipush 100, 2) := by decide +kernel
theorem dMF_22 : decode method_4_code 22 = .ok (.castore, 1) := by decide +kernel
theorem dMF_23 : decode method_4_code 23 = .ok (.dup, 1) := by decide +kernel
theorem dMF_24 : decode method_4_code 24 = .ok (.iconst 3, 1) := by decide +kernel
theorem dMF_25 : decode method_4_code 25 = .ok (.bipush 95, 2) := by decide +kernel
theorem dMF_27 : decode method_4_code 27 = .ok (.castore, 1) := by decide +kernel
theorem dMF_28 : decode method_4_code 28 = .ok (.dup, 1) := by decide +kernel
theorem dMF_29 : decode method_4_code 29 = .ok (.iconst 4, 1) := by decide +kernel
theorem dMF_30 : decode method_4_code 30 = .ok (.bipush 102, 2) := by decide +kernel
theorem dMF_32 : decode method_4_code 32 = .ok (.castore, 1) := by decide +kernel
theorem dMF_33 : decode method_4_code 33 = .ok (.dup, 1) := by decide +kernel
theorem dMF_34 : decode method_4_code 34 = .ok (.iconst 5, 1) := by decide +kernel
theorem dMF_35 : decode method_4_code 35 = .ok (.bipush 111, 2) := by decide +kernel
theorem dMF_37 : decode method_4_code 37 = .ok (.castore, 1) := by decide +kernel
theorem dMF_38 : decode method_4_code 38 = .ok (.dup, 1) := by decide +kernel
theorem dMF_39 : decode method_4_code 39 = .ok (.bipush 6, 2) := by decide +kernel
theorem dMF_41 : decode method_4_code 41 = .ok (.bipush 117, 2) := by decide +kernel
theorem dMF_43 : decode method_4_code 43 = .ok (.castore, 1) := by decide +kernel
theorem dMF_44 : decode method_4_code 44 = .ok (.dup, 1) := by decide +kernel
theorem dMF_45 : decode method_4_code 45 = .ok (.bipush 7, 2) := by decide +kernel
theorem dMF_47 : decode method_4_code 47 = .ok (.bipush 110, 2) := by decide +kernel
theorem dMF_49 : decode method_4_code 49 = .ok (.castore, 1) := by decide +kernel
theorem dMF_50 : decode method_4_code 50 = .ok (.dup, 1) := by decide +kernel
theorem dMF_51 : decode method_4_code 51 = .ok (.bipush 8, 2) := by decide +kernel
theorem dMF_53 : decode method_4_code 53 = .ok (.bipush 100, 2) := by decide +kernel
theorem dMF_55 : decode method_4_code 55 = .ok (.castore, 1) := by decide +kernel
theorem dMF_56 : decode method_4_code 56 = .ok (.areturn, 1) := by decide +kernel
theorem dMF_57 : decode method_4_code 57 = .ok (.iload_n 0, 1) := by decide +kernel
theorem dMF_58 : decode method_4_code 58 = .ok (.iconst 1, 1) := by decide +kernel
theorem dMF_59 : decode method_4_code 59 = .ok (.if_icmp .ne 74, 3) := by decide +kernel
theorem dMF_62 : decode method_4_code 62 = .ok (.bipush 12, 2) := by decide +kernel
theorem dMF_64 : decode method_4_code 64 = .ok (.newarray .char, 2) := by decide +kernel
theorem dMF_66 : decode method_4_code 66 = .ok (.dup, 1) := by decide +kernel
theorem dMF_67 : decode method_4_code 67 = .ok (.iconst 0, 1) := by decide +kernel
theorem dMF_68 : decode method_4_code 68 = .ok (.bipush 112, 2) := by decide +kernel
theorem dMF_70 : decode method_4_code 70 = .ok (.castore, 1) := by decide +kernel
theorem dMF_71 : decode method_4_code 71 = .ok (.dup, 1) := by decide +kernel
theorem dMF_72 : decode method_4_code 72 = .ok (.iconst 1, 1) := by decide +kernel
theorem dMF_73 : decode method_4_code 73 = .ok (.bipush 105, 2) := by decide +kernel
theorem dMF_75 : decode method_4_code 75 = .ok (.castore, 1) := by decide +kernel
theorem dMF_76 : decode method_4_code 76 = .ok (.dup, 1) := by decide +kernel
theorem dMF_77 : decode method_4_code 77 = .ok (.iconst 2, 1) := by decide +kernel
theorem dMF_78 : decode method_4_code 78 = .ok (.bipush 100, 2) := by decide +kernel
theorem dMF_80 : decode method_4_code 80 = .ok (.castore, 1) := by decide +kernel
theorem dMF_81 : decode method_4_code 81 = .ok (.dup, 1) := by decide +kernel
theorem dMF_82 : decode method_4_code 82 = .ok (.iconst 3, 1) := by decide +kernel
theorem dMF_83 : decode method_4_code 83 = .ok (.bipush 95, 2) := by decide +kernel
theorem dMF_85 : decode method_4_code 85 = .ok (.castore, 1) := by decide +kernel
theorem dMF_86 : decode method_4_code 86 = .ok (.dup, 1) := by decide +kernel
theorem dMF_87 : decode method_4_code 87 = .ok (.iconst 4, 1) := by decide +kernel
theorem dMF_88 : decode method_4_code 88 = .ok (.bipush 110, 2) := by decide +kernel
theorem dMF_90 : decode method_4_code 90 = .ok (.castore, 1) := by decide +kernel
theorem dMF_91 : decode method_4_code 91 = .ok (.dup, 1) := by decide +kernel
theorem dMF_92 : decode method_4_code 92 = .ok (.iconst 5, 1) := by decide +kernel
theorem dMF_93 : decode method_4_code 93 = .ok (.bipush 111, 2) := by decide +kernel
theorem dMF_95 : decode method_4_code 95 = .ok (.castore, 1) := by decide +kernel
theorem dMF_96 : decode method_4_code 96 = .ok (.dup, 1) := by decide +kernel
theorem dMF_97 : decode method_4_code 97 = .ok (.bipush 6, 2) := by decide +kernel
theorem dMF_99 : decode method_4_code 99 = .ok (.bipush 116, 2) := by decide +kernel
theorem dMF_101 : decode method_4_code 101 = .ok (.castore, 1) := by decide +kernel
theorem dMF_102 : decode method_4_code 102 = .ok (.dup, 1) := by decide +kernel
theorem dMF_103 : decode method_4_code 103 = .ok (.bipush 7, 2) := by decide +kernel
theorem dMF_105 : decode method_4_code 105 = .ok (.bipush 70, 2) := by decide +kernel
theorem dMF_107 : decode method_4_code 107 = .ok (.castore, 1) := by decide +kernel
theorem dMF_108 : decode method_4_code 108 = .ok (.dup, 1) := by decide +kernel
theorem dMF_109 : decode method_4_code 109 = .ok (.bipush 8, 2) := by decide +kernel
theorem dMF_111 : decode method_4_code 111 = .ok (.bipush 111, 2) := by decide +kernel
theorem dMF_113 : decode method_4_code 113 = .ok (.castore, 1) := by decide +kernel
theorem dMF_114 : decode method_4_code 114 = .ok (.dup, 1) := by decide +kernel
theorem dMF_115 : decode method_4_code 115 = .ok (.bipush 9, 2) := by decide +kernel
theorem dMF_117 : decode method_4_code 117 = .ok (.bipush 117, 2) := by decide +kernel
theorem dMF_119 : decode method_4_code 119 = .ok (.castore, 1) := by decide +kernel
theorem dMF_120 : decode method_4_code 120 = .ok (.dup, 1) := by decide +kernel
theorem dMF_121 : decode method_4_code 121 = .ok (.bipush 10, 2) := by decide +kernel
theorem dMF_123 : decode method_4_code 123 = .ok (.bipush 110, 2) := by decide +kernel
theorem dMF_125 : decode method_4_code 125 = .ok (.castore, 1) := by decide +kernel
theorem dMF_126 : decode method_4_code 126 = .ok (.dup, 1) := by decide +kernel
theorem dMF_127 : decode method_4_code 127 = .ok (.bipush 11, 2) := by decide +kernel
theorem dMF_129 : decode method_4_code 129 = .ok (.bipush 100, 2) := by decide +kernel
theorem dMF_131 : decode method_4_code 131 = .ok (.castore, 1) := by decide +kernel
theorem dMF_132 : decode method_4_code 132 = .ok (.areturn, 1) := by decide +kernel
theorem dMF_133 : decode method_4_code 133 = .ok (.bipush 11, 2) := by decide +kernel
theorem dMF_135 : decode method_4_code 135 = .ok (.newarray .char, 2) := by decide +kernel
theorem dMF_137 : decode method_4_code 137 = .ok (.dup, 1) := by decide +kernel
theorem dMF_138 : decode method_4_code 138 = .ok (.iconst 0, 1) := by decide +kernel
theorem dMF_139 : decode method_4_code 139 = .ok (.bipush 112, 2) := by decide +kernel
theorem dMF_141 : decode method_4_code 141 = .ok (.castore, 1) := by decide +kernel
theorem dMF_142 : decode method_4_code 142 = .ok (.dup, 1) := by decide +kernel
theorem dMF_143 : decode method_4_code 143 = .ok (.iconst 1, 1) := by decide +kernel
theorem dMF_144 : decode method_4_code 144 = .ok (.bipush 105, 2) := by decide +kernel
theorem dMF_146 : decode method_4_code 146 = .ok (.castore, 1) := by decide +kernel
theorem dMF_147 : decode method_4_code 147 = .ok (.dup, 1) := by decide +kernel
theorem dMF_148 : decode method_4_code 148 = .ok (.iconst 2, 1) := by decide +kernel
theorem dMF_149 : decode method_4_code 149 = .ok (.bipush 100, 2) := by decide +kernel
theorem dMF_151 : decode method_4_code 151 = .ok (.castore, 1) := by decide +kernel
theorem dMF_152 : decode method_4_code 152 = .ok (.dup, 1) := by decide +kernel
theorem dMF_153 : decode method_4_code 153 = .ok (.iconst 3, 1) := by decide +kernel
theorem dMF_154 : decode method_4_code 154 = .ok (.bipush 95, 2) := by decide +kernel
theorem dMF_156 : decode method_4_code 156 = .ok (.castore, 1) := by decide +kernel
theorem dMF_157 : decode method_4_code 157 = .ok (.dup, 1) := by decide +kernel
theorem dMF_158 : decode method_4_code 158 = .ok (.iconst 4, 1) := by decide +kernel
theorem dMF_159 : decode method_4_code 159 = .ok (.bipush 105, 2) := by decide +kernel
theorem dMF_161 : decode method_4_code 161 = .ok (.castore, 1) := by decide +kernel
theorem dMF_162 : decode method_4_code 162 = .ok (.dup, 1) := by decide +kernel
theorem dMF_163 : decode method_4_code 163 = .ok (.iconst 5, 1) := by decide +kernel
theorem dMF_164 : decode method_4_code 164 = .ok (.bipush 110, 2) := by decide +kernel
theorem dMF_166 : decode method_4_code 166 = .ok (.castore, 1) := by decide +kernel
theorem dMF_167 : decode method_4_code 167 = .ok (.dup, 1) := by decide +kernel
theorem dMF_168 : decode method_4_code 168 = .ok (.bipush 6, 2) := by decide +kernel
theorem dMF_170 : decode method_4_code 170 = .ok (.bipush 118, 2) := by decide +kernel
theorem dMF_172 : decode method_4_code 172 = .ok (.castore, 1) := by decide +kernel
theorem dMF_173 : decode method_4_code 173 = .ok (.dup, 1) := by decide +kernel
theorem dMF_174 : decode method_4_code 174 = .ok (.bipush 7, 2) := by decide +kernel
theorem dMF_176 : decode method_4_code 176 = .ok (.bipush 97, 2) := by decide +kernel
theorem dMF_178 : decode method_4_code 178 = .ok (.castore, 1) := by decide +kernel
theorem dMF_179 : decode method_4_code 179 = .ok (.dup, 1) := by decide +kernel
theorem dMF_180 : decode method_4_code 180 = .ok (.bipush 8, 2) := by decide +kernel
theorem dMF_182 : decode method_4_code 182 = .ok (.bipush 108, 2) := by decide +kernel
theorem dMF_184 : decode method_4_code 184 = .ok (.castore, 1) := by decide +kernel
theorem dMF_185 : decode method_4_code 185 = .ok (.dup, 1) := by decide +kernel
theorem dMF_186 : decode method_4_code 186 = .ok (.bipush 9, 2) := by decide +kernel
theorem dMF_188 : decode method_4_code 188 = .ok (.bipush 105, 2) := by decide +kernel
theorem dMF_190 : decode method_4_code 190 = .ok (.castore, 1) := by decide +kernel
theorem dMF_191 : decode method_4_code 191 = .ok (.dup, 1) := by decide +kernel
theorem dMF_192 : decode method_4_code 192 = .ok (.bipush 10, 2) := by decide +kernel
theorem dMF_194 : decode method_4_code 194 = .ok (.bipush 100, 2) := by decide +kernel
theorem dMF_196 : decode method_4_code 196 = .ok (.castore, 1) := by decide +kernel
theorem dMF_197 : decode method_4_code 197 = .ok (.areturn, 1) := by decide +kernel
set_option maxRecDepth 65536 in
set_option maxHeartbeats 40000000 in
theorem own_mf (l : Launch) (Z : State) (a0 : Array Value) (hw : ∀ d ∈ tables_1, d.before a0 Z = true) (EL : List (String × Nat)) (hEL : EW Z a0 EL) (h0 : Heap) (k : Int32) :
    Con l Z EL false [] (⟨"com/example/research_api_client/researchapiclient/lotus/StatusOfMemberPinLaw", "full", "(I)[C"⟩ : MethodName) method_4_code 1 (some (.array .char)) ({ frames := 0, cells := 1, slots := 13, locals := 0 } : Room) #[(.int k)] h0 (fun v h' => ∃ (c : Addr) (kc : ClassId) (cs : List Int32), v = some (.ref c) ∧ h0.size ≤ c ∧ Ext h0 h' ∧ own_CA Z h' c kc cs ∧ 1 ≤ cs.length) := by
  refine Con.of (Ls := #[.val (.int k)]) (plainFor_of_name own_pn6) hEL (fun m => by first | (simp [entryFrame, mkF, argsToLocals, Value.category]; done) | rfl) ?_
  intro vm0 hZ0 hE0 hC0 hS0
  refine WP.iloadN (n := 1) dMF_0 rfl rfl ?_
  refine WP.if_ne (n := 57) (n' := 4) dMF_1 (by decide) (by decide) rfl (fun b70 => ?_) (fun b70 => ?_)
  · refine WP.iloadN (n := 58) dMF_57 rfl rfl ?_
    refine WP.iconst (n := 59) (z := (1 : Int32)) dMF_58 rfl rfl ?_
    refine WP.icmp_ne (n := 133) (n' := 62) dMF_59 (by decide) (by decide) rfl (fun b71 => ?_) (fun b71 => ?_)
    · refine WP.bipush (n := 135) (z := (11 : Int32)) dMF_133 (by decide) rfl ?_
      refine WP.newP (n := 137) (ce' := 1) (sl' := 11) (cap := 11) (ty := .char) dMF_135 (hw _ (List.mem_of_getElem? (i := 5) rfl)) rfl (by decide) (by decide) (by decide) rfl rfl (by decide) (by decide) rfl (fun a72 h72 k72 g72 E72 V72 S72 N72 r72 => ?_)
      have V72_ : Arv Z h72 a72 k72 .char (11 : Int32) (([0, 0, 0, 0, 0, 0, 0, 0, 0, 0, 0] : List Int32).map Value.int) (.int 0) := V72.pad (pad_rep [] (.int 0) 11)
      refine WP.dup (n := 138) dMF_137 rfl rfl ?_
      refine WP.iconst (n := 139) (z := (0 : Int32)) dMF_138 rfl rfl ?_
      refine WP.bipush (n := 141) (z := (112 : Int32)) dMF_139 (by decide) rfl ?_
      refine WP.stC (n := 142) (i := 0) (y := (112 : Int32)) dMF_141 V72_ (by decide) rfl (Nat.le_of_ble_eq_true rfl) (by decide) N72 S72 rfl (fun h73 W73 V73 r73 => ?_)
      have V73_ : Arv Z h73 a72 k72 .char (11 : Int32) (([(112 : Int32), 0, 0, 0, 0, 0, 0, 0, 0, 0, 0] : List Int32).map Value.int) (.int 0) := V73
      have S73 := r73.safe V72_.lt S72
      refine WP.dup (n := 143) dMF_142 rfl rfl ?_
      refine WP.iconst (n := 144) (z := (1 : Int32)) dMF_143 rfl rfl ?_
      refine WP.bipush (n := 146) (z := (105 : Int32)) dMF_144 (by decide) rfl ?_
      refine WP.stC (n := 147) (i := 1) (y := (105 : Int32)) dMF_146 V73_ (by decide) rfl (Nat.le_of_ble_eq_true rfl) (by decide) N72 S73 rfl (fun h74 W74 V74 r74 => ?_)
      have V74_ : Arv Z h74 a72 k72 .char (11 : Int32) (([(112 : Int32), (105 : Int32), 0, 0, 0, 0, 0, 0, 0, 0, 0] : List Int32).map Value.int) (.int 0) := V74
      have S74 := r74.safe V73_.lt S73
      refine WP.dup (n := 148) dMF_147 rfl rfl ?_
      refine WP.iconst (n := 149) (z := (2 : Int32)) dMF_148 rfl rfl ?_
      refine WP.bipush (n := 151) (z := (100 : Int32)) dMF_149 (by decide) rfl ?_
      refine WP.stC (n := 152) (i := 2) (y := (100 : Int32)) dMF_151 V74_ (by decide) rfl (Nat.le_of_ble_eq_true rfl) (by decide) N72 S74 rfl (fun h75 W75 V75 r75 => ?_)
      have V75_ : Arv Z h75 a72 k72 .char (11 : Int32) (([(112 : Int32), (105 : Int32), (100 : Int32), 0, 0, 0, 0, 0, 0, 0, 0] : List Int32).map Value.int) (.int 0) := V75
      have S75 := r75.safe V74_.lt S74
      refine WP.dup (n := 153) dMF_152 rfl rfl ?_
      refine WP.iconst (n := 154) (z := (3 : Int32)) dMF_153 rfl rfl ?_
      refine WP.bipush (n := 156) (z := (95 : Int32)) dMF_154 (by decide) rfl ?_
      refine WP.stC (n := 157) (i := 3) (y := (95 : Int32)) dMF_156 V75_ (by decide) rfl (Nat.le_of_ble_eq_true rfl) (by decide) N72 S75 rfl (fun h76 W76 V76 r76 => ?_)
      have V76_ : Arv Z h76 a72 k72 .char (11 : Int32) (([(112 : Int32), (105 : Int32), (100 : Int32), (95 : Int32), 0, 0, 0, 0, 0, 0, 0] : List Int32).map Value.int) (.int 0) := V76
      have S76 := r76.safe V75_.lt S75
      refine WP.dup (n := 158) dMF_157 rfl rfl ?_
      refine WP.iconst (n := 159) (z := (4 : Int32)) dMF_158 rfl rfl ?_
      refine WP.bipush (n := 161) (z := (105 : Int32)) dMF_159 (by decide) rfl ?_
      refine WP.stC (n := 162) (i := 4) (y := (105 : Int32)) dMF_161 V76_ (by decide) rfl (Nat.le_of_ble_eq_true rfl) (by decide) N72 S76 rfl (fun h77 W77 V77 r77 => ?_)
      have V77_ : Arv Z h77 a72 k72 .char (11 : Int32) (([(112 : Int32), (105 : Int32), (100 : Int32), (95 : Int32), (105 : Int32), 0, 0, 0, 0, 0, 0] : List Int32).map Value.int) (.int 0) := V77
      have S77 := r77.safe V76_.lt S76
      refine WP.dup (n := 163) dMF_162 rfl rfl ?_
      refine WP.iconst (n := 164) (z := (5 : Int32)) dMF_163 rfl rfl ?_
      refine WP.bipush (n := 166) (z := (110 : Int32)) dMF_164 (by decide) rfl ?_
      refine WP.stC (n := 167) (i := 5) (y := (110 : Int32)) dMF_166 V77_ (by decide) rfl (Nat.le_of_ble_eq_true rfl) (by decide) N72 S77 rfl (fun h78 W78 V78 r78 => ?_)
      have V78_ : Arv Z h78 a72 k72 .char (11 : Int32) (([(112 : Int32), (105 : Int32), (100 : Int32), (95 : Int32), (105 : Int32), (110 : Int32), 0, 0, 0, 0, 0] : List Int32).map Value.int) (.int 0) := V78
      have S78 := r78.safe V77_.lt S77
      refine WP.dup (n := 168) dMF_167 rfl rfl ?_
      refine WP.bipush (n := 170) (z := (6 : Int32)) dMF_168 (by decide) rfl ?_
      refine WP.bipush (n := 172) (z := (118 : Int32)) dMF_170 (by decide) rfl ?_
      refine WP.stC (n := 173) (i := 6) (y := (118 : Int32)) dMF_172 V78_ (by decide) rfl (Nat.le_of_ble_eq_true rfl) (by decide) N72 S78 rfl (fun h79 W79 V79 r79 => ?_)
      have V79_ : Arv Z h79 a72 k72 .char (11 : Int32) (([(112 : Int32), (105 : Int32), (100 : Int32), (95 : Int32), (105 : Int32), (110 : Int32), (118 : Int32), 0, 0, 0, 0] : List Int32).map Value.int) (.int 0) := V79
      have S79 := r79.safe V78_.lt S78
      refine WP.dup (n := 174) dMF_173 rfl rfl ?_
      refine WP.bipush (n := 176) (z := (7 : Int32)) dMF_174 (by decide) rfl ?_
      refine WP.bipush (n := 178) (z := (97 : Int32)) dMF_176 (by decide) rfl ?_
      refine WP.stC (n := 179) (i := 7) (y := (97 : Int32)) dMF_178 V79_ (by decide) rfl (Nat.le_of_ble_eq_true rfl) (by decide) N72 S79 rfl (fun h80 W80 V80 r80 => ?_)
      have V80_ : Arv Z h80 a72 k72 .char (11 : Int32) (([(112 : Int32), (105 : Int32), (100 : Int32), (95 : Int32), (105 : Int32), (110 : Int32), (118 : Int32), (97 : Int32), 0, 0, 0] : List Int32).map Value.int) (.int 0) := V80
      have S80 := r80.safe V79_.lt S79
      refine WP.dup (n := 180) dMF_179 rfl rfl ?_
      refine WP.bipush (n := 182) (z := (8 : Int32)) dMF_180 (by decide) rfl ?_
      refine WP.bipush (n := 184) (z := (108 : Int32)) dMF_182 (by decide) rfl ?_
      refine WP.stC (n := 185) (i := 8) (y := (108 : Int32)) dMF_184 V80_ (by decide) rfl (Nat.le_of_ble_eq_true rfl) (by decide) N72 S80 rfl (fun h81 W81 V81 r81 => ?_)
      have V81_ : Arv Z h81 a72 k72 .char (11 : Int32) (([(112 : Int32), (105 : Int32), (100 : Int32), (95 : Int32), (105 : Int32), (110 : Int32), (118 : Int32), (97 : Int32), (108 : Int32), 0, 0] : List Int32).map Value.int) (.int 0) := V81
      have S81 := r81.safe V80_.lt S80
      refine WP.dup (n := 186) dMF_185 rfl rfl ?_
      refine WP.bipush (n := 188) (z := (9 : Int32)) dMF_186 (by decide) rfl ?_
      refine WP.bipush (n := 190) (z := (105 : Int32)) dMF_188 (by decide) rfl ?_
      refine WP.stC (n := 191) (i := 9) (y := (105 : Int32)) dMF_190 V81_ (by decide) rfl (Nat.le_of_ble_eq_true rfl) (by decide) N72 S81 rfl (fun h82 W82 V82 r82 => ?_)
      have V82_ : Arv Z h82 a72 k72 .char (11 : Int32) (([(112 : Int32), (105 : Int32), (100 : Int32), (95 : Int32), (105 : Int32), (110 : Int32), (118 : Int32), (97 : Int32), (108 : Int32), (105 : Int32), 0] : List Int32).map Value.int) (.int 0) := V82
      have S82 := r82.safe V81_.lt S81
      refine WP.dup (n := 192) dMF_191 rfl rfl ?_
      refine WP.bipush (n := 194) (z := (10 : Int32)) dMF_192 (by decide) rfl ?_
      refine WP.bipush (n := 196) (z := (100 : Int32)) dMF_194 (by decide) rfl ?_
      refine WP.stC (n := 197) (i := 10) (y := (100 : Int32)) dMF_196 V82_ (by decide) rfl (Nat.le_of_ble_eq_true rfl) (by decide) N72 S82 rfl (fun h83 W83 V83 r83 => ?_)
      have V83_ : Arv Z h83 a72 k72 .char (11 : Int32) (([(112 : Int32), (105 : Int32), (100 : Int32), (95 : Int32), (105 : Int32), (110 : Int32), (118 : Int32), (97 : Int32), (108 : Int32), (105 : Int32), (100 : Int32)] : List Int32).map Value.int) (.int 0) := V83
      have S83 := r83.safe V82_.lt S82
      exact WP.retA dMF_197 rfl rfl rfl rfl (by decide) (by decide) ⟨a72, k72, [(112 : Int32), (105 : Int32), (100 : Int32), (95 : Int32), (105 : Int32), (110 : Int32), (118 : Int32), (97 : Int32), (108 : Int32), (105 : Int32), (100 : Int32)], rfl, Nat.le_of_eq g72.symm, (ext_wr (ext_wr (ext_wr (ext_wr (ext_wr (ext_wr (ext_wr (ext_wr (ext_wr (ext_wr (ext_wr E72 W73 (Nat.le_of_eq g72.symm)) W74 (Nat.le_of_eq g72.symm)) W75 (Nat.le_of_eq g72.symm)) W76 (Nat.le_of_eq g72.symm)) W77 (Nat.le_of_eq g72.symm)) W78 (Nat.le_of_eq g72.symm)) W79 (Nat.le_of_eq g72.symm)) W80 (Nat.le_of_eq g72.symm)) W81 (Nat.le_of_eq g72.symm)) W82 (Nat.le_of_eq g72.symm)) W83 (Nat.le_of_eq g72.symm)), ⟨V83_, Nat.le_of_ble_eq_true rfl, (own_rng_cons (by decide) (own_rng_cons (by decide) (own_rng_cons (by decide) (own_rng_cons (by decide) (own_rng_cons (by decide) (own_rng_cons (by decide) (own_rng_cons (by decide) (own_rng_cons (by decide) (own_rng_cons (by decide) (own_rng_cons (by decide) (own_rng_cons (by decide) own_rng_nil)))))))))))⟩, Nat.le_of_ble_eq_true rfl⟩
    · refine WP.bipush (n := 64) (z := (12 : Int32)) dMF_62 (by decide) rfl ?_
      refine WP.newP (n := 66) (ce' := 1) (sl' := 12) (cap := 12) (ty := .char) dMF_64 (hw _ (List.mem_of_getElem? (i := 5) rfl)) rfl (by decide) (by decide) (by decide) rfl rfl (by decide) (by decide) rfl (fun a84 h84 k84 g84 E84 V84 S84 N84 r84 => ?_)
      have V84_ : Arv Z h84 a84 k84 .char (12 : Int32) (([0, 0, 0, 0, 0, 0, 0, 0, 0, 0, 0, 0] : List Int32).map Value.int) (.int 0) := V84.pad (pad_rep [] (.int 0) 12)
      refine WP.dup (n := 67) dMF_66 rfl rfl ?_
      refine WP.iconst (n := 68) (z := (0 : Int32)) dMF_67 rfl rfl ?_
      refine WP.bipush (n := 70) (z := (112 : Int32)) dMF_68 (by decide) rfl ?_
      refine WP.stC (n := 71) (i := 0) (y := (112 : Int32)) dMF_70 V84_ (by decide) rfl (Nat.le_of_ble_eq_true rfl) (by decide) N84 S84 rfl (fun h85 W85 V85 r85 => ?_)
      have V85_ : Arv Z h85 a84 k84 .char (12 : Int32) (([(112 : Int32), 0, 0, 0, 0, 0, 0, 0, 0, 0, 0, 0] : List Int32).map Value.int) (.int 0) := V85
      have S85 := r85.safe V84_.lt S84
      refine WP.dup (n := 72) dMF_71 rfl rfl ?_
      refine WP.iconst (n := 73) (z := (1 : Int32)) dMF_72 rfl rfl ?_
      refine WP.bipush (n := 75) (z := (105 : Int32)) dMF_73 (by decide) rfl ?_
      refine WP.stC (n := 76) (i := 1) (y := (105 : Int32)) dMF_75 V85_ (by decide) rfl (Nat.le_of_ble_eq_true rfl) (by decide) N84 S85 rfl (fun h86 W86 V86 r86 => ?_)
      have V86_ : Arv Z h86 a84 k84 .char (12 : Int32) (([(112 : Int32), (105 : Int32), 0, 0, 0, 0, 0, 0, 0, 0, 0, 0] : List Int32).map Value.int) (.int 0) := V86
      have S86 := r86.safe V85_.lt S85
      refine WP.dup (n := 77) dMF_76 rfl rfl ?_
      refine WP.iconst (n := 78) (z := (2 : Int32)) dMF_77 rfl rfl ?_
      refine WP.bipush (n := 80) (z := (100 : Int32)) dMF_78 (by decide) rfl ?_
      refine WP.stC (n := 81) (i := 2) (y := (100 : Int32)) dMF_80 V86_ (by decide) rfl (Nat.le_of_ble_eq_true rfl) (by decide) N84 S86 rfl (fun h87 W87 V87 r87 => ?_)
      have V87_ : Arv Z h87 a84 k84 .char (12 : Int32) (([(112 : Int32), (105 : Int32), (100 : Int32), 0, 0, 0, 0, 0, 0, 0, 0, 0] : List Int32).map Value.int) (.int 0) := V87
      have S87 := r87.safe V86_.lt S86
      refine WP.dup (n := 82) dMF_81 rfl rfl ?_
      refine WP.iconst (n := 83) (z := (3 : Int32)) dMF_82 rfl rfl ?_
      refine WP.bipush (n := 85) (z := (95 : Int32)) dMF_83 (by decide) rfl ?_
      refine WP.stC (n := 86) (i := 3) (y := (95 : Int32)) dMF_85 V87_ (by decide) rfl (Nat.le_of_ble_eq_true rfl) (by decide) N84 S87 rfl (fun h88 W88 V88 r88 => ?_)
      have V88_ : Arv Z h88 a84 k84 .char (12 : Int32) (([(112 : Int32), (105 : Int32), (100 : Int32), (95 : Int32), 0, 0, 0, 0, 0, 0, 0, 0] : List Int32).map Value.int) (.int 0) := V88
      have S88 := r88.safe V87_.lt S87
      refine WP.dup (n := 87) dMF_86 rfl rfl ?_
      refine WP.iconst (n := 88) (z := (4 : Int32)) dMF_87 rfl rfl ?_
      refine WP.bipush (n := 90) (z := (110 : Int32)) dMF_88 (by decide) rfl ?_
      refine WP.stC (n := 91) (i := 4) (y := (110 : Int32)) dMF_90 V88_ (by decide) rfl (Nat.le_of_ble_eq_true rfl) (by decide) N84 S88 rfl (fun h89 W89 V89 r89 => ?_)
      have V89_ : Arv Z h89 a84 k84 .char (12 : Int32) (([(112 : Int32), (105 : Int32), (100 : Int32), (95 : Int32), (110 : Int32), 0, 0, 0, 0, 0, 0, 0] : List Int32).map Value.int) (.int 0) := V89
      have S89 := r89.safe V88_.lt S88
      refine WP.dup (n := 92) dMF_91 rfl rfl ?_
      refine WP.iconst (n := 93) (z := (5 : Int32)) dMF_92 rfl rfl ?_
      refine WP.bipush (n := 95) (z := (111 : Int32)) dMF_93 (by decide) rfl ?_
      refine WP.stC (n := 96) (i := 5) (y := (111 : Int32)) dMF_95 V89_ (by decide) rfl (Nat.le_of_ble_eq_true rfl) (by decide) N84 S89 rfl (fun h90 W90 V90 r90 => ?_)
      have V90_ : Arv Z h90 a84 k84 .char (12 : Int32) (([(112 : Int32), (105 : Int32), (100 : Int32), (95 : Int32), (110 : Int32), (111 : Int32), 0, 0, 0, 0, 0, 0] : List Int32).map Value.int) (.int 0) := V90
      have S90 := r90.safe V89_.lt S89
      refine WP.dup (n := 97) dMF_96 rfl rfl ?_
      refine WP.bipush (n := 99) (z := (6 : Int32)) dMF_97 (by decide) rfl ?_
      refine WP.bipush (n := 101) (z := (116 : Int32)) dMF_99 (by decide) rfl ?_
      refine WP.stC (n := 102) (i := 6) (y := (116 : Int32)) dMF_101 V90_ (by decide) rfl (Nat.le_of_ble_eq_true rfl) (by decide) N84 S90 rfl (fun h91 W91 V91 r91 => ?_)
      have V91_ : Arv Z h91 a84 k84 .char (12 : Int32) (([(112 : Int32), (105 : Int32), (100 : Int32), (95 : Int32), (110 : Int32), (111 : Int32), (116 : Int32), 0, 0, 0, 0, 0] : List Int32).map Value.int) (.int 0) := V91
      have S91 := r91.safe V90_.lt S90
      refine WP.dup (n := 103) dMF_102 rfl rfl ?_
      refine WP.bipush (n := 105) (z := (7 : Int32)) dMF_103 (by decide) rfl ?_
      refine WP.bipush (n := 107) (z := (70 : Int32)) dMF_105 (by decide) rfl ?_
      refine WP.stC (n := 108) (i := 7) (y := (70 : Int32)) dMF_107 V91_ (by decide) rfl (Nat.le_of_ble_eq_true rfl) (by decide) N84 S91 rfl (fun h92 W92 V92 r92 => ?_)
      have V92_ : Arv Z h92 a84 k84 .char (12 : Int32) (([(112 : Int32), (105 : Int32), (100 : Int32), (95 : Int32), (110 : Int32), (111 : Int32), (116 : Int32), (70 : Int32), 0, 0, 0, 0] : List Int32).map Value.int) (.int 0) := V92
      have S92 := r92.safe V91_.lt S91
      refine WP.dup (n := 109) dMF_108 rfl rfl ?_
      refine WP.bipush (n := 111) (z := (8 : Int32)) dMF_109 (by decide) rfl ?_
      refine WP.bipush (n := 113) (z := (111 : Int32)) dMF_111 (by decide) rfl ?_
      refine WP.stC (n := 114) (i := 8) (y := (111 : Int32)) dMF_113 V92_ (by decide) rfl (Nat.le_of_ble_eq_true rfl) (by decide) N84 S92 rfl (fun h93 W93 V93 r93 => ?_)
      have V93_ : Arv Z h93 a84 k84 .char (12 : Int32) (([(112 : Int32), (105 : Int32), (100 : Int32), (95 : Int32), (110 : Int32), (111 : Int32), (116 : Int32), (70 : Int32), (111 : Int32), 0, 0, 0] : List Int32).map Value.int) (.int 0) := V93
      have S93 := r93.safe V92_.lt S92
      refine WP.dup (n := 115) dMF_114 rfl rfl ?_
      refine WP.bipush (n := 117) (z := (9 : Int32)) dMF_115 (by decide) rfl ?_
      refine WP.bipush (n := 119) (z := (117 : Int32)) dMF_117 (by decide) rfl ?_
      refine WP.stC (n := 120) (i := 9) (y := (117 : Int32)) dMF_119 V93_ (by decide) rfl (Nat.le_of_ble_eq_true rfl) (by decide) N84 S93 rfl (fun h94 W94 V94 r94 => ?_)
      have V94_ : Arv Z h94 a84 k84 .char (12 : Int32) (([(112 : Int32), (105 : Int32), (100 : Int32), (95 : Int32), (110 : Int32), (111 : Int32), (116 : Int32), (70 : Int32), (111 : Int32), (117 : Int32), 0, 0] : List Int32).map Value.int) (.int 0) := V94
      have S94 := r94.safe V93_.lt S93
      refine WP.dup (n := 121) dMF_120 rfl rfl ?_
      refine WP.bipush (n := 123) (z := (10 : Int32)) dMF_121 (by decide) rfl ?_
      refine WP.bipush (n := 125) (z := (110 : Int32)) dMF_123 (by decide) rfl ?_
      refine WP.stC (n := 126) (i := 10) (y := (110 : Int32)) dMF_125 V94_ (by decide) rfl (Nat.le_of_ble_eq_true rfl) (by decide) N84 S94 rfl (fun h95 W95 V95 r95 => ?_)
      have V95_ : Arv Z h95 a84 k84 .char (12 : Int32) (([(112 : Int32), (105 : Int32), (100 : Int32), (95 : Int32), (110 : Int32), (111 : Int32), (116 : Int32), (70 : Int32), (111 : Int32), (117 : Int32), (110 : Int32), 0] : List Int32).map Value.int) (.int 0) := V95
      have S95 := r95.safe V94_.lt S94
      refine WP.dup (n := 127) dMF_126 rfl rfl ?_
      refine WP.bipush (n := 129) (z := (11 : Int32)) dMF_127 (by decide) rfl ?_
      refine WP.bipush (n := 131) (z := (100 : Int32)) dMF_129 (by decide) rfl ?_
      refine WP.stC (n := 132) (i := 11) (y := (100 : Int32)) dMF_131 V95_ (by decide) rfl (Nat.le_of_ble_eq_true rfl) (by decide) N84 S95 rfl (fun h96 W96 V96 r96 => ?_)
      have V96_ : Arv Z h96 a84 k84 .char (12 : Int32) (([(112 : Int32), (105 : Int32), (100 : Int32), (95 : Int32), (110 : Int32), (111 : Int32), (116 : Int32), (70 : Int32), (111 : Int32), (117 : Int32), (110 : Int32), (100 : Int32)] : List Int32).map Value.int) (.int 0) := V96
      have S96 := r96.safe V95_.lt S95
      exact WP.retA dMF_132 rfl rfl rfl rfl (by decide) (by decide) ⟨a84, k84, [(112 : Int32), (105 : Int32), (100 : Int32), (95 : Int32), (110 : Int32), (111 : Int32), (116 : Int32), (70 : Int32), (111 : Int32), (117 : Int32), (110 : Int32), (100 : Int32)], rfl, Nat.le_of_eq g84.symm, (ext_wr (ext_wr (ext_wr (ext_wr (ext_wr (ext_wr (ext_wr (ext_wr (ext_wr (ext_wr (ext_wr (ext_wr E84 W85 (Nat.le_of_eq g84.symm)) W86 (Nat.le_of_eq g84.symm)) W87 (Nat.le_of_eq g84.symm)) W88 (Nat.le_of_eq g84.symm)) W89 (Nat.le_of_eq g84.symm)) W90 (Nat.le_of_eq g84.symm)) W91 (Nat.le_of_eq g84.symm)) W92 (Nat.le_of_eq g84.symm)) W93 (Nat.le_of_eq g84.symm)) W94 (Nat.le_of_eq g84.symm)) W95 (Nat.le_of_eq g84.symm)) W96 (Nat.le_of_eq g84.symm)), ⟨V96_, Nat.le_of_ble_eq_true rfl, (own_rng_cons (by decide) (own_rng_cons (by decide) (own_rng_cons (by decide) (own_rng_cons (by decide) (own_rng_cons (by decide) (own_rng_cons (by decide) (own_rng_cons (by decide) (own_rng_cons (by decide) (own_rng_cons (by decide) (own_rng_cons (by decide) (own_rng_cons (by decide) (own_rng_cons (by decide) own_rng_nil))))))))))))⟩, Nat.le_of_ble_eq_true rfl⟩
  · refine WP.bipush (n := 6) (z := (9 : Int32)) dMF_4 (by decide) rfl ?_
    refine WP.newP (n := 8) (ce' := 1) (sl' := 9) (cap := 9) (ty := .char) dMF_6 (hw _ (List.mem_of_getElem? (i := 5) rfl)) rfl (by decide) (by decide) (by decide) rfl rfl (by decide) (by decide) rfl (fun a97 h97 k97 g97 E97 V97 S97 N97 r97 => ?_)
    have V97_ : Arv Z h97 a97 k97 .char (9 : Int32) (([0, 0, 0, 0, 0, 0, 0, 0, 0] : List Int32).map Value.int) (.int 0) := V97.pad (pad_rep [] (.int 0) 9)
    refine WP.dup (n := 9) dMF_8 rfl rfl ?_
    refine WP.iconst (n := 10) (z := (0 : Int32)) dMF_9 rfl rfl ?_
    refine WP.bipush (n := 12) (z := (112 : Int32)) dMF_10 (by decide) rfl ?_
    refine WP.stC (n := 13) (i := 0) (y := (112 : Int32)) dMF_12 V97_ (by decide) rfl (Nat.le_of_ble_eq_true rfl) (by decide) N97 S97 rfl (fun h98 W98 V98 r98 => ?_)
    have V98_ : Arv Z h98 a97 k97 .char (9 : Int32) (([(112 : Int32), 0, 0, 0, 0, 0, 0, 0, 0] : List Int32).map Value.int) (.int 0) := V98
    have S98 := r98.safe V97_.lt S97
    refine WP.dup (n := 14) dMF_13 rfl rfl ?_
    refine WP.iconst (n := 15) (z := (1 : Int32)) dMF_14 rfl rfl ?_
    refine WP.bipush (n := 17) (z := (105 : Int32)) dMF_15 (by decide) rfl ?_
    refine WP.stC (n := 18) (i := 1) (y := (105 : Int32)) dMF_17 V98_ (by decide) rfl (Nat.le_of_ble_eq_true rfl) (by decide) N97 S98 rfl (fun h99 W99 V99 r99 => ?_)
    have V99_ : Arv Z h99 a97 k97 .char (9 : Int32) (([(112 : Int32), (105 : Int32), 0, 0, 0, 0, 0, 0, 0] : List Int32).map Value.int) (.int 0) := V99
    have S99 := r99.safe V98_.lt S98
    refine WP.dup (n := 19) dMF_18 rfl rfl ?_
    refine WP.iconst (n := 20) (z := (2 : Int32)) dMF_19 rfl rfl ?_
    refine WP.bipush (n := 22) (z := (100 : Int32)) dMF_20 (by decide) rfl ?_
    refine WP.stC (n := 23) (i := 2) (y := (100 : Int32)) dMF_22 V99_ (by decide) rfl (Nat.le_of_ble_eq_true rfl) (by decide) N97 S99 rfl (fun h100 W100 V100 r100 => ?_)
    have V100_ : Arv Z h100 a97 k97 .char (9 : Int32) (([(112 : Int32), (105 : Int32), (100 : Int32), 0, 0, 0, 0, 0, 0] : List Int32).map Value.int) (.int 0) := V100
    have S100 := r100.safe V99_.lt S99
    refine WP.dup (n := 24) dMF_23 rfl rfl ?_
    refine WP.iconst (n := 25) (z := (3 : Int32)) dMF_24 rfl rfl ?_
    refine WP.bipush (n := 27) (z := (95 : Int32)) dMF_25 (by decide) rfl ?_
    refine WP.stC (n := 28) (i := 3) (y := (95 : Int32)) dMF_27 V100_ (by decide) rfl (Nat.le_of_ble_eq_true rfl) (by decide) N97 S100 rfl (fun h101 W101 V101 r101 => ?_)
    have V101_ : Arv Z h101 a97 k97 .char (9 : Int32) (([(112 : Int32), (105 : Int32), (100 : Int32), (95 : Int32), 0, 0, 0, 0, 0] : List Int32).map Value.int) (.int 0) := V101
    have S101 := r101.safe V100_.lt S100
    refine WP.dup (n := 29) dMF_28 rfl rfl ?_
    refine WP.iconst (n := 30) (z := (4 : Int32)) dMF_29 rfl rfl ?_
    refine WP.bipush (n := 32) (z := (102 : Int32)) dMF_30 (by decide) rfl ?_
    refine WP.stC (n := 33) (i := 4) (y := (102 : Int32)) dMF_32 V101_ (by decide) rfl (Nat.le_of_ble_eq_true rfl) (by decide) N97 S101 rfl (fun h102 W102 V102 r102 => ?_)
    have V102_ : Arv Z h102 a97 k97 .char (9 : Int32) (([(112 : Int32), (105 : Int32), (100 : Int32), (95 : Int32), (102 : Int32), 0, 0, 0, 0] : List Int32).map Value.int) (.int 0) := V102
    have S102 := r102.safe V101_.lt S101
    refine WP.dup (n := 34) dMF_33 rfl rfl ?_
    refine WP.iconst (n := 35) (z := (5 : Int32)) dMF_34 rfl rfl ?_
    refine WP.bipush (n := 37) (z := (111 : Int32)) dMF_35 (by decide) rfl ?_
    refine WP.stC (n := 38) (i := 5) (y := (111 : Int32)) dMF_37 V102_ (by decide) rfl (Nat.le_of_ble_eq_true rfl) (by decide) N97 S102 rfl (fun h103 W103 V103 r103 => ?_)
    have V103_ : Arv Z h103 a97 k97 .char (9 : Int32) (([(112 : Int32), (105 : Int32), (100 : Int32), (95 : Int32), (102 : Int32), (111 : Int32), 0, 0, 0] : List Int32).map Value.int) (.int 0) := V103
    have S103 := r103.safe V102_.lt S102
    refine WP.dup (n := 39) dMF_38 rfl rfl ?_
    refine WP.bipush (n := 41) (z := (6 : Int32)) dMF_39 (by decide) rfl ?_
    refine WP.bipush (n := 43) (z := (117 : Int32)) dMF_41 (by decide) rfl ?_
    refine WP.stC (n := 44) (i := 6) (y := (117 : Int32)) dMF_43 V103_ (by decide) rfl (Nat.le_of_ble_eq_true rfl) (by decide) N97 S103 rfl (fun h104 W104 V104 r104 => ?_)
    have V104_ : Arv Z h104 a97 k97 .char (9 : Int32) (([(112 : Int32), (105 : Int32), (100 : Int32), (95 : Int32), (102 : Int32), (111 : Int32), (117 : Int32), 0, 0] : List Int32).map Value.int) (.int 0) := V104
    have S104 := r104.safe V103_.lt S103
    refine WP.dup (n := 45) dMF_44 rfl rfl ?_
    refine WP.bipush (n := 47) (z := (7 : Int32)) dMF_45 (by decide) rfl ?_
    refine WP.bipush (n := 49) (z := (110 : Int32)) dMF_47 (by decide) rfl ?_
    refine WP.stC (n := 50) (i := 7) (y := (110 : Int32)) dMF_49 V104_ (by decide) rfl (Nat.le_of_ble_eq_true rfl) (by decide) N97 S104 rfl (fun h105 W105 V105 r105 => ?_)
    have V105_ : Arv Z h105 a97 k97 .char (9 : Int32) (([(112 : Int32), (105 : Int32), (100 : Int32), (95 : Int32), (102 : Int32), (111 : Int32), (117 : Int32), (110 : Int32), 0] : List Int32).map Value.int) (.int 0) := V105
    have S105 := r105.safe V104_.lt S104
    refine WP.dup (n := 51) dMF_50 rfl rfl ?_
    refine WP.bipush (n := 53) (z := (8 : Int32)) dMF_51 (by decide) rfl ?_
    refine WP.bipush (n := 55) (z := (100 : Int32)) dMF_53 (by decide) rfl ?_
    refine WP.stC (n := 56) (i := 8) (y := (100 : Int32)) dMF_55 V105_ (by decide) rfl (Nat.le_of_ble_eq_true rfl) (by decide) N97 S105 rfl (fun h106 W106 V106 r106 => ?_)
    have V106_ : Arv Z h106 a97 k97 .char (9 : Int32) (([(112 : Int32), (105 : Int32), (100 : Int32), (95 : Int32), (102 : Int32), (111 : Int32), (117 : Int32), (110 : Int32), (100 : Int32)] : List Int32).map Value.int) (.int 0) := V106
    have S106 := r106.safe V105_.lt S105
    exact WP.retA dMF_56 rfl rfl rfl rfl (by decide) (by decide) ⟨a97, k97, [(112 : Int32), (105 : Int32), (100 : Int32), (95 : Int32), (102 : Int32), (111 : Int32), (117 : Int32), (110 : Int32), (100 : Int32)], rfl, Nat.le_of_eq g97.symm, (ext_wr (ext_wr (ext_wr (ext_wr (ext_wr (ext_wr (ext_wr (ext_wr (ext_wr E97 W98 (Nat.le_of_eq g97.symm)) W99 (Nat.le_of_eq g97.symm)) W100 (Nat.le_of_eq g97.symm)) W101 (Nat.le_of_eq g97.symm)) W102 (Nat.le_of_eq g97.symm)) W103 (Nat.le_of_eq g97.symm)) W104 (Nat.le_of_eq g97.symm)) W105 (Nat.le_of_eq g97.symm)) W106 (Nat.le_of_eq g97.symm)), ⟨V106_, Nat.le_of_ble_eq_true rfl, (own_rng_cons (by decide) (own_rng_cons (by decide) (own_rng_cons (by decide) (own_rng_cons (by decide) (own_rng_cons (by decide) (own_rng_cons (by decide) (own_rng_cons (by decide) (own_rng_cons (by decide) (own_rng_cons (by decide) own_rng_nil)))))))))⟩, Nat.le_of_ble_eq_true rfl⟩
theorem dMD_0 : decode method_5_code 0 = .ok (.iload_n 0, 1) := by decide +kernel
theorem dMD_1 : decode method_5_code 1 = .ok (.ifCond .ne 50, 3) := by decide +kernel
theorem dMD_4 : decode method_5_code 4 = .ok (.bipush 8, 2) := by decide +kernel
theorem dMD_6 : decode method_5_code 6 = .ok (.newarray .char, 2) := by decide +kernel
theorem dMD_8 : decode method_5_code 8 = .ok (.dup, 1) := by decide +kernel
theorem dMD_9 : decode method_5_code 9 = .ok (.iconst 0, 1) := by decide +kernel
theorem dMD_10 : decode method_5_code 10 = .ok (.bipush 112, 2) := by decide +kernel
theorem dMD_12 : decode method_5_code 12 = .ok (.castore, 1) := by decide +kernel
theorem dMD_13 : decode method_5_code 13 = .ok (.dup, 1) := by decide +kernel
theorem dMD_14 : decode method_5_code 14 = .ok (.iconst 1, 1) := by decide +kernel
theorem dMD_15 : decode method_5_code 15 = .ok (.bipush 105, 2) := by decide +kernel
theorem dMD_17 : decode method_5_code 17 = .ok (.castore, 1) := by decide +kernel
theorem dMD_18 : decode method_5_code 18 = .ok (.dup, 1) := by decide +kernel
theorem dMD_19 : decode method_5_code 19 = .ok (.iconst 2, 1) := by decide +kernel
theorem dMD_20 : decode method_5_code 20 = .ok (.bipush 100, 2) := by decide +kernel
theorem dMD_22 : decode method_5_code 22 = .ok (.castore, 1) := by decide +kernel
theorem dMD_23 : decode method_5_code 23 = .ok (.dup, 1) := by decide +kernel
theorem dMD_24 : decode method_5_code 24 = .ok (.iconst 3, 1) := by decide +kernel
theorem dMD_25 : decode method_5_code 25 = .ok (.bipush 95, 2) := by decide +kernel
theorem dMD_27 : decode method_5_code 27 = .ok (.castore, 1) := by decide +kernel
theorem dMD_28 : decode method_5_code 28 = .ok (.dup, 1) := by decide +kernel
theorem dMD_29 : decode method_5_code 29 = .ok (.iconst 4, 1) := by decide +kernel
theorem dMD_30 : decode method_5_code 30 = .ok (.bipush 102, 2) := by decide +kernel
theorem dMD_32 : decode method_5_code 32 = .ok (.castore, 1) := by decide +kernel
theorem dMD_33 : decode method_5_code 33 = .ok (.dup, 1) := by decide +kernel
theorem dMD_34 : decode method_5_code 34 = .ok (.iconst 5, 1) := by decide +kernel
theorem dMD_35 : decode method_5_code 35 = .ok (.bipush 111, 2) := by decide +kernel
theorem dMD_37 : decode method_5_code 37 = .ok (.castore, 1) := by decide +kernel
theorem dMD_38 : decode method_5_code 38 = .ok (.dup, 1) := by decide +kernel
theorem dMD_39 : decode method_5_code 39 = .ok (.bipush 6, 2) := by decide +kernel
theorem dMD_41 : decode method_5_code 41 = .ok (.bipush 117, 2) := by decide +kernel
theorem dMD_43 : decode method_5_code 43 = .ok (.castore, 1) := by decide +kernel
theorem dMD_44 : decode method_5_code 44 = .ok (.dup, 1) := by decide +kernel
theorem dMD_45 : decode method_5_code 45 = .ok (.bipush 7, 2) := by decide +kernel
theorem dMD_47 : decode method_5_code 47 = .ok (.bipush 110, 2) := by decide +kernel
theorem dMD_49 : decode method_5_code 49 = .ok (.castore, 1) := by decide +kernel
theorem dMD_50 : decode method_5_code 50 = .ok (.areturn, 1) := by decide +kernel
theorem dMD_51 : decode method_5_code 51 = .ok (.iload_n 0, 1) := by decide +kernel
theorem dMD_52 : decode method_5_code 52 = .ok (.iconst 1, 1) := by decide +kernel
theorem dMD_53 : decode method_5_code 53 = .ok (.if_icmp .ne 68, 3) := by decide +kernel
theorem dMD_56 : decode method_5_code 56 = .ok (.bipush 11, 2) := by decide +kernel
theorem dMD_58 : decode method_5_code 58 = .ok (.newarray .char, 2) := by decide +kernel
theorem dMD_60 : decode method_5_code 60 = .ok (.dup, 1) := by decide +kernel
theorem dMD_61 : decode method_5_code 61 = .ok (.iconst 0, 1) := by decide +kernel
theorem dMD_62 : decode method_5_code 62 = .ok (.bipush 112, 2) := by decide +kernel
theorem dMD_64 : decode method_5_code 64 = .ok (.castore, 1) := by decide +kernel
theorem dMD_65 : decode method_5_code 65 = .ok (.dup, 1) := by decide +kernel
theorem dMD_66 : decode method_5_code 66 = .ok (.iconst 1, 1) := by decide +kernel
theorem dMD_67 : decode method_5_code 67 = .ok (.bipush 105, 2) := by decide +kernel
theorem dMD_69 : decode method_5_code 69 = .ok (.castore, 1) := by decide +kernel
theorem dMD_70 : decode method_5_code 70 = .ok (.dup, 1) := by decide +kernel
theorem dMD_71 : decode method_5_code 71 = .ok (.iconst 2, 1) := by decide +kernel
theorem dMD_72 : decode method_5_code 72 = .ok (.bipush 100, 2) := by decide +kernel
theorem dMD_74 : decode method_5_code 74 = .ok (.castore, 1) := by decide +kernel
theorem dMD_75 : decode method_5_code 75 = .ok (.dup, 1) := by decide +kernel
theorem dMD_76 : decode method_5_code 76 = .ok (.iconst 3, 1) := by decide +kernel
theorem dMD_77 : decode method_5_code 77 = .ok (.bipush 95, 2) := by decide +kernel
theorem dMD_79 : decode method_5_code 79 = .ok (.castore, 1) := by decide +kernel
theorem dMD_80 : decode method_5_code 80 = .ok (.dup, 1) := by decide +kernel
theorem dMD_81 : decode method_5_code 81 = .ok (.iconst 4, 1) := by decide +kernel
theorem dMD_82 : decode method_5_code 82 = .ok (.bipush 110, 2) := by decide +kernel
theorem dMD_84 : decode method_5_code 84 = .ok (.castore, 1) := by decide +kernel
theorem dMD_85 : decode method_5_code 85 = .ok (.dup, 1) := by decide +kernel
theorem dMD_86 : decode method_5_code 86 = .ok (.iconst 5, 1) := by decide +kernel
theorem dMD_87 : decode method_5_code 87 = .ok (.bipush 111, 2) := by decide +kernel
theorem dMD_89 : decode method_5_code 89 = .ok (.castore, 1) := by decide +kernel
theorem dMD_90 : decode method_5_code 90 = .ok (.dup, 1) := by decide +kernel
theorem dMD_91 : decode method_5_code 91 = .ok (.bipush 6, 2) := by decide +kernel
theorem dMD_93 : decode method_5_code 93 = .ok (.bipush 116, 2) := by decide +kernel
theorem dMD_95 : decode method_5_code 95 = .ok (.castore, 1) := by decide +kernel
theorem dMD_96 : decode method_5_code 96 = .ok (.dup, 1) := by decide +kernel
theorem dMD_97 : decode method_5_code 97 = .ok (.bipush 7, 2) := by decide +kernel
theorem dMD_99 : decode method_5_code 99 = .ok (.bipush 70, 2) := by decide +kernel
theorem dMD_101 : decode method_5_code 101 = .ok (.castore, 1) := by decide +kernel
theorem dMD_102 : decode method_5_code 102 = .ok (.dup, 1) := by decide +kernel
theorem dMD_103 : decode method_5_code 103 = .ok (.bipush 8, 2) := by decide +kernel
theorem dMD_105 : decode method_5_code 105 = .ok (.bipush 111, 2) := by decide +kernel
theorem dMD_107 : decode method_5_code 107 = .ok (.castore, 1) := by decide +kernel
theorem dMD_108 : decode method_5_code 108 = .ok (.dup, 1) := by decide +kernel
theorem dMD_109 : decode method_5_code 109 = .ok (.bipush 9, 2) := by decide +kernel
theorem dMD_111 : decode method_5_code 111 = .ok (.bipush 117, 2) := by decide +kernel
theorem dMD_113 : decode method_5_code 113 = .ok (.castore, 1) := by decide +kernel
theorem dMD_114 : decode method_5_code 114 = .ok (.dup, 1) := by decide +kernel
theorem dMD_115 : decode method_5_code 115 = .ok (.bipush 10, 2) := by decide +kernel
theorem dMD_117 : decode method_5_code 117 = .ok (.bipush 110, 2) := by decide +kernel
theorem dMD_119 : decode method_5_code 119 = .ok (.castore, 1) := by decide +kernel
theorem dMD_120 : decode method_5_code 120 = .ok (.areturn, 1) := by decide +kernel
theorem dMD_121 : decode method_5_code 121 = .ok (.bipush 10, 2) := by decide +kernel
theorem dMD_123 : decode method_5_code 123 = .ok (.newarray .char, 2) := by decide +kernel
theorem dMD_125 : decode method_5_code 125 = .ok (.dup, 1) := by decide +kernel
theorem dMD_126 : decode method_5_code 126 = .ok (.iconst 0, 1) := by decide +kernel
theorem dMD_127 : decode method_5_code 127 = .ok (.bipush 112, 2) := by decide +kernel
theorem dMD_129 : decode method_5_code 129 = .ok (.castore, 1) := by decide +kernel
theorem dMD_130 : decode method_5_code 130 = .ok (.dup, 1) := by decide +kernel
theorem dMD_131 : decode method_5_code 131 = .ok (.iconst 1, 1) := by decide +kernel
theorem dMD_132 : decode method_5_code 132 = .ok (.bipush 105, 2) := by decide +kernel
theorem dMD_134 : decode method_5_code 134 = .ok (.castore, 1) := by decide +kernel
theorem dMD_135 : decode method_5_code 135 = .ok (.dup, 1) := by decide +kernel
theorem dMD_136 : decode method_5_code 136 = .ok (.iconst 2, 1) := by decide +kernel
theorem dMD_137 : decode method_5_code 137 = .ok (.bipush 100, 2) := by decide +kernel
theorem dMD_139 : decode method_5_code 139 = .ok (.castore, 1) := by decide +kernel
theorem dMD_140 : decode method_5_code 140 = .ok (.dup, 1) := by decide +kernel
theorem dMD_141 : decode method_5_code 141 = .ok (.iconst 3, 1) := by decide +kernel
theorem dMD_142 : decode method_5_code 142 = .ok (.bipush 95, 2) := by decide +kernel
theorem dMD_144 : decode method_5_code 144 = .ok (.castore, 1) := by decide +kernel
theorem dMD_145 : decode method_5_code 145 = .ok (.dup, 1) := by decide +kernel
theorem dMD_146 : decode method_5_code 146 = .ok (.iconst 4, 1) := by decide +kernel
theorem dMD_147 : decode method_5_code 147 = .ok (.bipush 105, 2) := by decide +kernel
theorem dMD_149 : decode method_5_code 149 = .ok (.castore, 1) := by decide +kernel
theorem dMD_150 : decode method_5_code 150 = .ok (.dup, 1) := by decide +kernel
theorem dMD_151 : decode method_5_code 151 = .ok (.iconst 5, 1) := by decide +kernel
theorem dMD_152 : decode method_5_code 152 = .ok (.bipush 110, 2) := by decide +kernel
theorem dMD_154 : decode method_5_code 154 = .ok (.castore, 1) := by decide +kernel
theorem dMD_155 : decode method_5_code 155 = .ok (.dup, 1) := by decide +kernel
theorem dMD_156 : decode method_5_code 156 = .ok (.bipush 6, 2) := by decide +kernel
theorem dMD_158 : decode method_5_code 158 = .ok (.bipush 118, 2) := by decide +kernel
theorem dMD_160 : decode method_5_code 160 = .ok (.castore, 1) := by decide +kernel
theorem dMD_161 : decode method_5_code 161 = .ok (.dup, 1) := by decide +kernel
theorem dMD_162 : decode method_5_code 162 = .ok (.bipush 7, 2) := by decide +kernel
theorem dMD_164 : decode method_5_code 164 = .ok (.bipush 97, 2) := by decide +kernel
theorem dMD_166 : decode method_5_code 166 = .ok (.castore, 1) := by decide +kernel
theorem dMD_167 : decode method_5_code 167 = .ok (.dup, 1) := by decide +kernel
theorem dMD_168 : decode method_5_code 168 = .ok (.bipush 8, 2) := by decide +kernel
theorem dMD_170 : decode method_5_code 170 = .ok (.bipush 108, 2) := by decide +kernel
theorem dMD_172 : decode method_5_code 172 = .ok (.castore, 1) := by decide +kernel
theorem dMD_173 : decode method_5_code 173 = .ok (.dup, 1) := by decide +kernel
theorem dMD_174 : decode method_5_code 174 = .ok (.bipush 9, 2) := by decide +kernel
theorem dMD_176 : decode method_5_code 176 = .ok (.bipush 105, 2) := by decide +kernel
theorem dMD_178 : decode method_5_code 178 = .ok (.castore, 1) := by decide +kernel
theorem dMD_179 : decode method_5_code 179 = .ok (.areturn, 1) := by decide +kernel
set_option maxRecDepth 65536 in
set_option maxHeartbeats 40000000 in
theorem own_md (l : Launch) (Z : State) (a0 : Array Value) (hw : ∀ d ∈ tables_1, d.before a0 Z = true) (EL : List (String × Nat)) (hEL : EW Z a0 EL) (h0 : Heap) (k : Int32) :
    Con l Z EL false [] (⟨"com/example/research_api_client/researchapiclient/lotus/StatusOfMemberPinLaw", "dropLast", "(I)[C"⟩ : MethodName) method_5_code 1 (some (.array .char)) ({ frames := 0, cells := 1, slots := 13, locals := 0 } : Room) #[(.int k)] h0 (fun v h' => ∃ (c : Addr) (kc : ClassId) (cs : List Int32), v = some (.ref c) ∧ h0.size ≤ c ∧ Ext h0 h' ∧ own_CA Z h' c kc cs) := by
  refine Con.of (Ls := #[.val (.int k)]) (plainFor_of_name own_pn6) hEL (fun m => by first | (simp [entryFrame, mkF, argsToLocals, Value.category]; done) | rfl) ?_
  intro vm0 hZ0 hE0 hC0 hS0
  refine WP.iloadN (n := 1) dMD_0 rfl rfl ?_
  refine WP.if_ne (n := 51) (n' := 4) dMD_1 (by decide) (by decide) rfl (fun b107 => ?_) (fun b107 => ?_)
  · refine WP.iloadN (n := 52) dMD_51 rfl rfl ?_
    refine WP.iconst (n := 53) (z := (1 : Int32)) dMD_52 rfl rfl ?_
    refine WP.icmp_ne (n := 121) (n' := 56) dMD_53 (by decide) (by decide) rfl (fun b108 => ?_) (fun b108 => ?_)
    · refine WP.bipush (n := 123) (z := (10 : Int32)) dMD_121 (by decide) rfl ?_
      refine WP.newP (n := 125) (ce' := 1) (sl' := 10) (cap := 10) (ty := .char) dMD_123 (hw _ (List.mem_of_getElem? (i := 5) rfl)) rfl (by decide) (by decide) (by decide) rfl rfl (by decide) (by decide) rfl (fun a109 h109 k109 g109 E109 V109 S109 N109 r109 => ?_)
      have V109_ : Arv Z h109 a109 k109 .char (10 : Int32) (([0, 0, 0, 0, 0, 0, 0, 0, 0, 0] : List Int32).map Value.int) (.int 0) := V109.pad (pad_rep [] (.int 0) 10)
      refine WP.dup (n := 126) dMD_125 rfl rfl ?_
      refine WP.iconst (n := 127) (z := (0 : Int32)) dMD_126 rfl rfl ?_
      refine WP.bipush (n := 129) (z := (112 : Int32)) dMD_127 (by decide) rfl ?_
      refine WP.stC (n := 130) (i := 0) (y := (112 : Int32)) dMD_129 V109_ (by decide) rfl (Nat.le_of_ble_eq_true rfl) (by decide) N109 S109 rfl (fun h110 W110 V110 r110 => ?_)
      have V110_ : Arv Z h110 a109 k109 .char (10 : Int32) (([(112 : Int32), 0, 0, 0, 0, 0, 0, 0, 0, 0] : List Int32).map Value.int) (.int 0) := V110
      have S110 := r110.safe V109_.lt S109
      refine WP.dup (n := 131) dMD_130 rfl rfl ?_
      refine WP.iconst (n := 132) (z := (1 : Int32)) dMD_131 rfl rfl ?_
      refine WP.bipush (n := 134) (z := (105 : Int32)) dMD_132 (by decide) rfl ?_
      refine WP.stC (n := 135) (i := 1) (y := (105 : Int32)) dMD_134 V110_ (by decide) rfl (Nat.le_of_ble_eq_true rfl) (by decide) N109 S110 rfl (fun h111 W111 V111 r111 => ?_)
      have V111_ : Arv Z h111 a109 k109 .char (10 : Int32) (([(112 : Int32), (105 : Int32), 0, 0, 0, 0, 0, 0, 0, 0] : List Int32).map Value.int) (.int 0) := V111
      have S111 := r111.safe V110_.lt S110
      refine WP.dup (n := 136) dMD_135 rfl rfl ?_
      refine WP.iconst (n := 137) (z := (2 : Int32)) dMD_136 rfl rfl ?_
      refine WP.bipush (n := 139) (z := (100 : Int32)) dMD_137 (by decide) rfl ?_
      refine WP.stC (n := 140) (i := 2) (y := (100 : Int32)) dMD_139 V111_ (by decide) rfl (Nat.le_of_ble_eq_true rfl) (by decide) N109 S111 rfl (fun h112 W112 V112 r112 => ?_)
      have V112_ : Arv Z h112 a109 k109 .char (10 : Int32) (([(112 : Int32), (105 : Int32), (100 : Int32), 0, 0, 0, 0, 0, 0, 0] : List Int32).map Value.int) (.int 0) := V112
      have S112 := r112.safe V111_.lt S111
      refine WP.dup (n := 141) dMD_140 rfl rfl ?_
      refine WP.iconst (n := 142) (z := (3 : Int32)) dMD_141 rfl rfl ?_
      refine WP.bipush (n := 144) (z := (95 : Int32)) dMD_142 (by decide) rfl ?_
      refine WP.stC (n := 145) (i := 3) (y := (95 : Int32)) dMD_144 V112_ (by decide) rfl (Nat.le_of_ble_eq_true rfl) (by decide) N109 S112 rfl (fun h113 W113 V113 r113 => ?_)
      have V113_ : Arv Z h113 a109 k109 .char (10 : Int32) (([(112 : Int32), (105 : Int32), (100 : Int32), (95 : Int32), 0, 0, 0, 0, 0, 0] : List Int32).map Value.int) (.int 0) := V113
      have S113 := r113.safe V112_.lt S112
      refine WP.dup (n := 146) dMD_145 rfl rfl ?_
      refine WP.iconst (n := 147) (z := (4 : Int32)) dMD_146 rfl rfl ?_
      refine WP.bipush (n := 149) (z := (105 : Int32)) dMD_147 (by decide) rfl ?_
      refine WP.stC (n := 150) (i := 4) (y := (105 : Int32)) dMD_149 V113_ (by decide) rfl (Nat.le_of_ble_eq_true rfl) (by decide) N109 S113 rfl (fun h114 W114 V114 r114 => ?_)
      have V114_ : Arv Z h114 a109 k109 .char (10 : Int32) (([(112 : Int32), (105 : Int32), (100 : Int32), (95 : Int32), (105 : Int32), 0, 0, 0, 0, 0] : List Int32).map Value.int) (.int 0) := V114
      have S114 := r114.safe V113_.lt S113
      refine WP.dup (n := 151) dMD_150 rfl rfl ?_
      refine WP.iconst (n := 152) (z := (5 : Int32)) dMD_151 rfl rfl ?_
      refine WP.bipush (n := 154) (z := (110 : Int32)) dMD_152 (by decide) rfl ?_
      refine WP.stC (n := 155) (i := 5) (y := (110 : Int32)) dMD_154 V114_ (by decide) rfl (Nat.le_of_ble_eq_true rfl) (by decide) N109 S114 rfl (fun h115 W115 V115 r115 => ?_)
      have V115_ : Arv Z h115 a109 k109 .char (10 : Int32) (([(112 : Int32), (105 : Int32), (100 : Int32), (95 : Int32), (105 : Int32), (110 : Int32), 0, 0, 0, 0] : List Int32).map Value.int) (.int 0) := V115
      have S115 := r115.safe V114_.lt S114
      refine WP.dup (n := 156) dMD_155 rfl rfl ?_
      refine WP.bipush (n := 158) (z := (6 : Int32)) dMD_156 (by decide) rfl ?_
      refine WP.bipush (n := 160) (z := (118 : Int32)) dMD_158 (by decide) rfl ?_
      refine WP.stC (n := 161) (i := 6) (y := (118 : Int32)) dMD_160 V115_ (by decide) rfl (Nat.le_of_ble_eq_true rfl) (by decide) N109 S115 rfl (fun h116 W116 V116 r116 => ?_)
      have V116_ : Arv Z h116 a109 k109 .char (10 : Int32) (([(112 : Int32), (105 : Int32), (100 : Int32), (95 : Int32), (105 : Int32), (110 : Int32), (118 : Int32), 0, 0, 0] : List Int32).map Value.int) (.int 0) := V116
      have S116 := r116.safe V115_.lt S115
      refine WP.dup (n := 162) dMD_161 rfl rfl ?_
      refine WP.bipush (n := 164) (z := (7 : Int32)) dMD_162 (by decide) rfl ?_
      refine WP.bipush (n := 166) (z := (97 : Int32)) dMD_164 (by decide) rfl ?_
      refine WP.stC (n := 167) (i := 7) (y := (97 : Int32)) dMD_166 V116_ (by decide) rfl (Nat.le_of_ble_eq_true rfl) (by decide) N109 S116 rfl (fun h117 W117 V117 r117 => ?_)
      have V117_ : Arv Z h117 a109 k109 .char (10 : Int32) (([(112 : Int32), (105 : Int32), (100 : Int32), (95 : Int32), (105 : Int32), (110 : Int32), (118 : Int32), (97 : Int32), 0, 0] : List Int32).map Value.int) (.int 0) := V117
      have S117 := r117.safe V116_.lt S116
      refine WP.dup (n := 168) dMD_167 rfl rfl ?_
      refine WP.bipush (n := 170) (z := (8 : Int32)) dMD_168 (by decide) rfl ?_
      refine WP.bipush (n := 172) (z := (108 : Int32)) dMD_170 (by decide) rfl ?_
      refine WP.stC (n := 173) (i := 8) (y := (108 : Int32)) dMD_172 V117_ (by decide) rfl (Nat.le_of_ble_eq_true rfl) (by decide) N109 S117 rfl (fun h118 W118 V118 r118 => ?_)
      have V118_ : Arv Z h118 a109 k109 .char (10 : Int32) (([(112 : Int32), (105 : Int32), (100 : Int32), (95 : Int32), (105 : Int32), (110 : Int32), (118 : Int32), (97 : Int32), (108 : Int32), 0] : List Int32).map Value.int) (.int 0) := V118
      have S118 := r118.safe V117_.lt S117
      refine WP.dup (n := 174) dMD_173 rfl rfl ?_
      refine WP.bipush (n := 176) (z := (9 : Int32)) dMD_174 (by decide) rfl ?_
      refine WP.bipush (n := 178) (z := (105 : Int32)) dMD_176 (by decide) rfl ?_
      refine WP.stC (n := 179) (i := 9) (y := (105 : Int32)) dMD_178 V118_ (by decide) rfl (Nat.le_of_ble_eq_true rfl) (by decide) N109 S118 rfl (fun h119 W119 V119 r119 => ?_)
      have V119_ : Arv Z h119 a109 k109 .char (10 : Int32) (([(112 : Int32), (105 : Int32), (100 : Int32), (95 : Int32), (105 : Int32), (110 : Int32), (118 : Int32), (97 : Int32), (108 : Int32), (105 : Int32)] : List Int32).map Value.int) (.int 0) := V119
      have S119 := r119.safe V118_.lt S118
      exact WP.retA dMD_179 rfl rfl rfl rfl (by decide) (by decide) ⟨a109, k109, [(112 : Int32), (105 : Int32), (100 : Int32), (95 : Int32), (105 : Int32), (110 : Int32), (118 : Int32), (97 : Int32), (108 : Int32), (105 : Int32)], rfl, Nat.le_of_eq g109.symm, (ext_wr (ext_wr (ext_wr (ext_wr (ext_wr (ext_wr (ext_wr (ext_wr (ext_wr (ext_wr E109 W110 (Nat.le_of_eq g109.symm)) W111 (Nat.le_of_eq g109.symm)) W112 (Nat.le_of_eq g109.symm)) W113 (Nat.le_of_eq g109.symm)) W114 (Nat.le_of_eq g109.symm)) W115 (Nat.le_of_eq g109.symm)) W116 (Nat.le_of_eq g109.symm)) W117 (Nat.le_of_eq g109.symm)) W118 (Nat.le_of_eq g109.symm)) W119 (Nat.le_of_eq g109.symm)), ⟨V119_, Nat.le_of_ble_eq_true rfl, (own_rng_cons (by decide) (own_rng_cons (by decide) (own_rng_cons (by decide) (own_rng_cons (by decide) (own_rng_cons (by decide) (own_rng_cons (by decide) (own_rng_cons (by decide) (own_rng_cons (by decide) (own_rng_cons (by decide) (own_rng_cons (by decide) own_rng_nil))))))))))⟩⟩
    · refine WP.bipush (n := 58) (z := (11 : Int32)) dMD_56 (by decide) rfl ?_
      refine WP.newP (n := 60) (ce' := 1) (sl' := 11) (cap := 11) (ty := .char) dMD_58 (hw _ (List.mem_of_getElem? (i := 5) rfl)) rfl (by decide) (by decide) (by decide) rfl rfl (by decide) (by decide) rfl (fun a120 h120 k120 g120 E120 V120 S120 N120 r120 => ?_)
      have V120_ : Arv Z h120 a120 k120 .char (11 : Int32) (([0, 0, 0, 0, 0, 0, 0, 0, 0, 0, 0] : List Int32).map Value.int) (.int 0) := V120.pad (pad_rep [] (.int 0) 11)
      refine WP.dup (n := 61) dMD_60 rfl rfl ?_
      refine WP.iconst (n := 62) (z := (0 : Int32)) dMD_61 rfl rfl ?_
      refine WP.bipush (n := 64) (z := (112 : Int32)) dMD_62 (by decide) rfl ?_
      refine WP.stC (n := 65) (i := 0) (y := (112 : Int32)) dMD_64 V120_ (by decide) rfl (Nat.le_of_ble_eq_true rfl) (by decide) N120 S120 rfl (fun h121 W121 V121 r121 => ?_)
      have V121_ : Arv Z h121 a120 k120 .char (11 : Int32) (([(112 : Int32), 0, 0, 0, 0, 0, 0, 0, 0, 0, 0] : List Int32).map Value.int) (.int 0) := V121
      have S121 := r121.safe V120_.lt S120
      refine WP.dup (n := 66) dMD_65 rfl rfl ?_
      refine WP.iconst (n := 67) (z := (1 : Int32)) dMD_66 rfl rfl ?_
      refine WP.bipush (n := 69) (z := (105 : Int32)) dMD_67 (by decide) rfl ?_
      refine WP.stC (n := 70) (i := 1) (y := (105 : Int32)) dMD_69 V121_ (by decide) rfl (Nat.le_of_ble_eq_true rfl) (by decide) N120 S121 rfl (fun h122 W122 V122 r122 => ?_)
      have V122_ : Arv Z h122 a120 k120 .char (11 : Int32) (([(112 : Int32), (105 : Int32), 0, 0, 0, 0, 0, 0, 0, 0, 0] : List Int32).map Value.int) (.int 0) := V122
      have S122 := r122.safe V121_.lt S121
      refine WP.dup (n := 71) dMD_70 rfl rfl ?_
      refine WP.iconst (n := 72) (z := (2 : Int32)) dMD_71 rfl rfl ?_
      refine WP.bipush (n := 74) (z := (100 : Int32)) dMD_72 (by decide) rfl ?_
      refine WP.stC (n := 75) (i := 2) (y := (100 : Int32)) dMD_74 V122_ (by decide) rfl (Nat.le_of_ble_eq_true rfl) (by decide) N120 S122 rfl (fun h123 W123 V123 r123 => ?_)
      have V123_ : Arv Z h123 a120 k120 .char (11 : Int32) (([(112 : Int32), (105 : Int32), (100 : Int32), 0, 0, 0, 0, 0, 0, 0, 0] : List Int32).map Value.int) (.int 0) := V123
      have S123 := r123.safe V122_.lt S122
      refine WP.dup (n := 76) dMD_75 rfl rfl ?_
      refine WP.iconst (n := 77) (z := (3 : Int32)) dMD_76 rfl rfl ?_
      refine WP.bipush (n := 79) (z := (95 : Int32)) dMD_77 (by decide) rfl ?_
      refine WP.stC (n := 80) (i := 3) (y := (95 : Int32)) dMD_79 V123_ (by decide) rfl (Nat.le_of_ble_eq_true rfl) (by decide) N120 S123 rfl (fun h124 W124 V124 r124 => ?_)
      have V124_ : Arv Z h124 a120 k120 .char (11 : Int32) (([(112 : Int32), (105 : Int32), (100 : Int32), (95 : Int32), 0, 0, 0, 0, 0, 0, 0] : List Int32).map Value.int) (.int 0) := V124
      have S124 := r124.safe V123_.lt S123
      refine WP.dup (n := 81) dMD_80 rfl rfl ?_
      refine WP.iconst (n := 82) (z := (4 : Int32)) dMD_81 rfl rfl ?_
      refine WP.bipush (n := 84) (z := (110 : Int32)) dMD_82 (by decide) rfl ?_
      refine WP.stC (n := 85) (i := 4) (y := (110 : Int32)) dMD_84 V124_ (by decide) rfl (Nat.le_of_ble_eq_true rfl) (by decide) N120 S124 rfl (fun h125 W125 V125 r125 => ?_)
      have V125_ : Arv Z h125 a120 k120 .char (11 : Int32) (([(112 : Int32), (105 : Int32), (100 : Int32), (95 : Int32), (110 : Int32), 0, 0, 0, 0, 0, 0] : List Int32).map Value.int) (.int 0) := V125
      have S125 := r125.safe V124_.lt S124
      refine WP.dup (n := 86) dMD_85 rfl rfl ?_
      refine WP.iconst (n := 87) (z := (5 : Int32)) dMD_86 rfl rfl ?_
      refine WP.bipush (n := 89) (z := (111 : Int32)) dMD_87 (by decide) rfl ?_
      refine WP.stC (n := 90) (i := 5) (y := (111 : Int32)) dMD_89 V125_ (by decide) rfl (Nat.le_of_ble_eq_true rfl) (by decide) N120 S125 rfl (fun h126 W126 V126 r126 => ?_)
      have V126_ : Arv Z h126 a120 k120 .char (11 : Int32) (([(112 : Int32), (105 : Int32), (100 : Int32), (95 : Int32), (110 : Int32), (111 : Int32), 0, 0, 0, 0, 0] : List Int32).map Value.int) (.int 0) := V126
      have S126 := r126.safe V125_.lt S125
      refine WP.dup (n := 91) dMD_90 rfl rfl ?_
      refine WP.bipush (n := 93) (z := (6 : Int32)) dMD_91 (by decide) rfl ?_
      refine WP.bipush (n := 95) (z := (116 : Int32)) dMD_93 (by decide) rfl ?_
      refine WP.stC (n := 96) (i := 6) (y := (116 : Int32)) dMD_95 V126_ (by decide) rfl (Nat.le_of_ble_eq_true rfl) (by decide) N120 S126 rfl (fun h127 W127 V127 r127 => ?_)
      have V127_ : Arv Z h127 a120 k120 .char (11 : Int32) (([(112 : Int32), (105 : Int32), (100 : Int32), (95 : Int32), (110 : Int32), (111 : Int32), (116 : Int32), 0, 0, 0, 0] : List Int32).map Value.int) (.int 0) := V127
      have S127 := r127.safe V126_.lt S126
      refine WP.dup (n := 97) dMD_96 rfl rfl ?_
      refine WP.bipush (n := 99) (z := (7 : Int32)) dMD_97 (by decide) rfl ?_
      refine WP.bipush (n := 101) (z := (70 : Int32)) dMD_99 (by decide) rfl ?_
      refine WP.stC (n := 102) (i := 7) (y := (70 : Int32)) dMD_101 V127_ (by decide) rfl (Nat.le_of_ble_eq_true rfl) (by decide) N120 S127 rfl (fun h128 W128 V128 r128 => ?_)
      have V128_ : Arv Z h128 a120 k120 .char (11 : Int32) (([(112 : Int32), (105 : Int32), (100 : Int32), (95 : Int32), (110 : Int32), (111 : Int32), (116 : Int32), (70 : Int32), 0, 0, 0] : List Int32).map Value.int) (.int 0) := V128
      have S128 := r128.safe V127_.lt S127
      refine WP.dup (n := 103) dMD_102 rfl rfl ?_
      refine WP.bipush (n := 105) (z := (8 : Int32)) dMD_103 (by decide) rfl ?_
      refine WP.bipush (n := 107) (z := (111 : Int32)) dMD_105 (by decide) rfl ?_
      refine WP.stC (n := 108) (i := 8) (y := (111 : Int32)) dMD_107 V128_ (by decide) rfl (Nat.le_of_ble_eq_true rfl) (by decide) N120 S128 rfl (fun h129 W129 V129 r129 => ?_)
      have V129_ : Arv Z h129 a120 k120 .char (11 : Int32) (([(112 : Int32), (105 : Int32), (100 : Int32), (95 : Int32), (110 : Int32), (111 : Int32), (116 : Int32), (70 : Int32), (111 : Int32), 0, 0] : List Int32).map Value.int) (.int 0) := V129
      have S129 := r129.safe V128_.lt S128
      refine WP.dup (n := 109) dMD_108 rfl rfl ?_
      refine WP.bipush (n := 111) (z := (9 : Int32)) dMD_109 (by decide) rfl ?_
      refine WP.bipush (n := 113) (z := (117 : Int32)) dMD_111 (by decide) rfl ?_
      refine WP.stC (n := 114) (i := 9) (y := (117 : Int32)) dMD_113 V129_ (by decide) rfl (Nat.le_of_ble_eq_true rfl) (by decide) N120 S129 rfl (fun h130 W130 V130 r130 => ?_)
      have V130_ : Arv Z h130 a120 k120 .char (11 : Int32) (([(112 : Int32), (105 : Int32), (100 : Int32), (95 : Int32), (110 : Int32), (111 : Int32), (116 : Int32), (70 : Int32), (111 : Int32), (117 : Int32), 0] : List Int32).map Value.int) (.int 0) := V130
      have S130 := r130.safe V129_.lt S129
      refine WP.dup (n := 115) dMD_114 rfl rfl ?_
      refine WP.bipush (n := 117) (z := (10 : Int32)) dMD_115 (by decide) rfl ?_
      refine WP.bipush (n := 119) (z := (110 : Int32)) dMD_117 (by decide) rfl ?_
      refine WP.stC (n := 120) (i := 10) (y := (110 : Int32)) dMD_119 V130_ (by decide) rfl (Nat.le_of_ble_eq_true rfl) (by decide) N120 S130 rfl (fun h131 W131 V131 r131 => ?_)
      have V131_ : Arv Z h131 a120 k120 .char (11 : Int32) (([(112 : Int32), (105 : Int32), (100 : Int32), (95 : Int32), (110 : Int32), (111 : Int32), (116 : Int32), (70 : Int32), (111 : Int32), (117 : Int32), (110 : Int32)] : List Int32).map Value.int) (.int 0) := V131
      have S131 := r131.safe V130_.lt S130
      exact WP.retA dMD_120 rfl rfl rfl rfl (by decide) (by decide) ⟨a120, k120, [(112 : Int32), (105 : Int32), (100 : Int32), (95 : Int32), (110 : Int32), (111 : Int32), (116 : Int32), (70 : Int32), (111 : Int32), (117 : Int32), (110 : Int32)], rfl, Nat.le_of_eq g120.symm, (ext_wr (ext_wr (ext_wr (ext_wr (ext_wr (ext_wr (ext_wr (ext_wr (ext_wr (ext_wr (ext_wr E120 W121 (Nat.le_of_eq g120.symm)) W122 (Nat.le_of_eq g120.symm)) W123 (Nat.le_of_eq g120.symm)) W124 (Nat.le_of_eq g120.symm)) W125 (Nat.le_of_eq g120.symm)) W126 (Nat.le_of_eq g120.symm)) W127 (Nat.le_of_eq g120.symm)) W128 (Nat.le_of_eq g120.symm)) W129 (Nat.le_of_eq g120.symm)) W130 (Nat.le_of_eq g120.symm)) W131 (Nat.le_of_eq g120.symm)), ⟨V131_, Nat.le_of_ble_eq_true rfl, (own_rng_cons (by decide) (own_rng_cons (by decide) (own_rng_cons (by decide) (own_rng_cons (by decide) (own_rng_cons (by decide) (own_rng_cons (by decide) (own_rng_cons (by decide) (own_rng_cons (by decide) (own_rng_cons (by decide) (own_rng_cons (by decide) (own_rng_cons (by decide) own_rng_nil)))))))))))⟩⟩
  · refine WP.bipush (n := 6) (z := (8 : Int32)) dMD_4 (by decide) rfl ?_
    refine WP.newP (n := 8) (ce' := 1) (sl' := 8) (cap := 8) (ty := .char) dMD_6 (hw _ (List.mem_of_getElem? (i := 5) rfl)) rfl (by decide) (by decide) (by decide) rfl rfl (by decide) (by decide) rfl (fun a132 h132 k132 g132 E132 V132 S132 N132 r132 => ?_)
    have V132_ : Arv Z h132 a132 k132 .char (8 : Int32) (([0, 0, 0, 0, 0, 0, 0, 0] : List Int32).map Value.int) (.int 0) := V132.pad (pad_rep [] (.int 0) 8)
    refine WP.dup (n := 9) dMD_8 rfl rfl ?_
    refine WP.iconst (n := 10) (z := (0 : Int32)) dMD_9 rfl rfl ?_
    refine WP.bipush (n := 12) (z := (112 : Int32)) dMD_10 (by decide) rfl ?_
    refine WP.stC (n := 13) (i := 0) (y := (112 : Int32)) dMD_12 V132_ (by decide) rfl (Nat.le_of_ble_eq_true rfl) (by decide) N132 S132 rfl (fun h133 W133 V133 r133 => ?_)
    have V133_ : Arv Z h133 a132 k132 .char (8 : Int32) (([(112 : Int32), 0, 0, 0, 0, 0, 0, 0] : List Int32).map Value.int) (.int 0) := V133
    have S133 := r133.safe V132_.lt S132
    refine WP.dup (n := 14) dMD_13 rfl rfl ?_
    refine WP.iconst (n := 15) (z := (1 : Int32)) dMD_14 rfl rfl ?_
    refine WP.bipush (n := 17) (z := (105 : Int32)) dMD_15 (by decide) rfl ?_
    refine WP.stC (n := 18) (i := 1) (y := (105 : Int32)) dMD_17 V133_ (by decide) rfl (Nat.le_of_ble_eq_true rfl) (by decide) N132 S133 rfl (fun h134 W134 V134 r134 => ?_)
    have V134_ : Arv Z h134 a132 k132 .char (8 : Int32) (([(112 : Int32), (105 : Int32), 0, 0, 0, 0, 0, 0] : List Int32).map Value.int) (.int 0) := V134
    have S134 := r134.safe V133_.lt S133
    refine WP.dup (n := 19) dMD_18 rfl rfl ?_
    refine WP.iconst (n := 20) (z := (2 : Int32)) dMD_19 rfl rfl ?_
    refine WP.bipush (n := 22) (z := (100 : Int32)) dMD_20 (by decide) rfl ?_
    refine WP.stC (n := 23) (i := 2) (y := (100 : Int32)) dMD_22 V134_ (by decide) rfl (Nat.le_of_ble_eq_true rfl) (by decide) N132 S134 rfl (fun h135 W135 V135 r135 => ?_)
    have V135_ : Arv Z h135 a132 k132 .char (8 : Int32) (([(112 : Int32), (105 : Int32), (100 : Int32), 0, 0, 0, 0, 0] : List Int32).map Value.int) (.int 0) := V135
    have S135 := r135.safe V134_.lt S134
    refine WP.dup (n := 24) dMD_23 rfl rfl ?_
    refine WP.iconst (n := 25) (z := (3 : Int32)) dMD_24 rfl rfl ?_
    refine WP.bipush (n := 27) (z := (95 : Int32)) dMD_25 (by decide) rfl ?_
    refine WP.stC (n := 28) (i := 3) (y := (95 : Int32)) dMD_27 V135_ (by decide) rfl (Nat.le_of_ble_eq_true rfl) (by decide) N132 S135 rfl (fun h136 W136 V136 r136 => ?_)
    have V136_ : Arv Z h136 a132 k132 .char (8 : Int32) (([(112 : Int32), (105 : Int32), (100 : Int32), (95 : Int32), 0, 0, 0, 0] : List Int32).map Value.int) (.int 0) := V136
    have S136 := r136.safe V135_.lt S135
    refine WP.dup (n := 29) dMD_28 rfl rfl ?_
    refine WP.iconst (n := 30) (z := (4 : Int32)) dMD_29 rfl rfl ?_
    refine WP.bipush (n := 32) (z := (102 : Int32)) dMD_30 (by decide) rfl ?_
    refine WP.stC (n := 33) (i := 4) (y := (102 : Int32)) dMD_32 V136_ (by decide) rfl (Nat.le_of_ble_eq_true rfl) (by decide) N132 S136 rfl (fun h137 W137 V137 r137 => ?_)
    have V137_ : Arv Z h137 a132 k132 .char (8 : Int32) (([(112 : Int32), (105 : Int32), (100 : Int32), (95 : Int32), (102 : Int32), 0, 0, 0] : List Int32).map Value.int) (.int 0) := V137
    have S137 := r137.safe V136_.lt S136
    refine WP.dup (n := 34) dMD_33 rfl rfl ?_
    refine WP.iconst (n := 35) (z := (5 : Int32)) dMD_34 rfl rfl ?_
    refine WP.bipush (n := 37) (z := (111 : Int32)) dMD_35 (by decide) rfl ?_
    refine WP.stC (n := 38) (i := 5) (y := (111 : Int32)) dMD_37 V137_ (by decide) rfl (Nat.le_of_ble_eq_true rfl) (by decide) N132 S137 rfl (fun h138 W138 V138 r138 => ?_)
    have V138_ : Arv Z h138 a132 k132 .char (8 : Int32) (([(112 : Int32), (105 : Int32), (100 : Int32), (95 : Int32), (102 : Int32), (111 : Int32), 0, 0] : List Int32).map Value.int) (.int 0) := V138
    have S138 := r138.safe V137_.lt S137
    refine WP.dup (n := 39) dMD_38 rfl rfl ?_
    refine WP.bipush (n := 41) (z := (6 : Int32)) dMD_39 (by decide) rfl ?_
    refine WP.bipush (n := 43) (z := (117 : Int32)) dMD_41 (by decide) rfl ?_
    refine WP.stC (n := 44) (i := 6) (y := (117 : Int32)) dMD_43 V138_ (by decide) rfl (Nat.le_of_ble_eq_true rfl) (by decide) N132 S138 rfl (fun h139 W139 V139 r139 => ?_)
    have V139_ : Arv Z h139 a132 k132 .char (8 : Int32) (([(112 : Int32), (105 : Int32), (100 : Int32), (95 : Int32), (102 : Int32), (111 : Int32), (117 : Int32), 0] : List Int32).map Value.int) (.int 0) := V139
    have S139 := r139.safe V138_.lt S138
    refine WP.dup (n := 45) dMD_44 rfl rfl ?_
    refine WP.bipush (n := 47) (z := (7 : Int32)) dMD_45 (by decide) rfl ?_
    refine WP.bipush (n := 49) (z := (110 : Int32)) dMD_47 (by decide) rfl ?_
    refine WP.stC (n := 50) (i := 7) (y := (110 : Int32)) dMD_49 V139_ (by decide) rfl (Nat.le_of_ble_eq_true rfl) (by decide) N132 S139 rfl (fun h140 W140 V140 r140 => ?_)
    have V140_ : Arv Z h140 a132 k132 .char (8 : Int32) (([(112 : Int32), (105 : Int32), (100 : Int32), (95 : Int32), (102 : Int32), (111 : Int32), (117 : Int32), (110 : Int32)] : List Int32).map Value.int) (.int 0) := V140
    have S140 := r140.safe V139_.lt S139
    exact WP.retA dMD_50 rfl rfl rfl rfl (by decide) (by decide) ⟨a132, k132, [(112 : Int32), (105 : Int32), (100 : Int32), (95 : Int32), (102 : Int32), (111 : Int32), (117 : Int32), (110 : Int32)], rfl, Nat.le_of_eq g132.symm, (ext_wr (ext_wr (ext_wr (ext_wr (ext_wr (ext_wr (ext_wr (ext_wr E132 W133 (Nat.le_of_eq g132.symm)) W134 (Nat.le_of_eq g132.symm)) W135 (Nat.le_of_eq g132.symm)) W136 (Nat.le_of_eq g132.symm)) W137 (Nat.le_of_eq g132.symm)) W138 (Nat.le_of_eq g132.symm)) W139 (Nat.le_of_eq g132.symm)) W140 (Nat.le_of_eq g132.symm)), ⟨V140_, Nat.le_of_ble_eq_true rfl, (own_rng_cons (by decide) (own_rng_cons (by decide) (own_rng_cons (by decide) (own_rng_cons (by decide) (own_rng_cons (by decide) (own_rng_cons (by decide) (own_rng_cons (by decide) (own_rng_cons (by decide) own_rng_nil))))))))⟩⟩
theorem dMA_0 : decode method_6_code 0 = .ok (.iload_n 0, 1) := by decide +kernel
theorem dMA_1 : decode method_6_code 1 = .ok (.ifCond .ne 61, 3) := by decide +kernel
theorem dMA_4 : decode method_6_code 4 = .ok (.bipush 10, 2) := by decide +kernel
theorem dMA_6 : decode method_6_code 6 = .ok (.newarray .char, 2) := by decide +kernel
theorem dMA_8 : decode method_6_code 8 = .ok (.dup, 1) := by decide +kernel
theorem dMA_9 : decode method_6_code 9 = .ok (.iconst 0, 1) := by decide +kernel
theorem dMA_10 : decode method_6_code 10 = .ok (.bipush 112, 2) := by decide +kernel
theorem dMA_12 : decode method_6_code 12 = .ok (.castore, 1) := by decide +kernel
theorem dMA_13 : decode method_6_code 13 = .ok (.dup, 1) := by decide +kernel
theorem dMA_14 : decode method_6_code 14 = .ok (.iconst 1, 1) := by decide +kernel
theorem dMA_15 : decode method_6_code 15 = .ok (.bipush 105, 2) := by decide +kernel
theorem dMA_17 : decode method_6_code 17 = .ok (.castore, 1) := by decide +kernel
theorem dMA_18 : decode method_6_code 18 = .ok (.dup, 1) := by decide +kernel
theorem dMA_19 : decode method_6_code 19 = .ok (.iconst 2, 1) := by decide +kernel
theorem dMA_20 : decode method_6_code 20 = .ok (.bipush 100, 2) := by decide +kernel
theorem dMA_22 : decode method_6_code 22 = .ok (.castore, 1) := by decide +kernel
theorem dMA_23 : decode method_6_code 23 = .ok (.dup, 1) := by decide +kernel
theorem dMA_24 : decode method_6_code 24 = .ok (.iconst 3, 1) := by decide +kernel
theorem dMA_25 : decode method_6_code 25 = .ok (.bipush 95, 2) := by decide +kernel
theorem dMA_27 : decode method_6_code 27 = .ok (.castore, 1) := by decide +kernel
theorem dMA_28 : decode method_6_code 28 = .ok (.dup, 1) := by decide +kernel
theorem dMA_29 : decode method_6_code 29 = .ok (.iconst 4, 1) := by decide +kernel
theorem dMA_30 : decode method_6_code 30 = .ok (.bipush 102, 2) := by decide +kernel
theorem dMA_32 : decode method_6_code 32 = .ok (.castore, 1) := by decide +kernel
theorem dMA_33 : decode method_6_code 33 = .ok (.dup, 1) := by decide +kernel
theorem dMA_34 : decode method_6_code 34 = .ok (.iconst 5, 1) := by decide +kernel
theorem dMA_35 : decode method_6_code 35 = .ok (.bipush 111, 2) := by decide +kernel
theorem dMA_37 : decode method_6_code 37 = .ok (.castore, 1) := by decide +kernel
theorem dMA_38 : decode method_6_code 38 = .ok (.dup, 1) := by decide +kernel
theorem dMA_39 : decode method_6_code 39 = .ok (.bipush 6, 2) := by decide +kernel
theorem dMA_41 : decode method_6_code 41 = .ok (.bipush 117, 2) := by decide +kernel
theorem dMA_43 : decode method_6_code 43 = .ok (.castore, 1) := by decide +kernel
theorem dMA_44 : decode method_6_code 44 = .ok (.dup, 1) := by decide +kernel
theorem dMA_45 : decode method_6_code 45 = .ok (.bipush 7, 2) := by decide +kernel
theorem dMA_47 : decode method_6_code 47 = .ok (.bipush 110, 2) := by decide +kernel
theorem dMA_49 : decode method_6_code 49 = .ok (.castore, 1) := by decide +kernel
theorem dMA_50 : decode method_6_code 50 = .ok (.dup, 1) := by decide +kernel
theorem dMA_51 : decode method_6_code 51 = .ok (.bipush 8, 2) := by decide +kernel
theorem dMA_53 : decode method_6_code 53 = .ok (.bipush 100, 2) := by decide +kernel
theorem dMA_55 : decode method_6_code 55 = .ok (.castore, 1) := by decide +kernel
theorem dMA_56 : decode method_6_code 56 = .ok (.dup, 1) := by decide +kernel
theorem dMA_57 : decode method_6_code 57 = .ok (.bipush 9, 2) := by decide +kernel
theorem dMA_59 : decode method_6_code 59 = .ok (.iload_n 1, 1) := by decide +kernel
theorem dMA_60 : decode method_6_code 60 = .ok (.castore, 1) := by decide +kernel
theorem dMA_61 : decode method_6_code 61 = .ok (.areturn, 1) := by decide +kernel
theorem dMA_62 : decode method_6_code 62 = .ok (.iload_n 0, 1) := by decide +kernel
theorem dMA_63 : decode method_6_code 63 = .ok (.iconst 1, 1) := by decide +kernel
theorem dMA_64 : decode method_6_code 64 = .ok (.if_icmp .ne 79, 3) := by decide +kernel
theorem dMA_67 : decode method_6_code 67 = .ok (.bipush 13, 2) := by decide +kernel
theorem dMA_69 : decode method_6_code 69 = .ok (.newarray .char, 2) := by decide +kernel
theorem dMA_71 : decode method_6_code 71 = .ok (.dup, 1) := by decide +kernel
theorem dMA_72 : decode method_6_code 72 = .ok (.iconst 0, 1) := by decide +kernel
theorem dMA_73 : decode method_6_code 73 = .ok (.bipush 112, 2) := by decide +kernel
theorem dMA_75 : decode method_6_code 75 = .ok (.castore, 1) := by decide +kernel
theorem dMA_76 : decode method_6_code 76 = .ok (.dup, 1) := by decide +kernel
theorem dMA_77 : decode method_6_code 77 = .ok (.iconst 1, 1) := by decide +kernel
theorem dMA_78 : decode method_6_code 78 = .ok (.bipush 105, 2) := by decide +kernel
theorem dMA_80 : decode method_6_code 80 = .ok (.castore, 1) := by decide +kernel
theorem dMA_81 : decode method_6_code 81 = .ok (.dup, 1) := by decide +kernel
theorem dMA_82 : decode method_6_code 82 = .ok (.iconst 2, 1) := by decide +kernel
theorem dMA_83 : decode method_6_code 83 = .ok (.bipush 100, 2) := by decide +kernel
theorem dMA_85 : decode method_6_code 85 = .ok (.castore, 1) := by decide +kernel
theorem dMA_86 : decode method_6_code 86 = .ok (.dup, 1) := by decide +kernel
theorem dMA_87 : decode method_6_code 87 = .ok (.iconst 3, 1) := by decide +kernel
theorem dMA_88 : decode method_6_code 88 = .ok (.bipush 95, 2) := by decide +kernel
theorem dMA_90 : decode method_6_code 90 = .ok (.castore, 1) := by decide +kernel
theorem dMA_91 : decode method_6_code 91 = .ok (.dup, 1) := by decide +kernel
theorem dMA_92 : decode method_6_code 92 = .ok (.iconst 4, 1) := by decide +kernel
theorem dMA_93 : decode method_6_code 93 = .ok (.bipush 110, 2) := by decide +kernel
theorem dMA_95 : decode method_6_code 95 = .ok (.castore, 1) := by decide +kernel
theorem dMA_96 : decode method_6_code 96 = .ok (.dup, 1) := by decide +kernel
theorem dMA_97 : decode method_6_code 97 = .ok (.iconst 5, 1) := by decide +kernel
theorem dMA_98 : decode method_6_code 98 = .ok (.bipush 111, 2) := by decide +kernel
theorem dMA_100 : decode method_6_code 100 = .ok (.castore, 1) := by decide +kernel
theorem dMA_101 : decode method_6_code 101 = .ok (.dup, 1) := by decide +kernel
theorem dMA_102 : decode method_6_code 102 = .ok (.bipush 6, 2) := by decide +kernel
theorem dMA_104 : decode method_6_code 104 = .ok (.bipush 116, 2) := by decide +kernel
theorem dMA_106 : decode method_6_code 106 = .ok (.castore, 1) := by decide +kernel
theorem dMA_107 : decode method_6_code 107 = .ok (.dup, 1) := by decide +kernel
theorem dMA_108 : decode method_6_code 108 = .ok (.bipush 7, 2) := by decide +kernel
theorem dMA_110 : decode method_6_code 110 = .ok (.bipush 70, 2) := by decide +kernel
theorem dMA_112 : decode method_6_code 112 = .ok (.castore, 1) := by decide +kernel
theorem dMA_113 : decode method_6_code 113 = .ok (.dup, 1) := by decide +kernel
theorem dMA_114 : decode method_6_code 114 = .ok (.bipush 8, 2) := by decide +kernel
theorem dMA_116 : decode method_6_code 116 = .ok (.bipush 111, 2) := by decide +kernel
theorem dMA_118 : decode method_6_code 118 = .ok (.castore, 1) := by decide +kernel
theorem dMA_119 : decode method_6_code 119 = .ok (.dup, 1) := by decide +kernel
theorem dMA_120 : decode method_6_code 120 = .ok (.bipush 9, 2) := by decide +kernel
theorem dMA_122 : decode method_6_code 122 = .ok (.bipush 117, 2) := by decide +kernel
theorem dMA_124 : decode method_6_code 124 = .ok (.castore, 1) := by decide +kernel
theorem dMA_125 : decode method_6_code 125 = .ok (.dup, 1) := by decide +kernel
theorem dMA_126 : decode method_6_code 126 = .ok (.bipush 10, 2) := by decide +kernel
theorem dMA_128 : decode method_6_code 128 = .ok (.bipush 110, 2) := by decide +kernel
theorem dMA_130 : decode method_6_code 130 = .ok (.castore, 1) := by decide +kernel
theorem dMA_131 : decode method_6_code 131 = .ok (.dup, 1) := by decide +kernel
theorem dMA_132 : decode method_6_code 132 = .ok (.bipush 11, 2) := by decide +kernel
theorem dMA_134 : decode method_6_code 134 = .ok (.bipush 100, 2) := by decide +kernel
theorem dMA_136 : decode method_6_code 136 = .ok (.castore, 1) := by decide +kernel
theorem dMA_137 : decode method_6_code 137 = .ok (.dup, 1) := by decide +kernel
theorem dMA_138 : decode method_6_code 138 = .ok (.bipush 12, 2) := by decide +kernel
theorem dMA_140 : decode method_6_code 140 = .ok (.iload_n 1, 1) := by decide +kernel
theorem dMA_141 : decode method_6_code 141 = .ok (.castore, 1) := by decide +kernel
theorem dMA_142 : decode method_6_code 142 = .ok (.areturn, 1) := by decide +kernel
theorem dMA_143 : decode method_6_code 143 = .ok (.bipush 12, 2) := by decide +kernel
theorem dMA_145 : decode method_6_code 145 = .ok (.newarray .char, 2) := by decide +kernel
theorem dMA_147 : decode method_6_code 147 = .ok (.dup, 1) := by decide +kernel
theorem dMA_148 : decode method_6_code 148 = .ok (.iconst 0, 1) := by decide +kernel
theorem dMA_149 : decode method_6_code 149 = .ok (.bipush 112, 2) := by decide +kernel
theorem dMA_151 : decode method_6_code 151 = .ok (.castore, 1) := by decide +kernel
theorem dMA_152 : decode method_6_code 152 = .ok (.dup, 1) := by decide +kernel
theorem dMA_153 : decode method_6_code 153 = .ok (.iconst 1, 1) := by decide +kernel
theorem dMA_154 : decode method_6_code 154 = .ok (.bipush 105, 2) := by decide +kernel
theorem dMA_156 : decode method_6_code 156 = .ok (.castore, 1) := by decide +kernel
theorem dMA_157 : decode method_6_code 157 = .ok (.dup, 1) := by decide +kernel
theorem dMA_158 : decode method_6_code 158 = .ok (.iconst 2, 1) := by decide +kernel
theorem dMA_159 : decode method_6_code 159 = .ok (.bipush 100, 2) := by decide +kernel
theorem dMA_161 : decode method_6_code 161 = .ok (.castore, 1) := by decide +kernel
theorem dMA_162 : decode method_6_code 162 = .ok (.dup, 1) := by decide +kernel
theorem dMA_163 : decode method_6_code 163 = .ok (.iconst 3, 1) := by decide +kernel
theorem dMA_164 : decode method_6_code 164 = .ok (.bipush 95, 2) := by decide +kernel
theorem dMA_166 : decode method_6_code 166 = .ok (.castore, 1) := by decide +kernel
theorem dMA_167 : decode method_6_code 167 = .ok (.dup, 1) := by decide +kernel
theorem dMA_168 : decode method_6_code 168 = .ok (.iconst 4, 1) := by decide +kernel
theorem dMA_169 : decode method_6_code 169 = .ok (.bipush 105, 2) := by decide +kernel
theorem dMA_171 : decode method_6_code 171 = .ok (.castore, 1) := by decide +kernel
theorem dMA_172 : decode method_6_code 172 = .ok (.dup, 1) := by decide +kernel
theorem dMA_173 : decode method_6_code 173 = .ok (.iconst 5, 1) := by decide +kernel
theorem dMA_174 : decode method_6_code 174 = .ok (.bipush 110, 2) := by decide +kernel
theorem dMA_176 : decode method_6_code 176 = .ok (.castore, 1) := by decide +kernel
theorem dMA_177 : decode method_6_code 177 = .ok (.dup, 1) := by decide +kernel
theorem dMA_178 : decode method_6_code 178 = .ok (.bipush 6, 2) := by decide +kernel
theorem dMA_180 : decode method_6_code 180 = .ok (.bipush 118, 2) := by decide +kernel
theorem dMA_182 : decode method_6_code 182 = .ok (.castore, 1) := by decide +kernel
theorem dMA_183 : decode method_6_code 183 = .ok (.dup, 1) := by decide +kernel
theorem dMA_184 : decode method_6_code 184 = .ok (.bipush 7, 2) := by decide +kernel
theorem dMA_186 : decode method_6_code 186 = .ok (.bipush 97, 2) := by decide +kernel
theorem dMA_188 : decode method_6_code 188 = .ok (.castore, 1) := by decide +kernel
theorem dMA_189 : decode method_6_code 189 = .ok (.dup, 1) := by decide +kernel
theorem dMA_190 : decode method_6_code 190 = .ok (.bipush 8, 2) := by decide +kernel
theorem dMA_192 : decode method_6_code 192 = .ok (.bipush 108, 2) := by decide +kernel
theorem dMA_194 : decode method_6_code 194 = .ok (.castore, 1) := by decide +kernel
theorem dMA_195 : decode method_6_code 195 = .ok (.dup, 1) := by decide +kernel
theorem dMA_196 : decode method_6_code 196 = .ok (.bipush 9, 2) := by decide +kernel
theorem dMA_198 : decode method_6_code 198 = .ok (.bipush 105, 2) := by decide +kernel
theorem dMA_200 : decode method_6_code 200 = .ok (.castore, 1) := by decide +kernel
theorem dMA_201 : decode method_6_code 201 = .ok (.dup, 1) := by decide +kernel
theorem dMA_202 : decode method_6_code 202 = .ok (.bipush 10, 2) := by decide +kernel
theorem dMA_204 : decode method_6_code 204 = .ok (.bipush 100, 2) := by decide +kernel
theorem dMA_206 : decode method_6_code 206 = .ok (.castore, 1) := by decide +kernel
theorem dMA_207 : decode method_6_code 207 = .ok (.dup, 1) := by decide +kernel
theorem dMA_208 : decode method_6_code 208 = .ok (.bipush 11, 2) := by decide +kernel
theorem dMA_210 : decode method_6_code 210 = .ok (.iload_n 1, 1) := by decide +kernel
theorem dMA_211 : decode method_6_code 211 = .ok (.castore, 1) := by decide +kernel
theorem dMA_212 : decode method_6_code 212 = .ok (.areturn, 1) := by decide +kernel
set_option maxRecDepth 65536 in
set_option maxHeartbeats 40000000 in
theorem own_ma (l : Launch) (Z : State) (a0 : Array Value) (hw : ∀ d ∈ tables_1, d.before a0 Z = true) (EL : List (String × Nat)) (hEL : EW Z a0 EL) (h0 : Heap) (k : Int32) (x : Int32) (hx : ¬ x < 0 ∧ ¬ (255 : Int32) < x) :
    Con l Z EL false [] (⟨"com/example/research_api_client/researchapiclient/lotus/StatusOfMemberPinLaw", "appended", "(IC)[C"⟩ : MethodName) method_6_code 2 (some (.array .char)) ({ frames := 0, cells := 1, slots := 13, locals := 0 } : Room) #[(.int k), (.int x)] h0 (fun v h' => ∃ (c : Addr) (kc : ClassId) (cs : List Int32), v = some (.ref c) ∧ h0.size ≤ c ∧ Ext h0 h' ∧ own_CA Z h' c kc cs) := by
  refine Con.of (Ls := #[.val (.int k), .val (.int x)]) (plainFor_of_name own_pn6) hEL (fun m => by first | (simp [entryFrame, mkF, argsToLocals, Value.category]; done) | rfl) ?_
  intro vm0 hZ0 hE0 hC0 hS0
  refine WP.iloadN (n := 1) dMA_0 rfl rfl ?_
  refine WP.if_ne (n := 62) (n' := 4) dMA_1 (by decide) (by decide) rfl (fun b141 => ?_) (fun b141 => ?_)
  · refine WP.iloadN (n := 63) dMA_62 rfl rfl ?_
    refine WP.iconst (n := 64) (z := (1 : Int32)) dMA_63 rfl rfl ?_
    refine WP.icmp_ne (n := 143) (n' := 67) dMA_64 (by decide) (by decide) rfl (fun b142 => ?_) (fun b142 => ?_)
    · refine WP.bipush (n := 145) (z := (12 : Int32)) dMA_143 (by decide) rfl ?_
      refine WP.newP (n := 147) (ce' := 1) (sl' := 12) (cap := 12) (ty := .char) dMA_145 (hw _ (List.mem_of_getElem? (i := 5) rfl)) rfl (by decide) (by decide) (by decide) rfl rfl (by decide) (by decide) rfl (fun a143 h143 k143 g143 E143 V143 S143 N143 r143 => ?_)
      have V143_ : Arv Z h143 a143 k143 .char (12 : Int32) (([0, 0, 0, 0, 0, 0, 0, 0, 0, 0, 0, 0] : List Int32).map Value.int) (.int 0) := V143.pad (pad_rep [] (.int 0) 12)
      refine WP.dup (n := 148) dMA_147 rfl rfl ?_
      refine WP.iconst (n := 149) (z := (0 : Int32)) dMA_148 rfl rfl ?_
      refine WP.bipush (n := 151) (z := (112 : Int32)) dMA_149 (by decide) rfl ?_
      refine WP.stC (n := 152) (i := 0) (y := (112 : Int32)) dMA_151 V143_ (by decide) rfl (Nat.le_of_ble_eq_true rfl) (by decide) N143 S143 rfl (fun h144 W144 V144 r144 => ?_)
      have V144_ : Arv Z h144 a143 k143 .char (12 : Int32) (([(112 : Int32), 0, 0, 0, 0, 0, 0, 0, 0, 0, 0, 0] : List Int32).map Value.int) (.int 0) := V144
      have S144 := r144.safe V143_.lt S143
      refine WP.dup (n := 153) dMA_152 rfl rfl ?_
      refine WP.iconst (n := 154) (z := (1 : Int32)) dMA_153 rfl rfl ?_
      refine WP.bipush (n := 156) (z := (105 : Int32)) dMA_154 (by decide) rfl ?_
      refine WP.stC (n := 157) (i := 1) (y := (105 : Int32)) dMA_156 V144_ (by decide) rfl (Nat.le_of_ble_eq_true rfl) (by decide) N143 S144 rfl (fun h145 W145 V145 r145 => ?_)
      have V145_ : Arv Z h145 a143 k143 .char (12 : Int32) (([(112 : Int32), (105 : Int32), 0, 0, 0, 0, 0, 0, 0, 0, 0, 0] : List Int32).map Value.int) (.int 0) := V145
      have S145 := r145.safe V144_.lt S144
      refine WP.dup (n := 158) dMA_157 rfl rfl ?_
      refine WP.iconst (n := 159) (z := (2 : Int32)) dMA_158 rfl rfl ?_
      refine WP.bipush (n := 161) (z := (100 : Int32)) dMA_159 (by decide) rfl ?_
      refine WP.stC (n := 162) (i := 2) (y := (100 : Int32)) dMA_161 V145_ (by decide) rfl (Nat.le_of_ble_eq_true rfl) (by decide) N143 S145 rfl (fun h146 W146 V146 r146 => ?_)
      have V146_ : Arv Z h146 a143 k143 .char (12 : Int32) (([(112 : Int32), (105 : Int32), (100 : Int32), 0, 0, 0, 0, 0, 0, 0, 0, 0] : List Int32).map Value.int) (.int 0) := V146
      have S146 := r146.safe V145_.lt S145
      refine WP.dup (n := 163) dMA_162 rfl rfl ?_
      refine WP.iconst (n := 164) (z := (3 : Int32)) dMA_163 rfl rfl ?_
      refine WP.bipush (n := 166) (z := (95 : Int32)) dMA_164 (by decide) rfl ?_
      refine WP.stC (n := 167) (i := 3) (y := (95 : Int32)) dMA_166 V146_ (by decide) rfl (Nat.le_of_ble_eq_true rfl) (by decide) N143 S146 rfl (fun h147 W147 V147 r147 => ?_)
      have V147_ : Arv Z h147 a143 k143 .char (12 : Int32) (([(112 : Int32), (105 : Int32), (100 : Int32), (95 : Int32), 0, 0, 0, 0, 0, 0, 0, 0] : List Int32).map Value.int) (.int 0) := V147
      have S147 := r147.safe V146_.lt S146
      refine WP.dup (n := 168) dMA_167 rfl rfl ?_
      refine WP.iconst (n := 169) (z := (4 : Int32)) dMA_168 rfl rfl ?_
      refine WP.bipush (n := 171) (z := (105 : Int32)) dMA_169 (by decide) rfl ?_
      refine WP.stC (n := 172) (i := 4) (y := (105 : Int32)) dMA_171 V147_ (by decide) rfl (Nat.le_of_ble_eq_true rfl) (by decide) N143 S147 rfl (fun h148 W148 V148 r148 => ?_)
      have V148_ : Arv Z h148 a143 k143 .char (12 : Int32) (([(112 : Int32), (105 : Int32), (100 : Int32), (95 : Int32), (105 : Int32), 0, 0, 0, 0, 0, 0, 0] : List Int32).map Value.int) (.int 0) := V148
      have S148 := r148.safe V147_.lt S147
      refine WP.dup (n := 173) dMA_172 rfl rfl ?_
      refine WP.iconst (n := 174) (z := (5 : Int32)) dMA_173 rfl rfl ?_
      refine WP.bipush (n := 176) (z := (110 : Int32)) dMA_174 (by decide) rfl ?_
      refine WP.stC (n := 177) (i := 5) (y := (110 : Int32)) dMA_176 V148_ (by decide) rfl (Nat.le_of_ble_eq_true rfl) (by decide) N143 S148 rfl (fun h149 W149 V149 r149 => ?_)
      have V149_ : Arv Z h149 a143 k143 .char (12 : Int32) (([(112 : Int32), (105 : Int32), (100 : Int32), (95 : Int32), (105 : Int32), (110 : Int32), 0, 0, 0, 0, 0, 0] : List Int32).map Value.int) (.int 0) := V149
      have S149 := r149.safe V148_.lt S148
      refine WP.dup (n := 178) dMA_177 rfl rfl ?_
      refine WP.bipush (n := 180) (z := (6 : Int32)) dMA_178 (by decide) rfl ?_
      refine WP.bipush (n := 182) (z := (118 : Int32)) dMA_180 (by decide) rfl ?_
      refine WP.stC (n := 183) (i := 6) (y := (118 : Int32)) dMA_182 V149_ (by decide) rfl (Nat.le_of_ble_eq_true rfl) (by decide) N143 S149 rfl (fun h150 W150 V150 r150 => ?_)
      have V150_ : Arv Z h150 a143 k143 .char (12 : Int32) (([(112 : Int32), (105 : Int32), (100 : Int32), (95 : Int32), (105 : Int32), (110 : Int32), (118 : Int32), 0, 0, 0, 0, 0] : List Int32).map Value.int) (.int 0) := V150
      have S150 := r150.safe V149_.lt S149
      refine WP.dup (n := 184) dMA_183 rfl rfl ?_
      refine WP.bipush (n := 186) (z := (7 : Int32)) dMA_184 (by decide) rfl ?_
      refine WP.bipush (n := 188) (z := (97 : Int32)) dMA_186 (by decide) rfl ?_
      refine WP.stC (n := 189) (i := 7) (y := (97 : Int32)) dMA_188 V150_ (by decide) rfl (Nat.le_of_ble_eq_true rfl) (by decide) N143 S150 rfl (fun h151 W151 V151 r151 => ?_)
      have V151_ : Arv Z h151 a143 k143 .char (12 : Int32) (([(112 : Int32), (105 : Int32), (100 : Int32), (95 : Int32), (105 : Int32), (110 : Int32), (118 : Int32), (97 : Int32), 0, 0, 0, 0] : List Int32).map Value.int) (.int 0) := V151
      have S151 := r151.safe V150_.lt S150
      refine WP.dup (n := 190) dMA_189 rfl rfl ?_
      refine WP.bipush (n := 192) (z := (8 : Int32)) dMA_190 (by decide) rfl ?_
      refine WP.bipush (n := 194) (z := (108 : Int32)) dMA_192 (by decide) rfl ?_
      refine WP.stC (n := 195) (i := 8) (y := (108 : Int32)) dMA_194 V151_ (by decide) rfl (Nat.le_of_ble_eq_true rfl) (by decide) N143 S151 rfl (fun h152 W152 V152 r152 => ?_)
      have V152_ : Arv Z h152 a143 k143 .char (12 : Int32) (([(112 : Int32), (105 : Int32), (100 : Int32), (95 : Int32), (105 : Int32), (110 : Int32), (118 : Int32), (97 : Int32), (108 : Int32), 0, 0, 0] : List Int32).map Value.int) (.int 0) := V152
      have S152 := r152.safe V151_.lt S151
      refine WP.dup (n := 196) dMA_195 rfl rfl ?_
      refine WP.bipush (n := 198) (z := (9 : Int32)) dMA_196 (by decide) rfl ?_
      refine WP.bipush (n := 200) (z := (105 : Int32)) dMA_198 (by decide) rfl ?_
      refine WP.stC (n := 201) (i := 9) (y := (105 : Int32)) dMA_200 V152_ (by decide) rfl (Nat.le_of_ble_eq_true rfl) (by decide) N143 S152 rfl (fun h153 W153 V153 r153 => ?_)
      have V153_ : Arv Z h153 a143 k143 .char (12 : Int32) (([(112 : Int32), (105 : Int32), (100 : Int32), (95 : Int32), (105 : Int32), (110 : Int32), (118 : Int32), (97 : Int32), (108 : Int32), (105 : Int32), 0, 0] : List Int32).map Value.int) (.int 0) := V153
      have S153 := r153.safe V152_.lt S152
      refine WP.dup (n := 202) dMA_201 rfl rfl ?_
      refine WP.bipush (n := 204) (z := (10 : Int32)) dMA_202 (by decide) rfl ?_
      refine WP.bipush (n := 206) (z := (100 : Int32)) dMA_204 (by decide) rfl ?_
      refine WP.stC (n := 207) (i := 10) (y := (100 : Int32)) dMA_206 V153_ (by decide) rfl (Nat.le_of_ble_eq_true rfl) (by decide) N143 S153 rfl (fun h154 W154 V154 r154 => ?_)
      have V154_ : Arv Z h154 a143 k143 .char (12 : Int32) (([(112 : Int32), (105 : Int32), (100 : Int32), (95 : Int32), (105 : Int32), (110 : Int32), (118 : Int32), (97 : Int32), (108 : Int32), (105 : Int32), (100 : Int32), 0] : List Int32).map Value.int) (.int 0) := V154
      have S154 := r154.safe V153_.lt S153
      refine WP.dup (n := 208) dMA_207 rfl rfl ?_
      refine WP.bipush (n := 210) (z := (11 : Int32)) dMA_208 (by decide) rfl ?_
      refine WP.iloadN (n := 211) dMA_210 rfl rfl ?_
      refine WP.stC (n := 212) (i := 11) (y := x) dMA_211 V154_ (by decide) rfl (Nat.le_of_ble_eq_true rfl) (own_c16 hx) N143 S154 rfl (fun h155 W155 V155 r155 => ?_)
      have V155_ : Arv Z h155 a143 k143 .char (12 : Int32) (([(112 : Int32), (105 : Int32), (100 : Int32), (95 : Int32), (105 : Int32), (110 : Int32), (118 : Int32), (97 : Int32), (108 : Int32), (105 : Int32), (100 : Int32), x] : List Int32).map Value.int) (.int 0) := V155
      have S155 := r155.safe V154_.lt S154
      exact WP.retA dMA_212 rfl rfl rfl rfl (by decide) (by decide) ⟨a143, k143, [(112 : Int32), (105 : Int32), (100 : Int32), (95 : Int32), (105 : Int32), (110 : Int32), (118 : Int32), (97 : Int32), (108 : Int32), (105 : Int32), (100 : Int32), x], rfl, Nat.le_of_eq g143.symm, (ext_wr (ext_wr (ext_wr (ext_wr (ext_wr (ext_wr (ext_wr (ext_wr (ext_wr (ext_wr (ext_wr (ext_wr E143 W144 (Nat.le_of_eq g143.symm)) W145 (Nat.le_of_eq g143.symm)) W146 (Nat.le_of_eq g143.symm)) W147 (Nat.le_of_eq g143.symm)) W148 (Nat.le_of_eq g143.symm)) W149 (Nat.le_of_eq g143.symm)) W150 (Nat.le_of_eq g143.symm)) W151 (Nat.le_of_eq g143.symm)) W152 (Nat.le_of_eq g143.symm)) W153 (Nat.le_of_eq g143.symm)) W154 (Nat.le_of_eq g143.symm)) W155 (Nat.le_of_eq g143.symm)), ⟨V155_, Nat.le_of_ble_eq_true rfl, (own_rng_cons (by decide) (own_rng_cons (by decide) (own_rng_cons (by decide) (own_rng_cons (by decide) (own_rng_cons (by decide) (own_rng_cons (by decide) (own_rng_cons (by decide) (own_rng_cons (by decide) (own_rng_cons (by decide) (own_rng_cons (by decide) (own_rng_cons (by decide) (own_rng_cons hx own_rng_nil))))))))))))⟩⟩
    · refine WP.bipush (n := 69) (z := (13 : Int32)) dMA_67 (by decide) rfl ?_
      refine WP.newP (n := 71) (ce' := 1) (sl' := 13) (cap := 13) (ty := .char) dMA_69 (hw _ (List.mem_of_getElem? (i := 5) rfl)) rfl (by decide) (by decide) (by decide) rfl rfl (by decide) (by decide) rfl (fun a156 h156 k156 g156 E156 V156 S156 N156 r156 => ?_)
      have V156_ : Arv Z h156 a156 k156 .char (13 : Int32) (([0, 0, 0, 0, 0, 0, 0, 0, 0, 0, 0, 0, 0] : List Int32).map Value.int) (.int 0) := V156.pad (pad_rep [] (.int 0) 13)
      refine WP.dup (n := 72) dMA_71 rfl rfl ?_
      refine WP.iconst (n := 73) (z := (0 : Int32)) dMA_72 rfl rfl ?_
      refine WP.bipush (n := 75) (z := (112 : Int32)) dMA_73 (by decide) rfl ?_
      refine WP.stC (n := 76) (i := 0) (y := (112 : Int32)) dMA_75 V156_ (by decide) rfl (Nat.le_of_ble_eq_true rfl) (by decide) N156 S156 rfl (fun h157 W157 V157 r157 => ?_)
      have V157_ : Arv Z h157 a156 k156 .char (13 : Int32) (([(112 : Int32), 0, 0, 0, 0, 0, 0, 0, 0, 0, 0, 0, 0] : List Int32).map Value.int) (.int 0) := V157
      have S157 := r157.safe V156_.lt S156
      refine WP.dup (n := 77) dMA_76 rfl rfl ?_
      refine WP.iconst (n := 78) (z := (1 : Int32)) dMA_77 rfl rfl ?_
      refine WP.bipush (n := 80) (z := (105 : Int32)) dMA_78 (by decide) rfl ?_
      refine WP.stC (n := 81) (i := 1) (y := (105 : Int32)) dMA_80 V157_ (by decide) rfl (Nat.le_of_ble_eq_true rfl) (by decide) N156 S157 rfl (fun h158 W158 V158 r158 => ?_)
      have V158_ : Arv Z h158 a156 k156 .char (13 : Int32) (([(112 : Int32), (105 : Int32), 0, 0, 0, 0, 0, 0, 0, 0, 0, 0, 0] : List Int32).map Value.int) (.int 0) := V158
      have S158 := r158.safe V157_.lt S157
      refine WP.dup (n := 82) dMA_81 rfl rfl ?_
      refine WP.iconst (n := 83) (z := (2 : Int32)) dMA_82 rfl rfl ?_
      refine WP.bipush (n := 85) (z := (100 : Int32)) dMA_83 (by decide) rfl ?_
      refine WP.stC (n := 86) (i := 2) (y := (100 : Int32)) dMA_85 V158_ (by decide) rfl (Nat.le_of_ble_eq_true rfl) (by decide) N156 S158 rfl (fun h159 W159 V159 r159 => ?_)
      have V159_ : Arv Z h159 a156 k156 .char (13 : Int32) (([(112 : Int32), (105 : Int32), (100 : Int32), 0, 0, 0, 0, 0, 0, 0, 0, 0, 0] : List Int32).map Value.int) (.int 0) := V159
      have S159 := r159.safe V158_.lt S158
      refine WP.dup (n := 87) dMA_86 rfl rfl ?_
      refine WP.iconst (n := 88) (z := (3 : Int32)) dMA_87 rfl rfl ?_
      refine WP.bipush (n := 90) (z := (95 : Int32)) dMA_88 (by decide) rfl ?_
      refine WP.stC (n := 91) (i := 3) (y := (95 : Int32)) dMA_90 V159_ (by decide) rfl (Nat.le_of_ble_eq_true rfl) (by decide) N156 S159 rfl (fun h160 W160 V160 r160 => ?_)
      have V160_ : Arv Z h160 a156 k156 .char (13 : Int32) (([(112 : Int32), (105 : Int32), (100 : Int32), (95 : Int32), 0, 0, 0, 0, 0, 0, 0, 0, 0] : List Int32).map Value.int) (.int 0) := V160
      have S160 := r160.safe V159_.lt S159
      refine WP.dup (n := 92) dMA_91 rfl rfl ?_
      refine WP.iconst (n := 93) (z := (4 : Int32)) dMA_92 rfl rfl ?_
      refine WP.bipush (n := 95) (z := (110 : Int32)) dMA_93 (by decide) rfl ?_
      refine WP.stC (n := 96) (i := 4) (y := (110 : Int32)) dMA_95 V160_ (by decide) rfl (Nat.le_of_ble_eq_true rfl) (by decide) N156 S160 rfl (fun h161 W161 V161 r161 => ?_)
      have V161_ : Arv Z h161 a156 k156 .char (13 : Int32) (([(112 : Int32), (105 : Int32), (100 : Int32), (95 : Int32), (110 : Int32), 0, 0, 0, 0, 0, 0, 0, 0] : List Int32).map Value.int) (.int 0) := V161
      have S161 := r161.safe V160_.lt S160
      refine WP.dup (n := 97) dMA_96 rfl rfl ?_
      refine WP.iconst (n := 98) (z := (5 : Int32)) dMA_97 rfl rfl ?_
      refine WP.bipush (n := 100) (z := (111 : Int32)) dMA_98 (by decide) rfl ?_
      refine WP.stC (n := 101) (i := 5) (y := (111 : Int32)) dMA_100 V161_ (by decide) rfl (Nat.le_of_ble_eq_true rfl) (by decide) N156 S161 rfl (fun h162 W162 V162 r162 => ?_)
      have V162_ : Arv Z h162 a156 k156 .char (13 : Int32) (([(112 : Int32), (105 : Int32), (100 : Int32), (95 : Int32), (110 : Int32), (111 : Int32), 0, 0, 0, 0, 0, 0, 0] : List Int32).map Value.int) (.int 0) := V162
      have S162 := r162.safe V161_.lt S161
      refine WP.dup (n := 102) dMA_101 rfl rfl ?_
      refine WP.bipush (n := 104) (z := (6 : Int32)) dMA_102 (by decide) rfl ?_
      refine WP.bipush (n := 106) (z := (116 : Int32)) dMA_104 (by decide) rfl ?_
      refine WP.stC (n := 107) (i := 6) (y := (116 : Int32)) dMA_106 V162_ (by decide) rfl (Nat.le_of_ble_eq_true rfl) (by decide) N156 S162 rfl (fun h163 W163 V163 r163 => ?_)
      have V163_ : Arv Z h163 a156 k156 .char (13 : Int32) (([(112 : Int32), (105 : Int32), (100 : Int32), (95 : Int32), (110 : Int32), (111 : Int32), (116 : Int32), 0, 0, 0, 0, 0, 0] : List Int32).map Value.int) (.int 0) := V163
      have S163 := r163.safe V162_.lt S162
      refine WP.dup (n := 108) dMA_107 rfl rfl ?_
      refine WP.bipush (n := 110) (z := (7 : Int32)) dMA_108 (by decide) rfl ?_
      refine WP.bipush (n := 112) (z := (70 : Int32)) dMA_110 (by decide) rfl ?_
      refine WP.stC (n := 113) (i := 7) (y := (70 : Int32)) dMA_112 V163_ (by decide) rfl (Nat.le_of_ble_eq_true rfl) (by decide) N156 S163 rfl (fun h164 W164 V164 r164 => ?_)
      have V164_ : Arv Z h164 a156 k156 .char (13 : Int32) (([(112 : Int32), (105 : Int32), (100 : Int32), (95 : Int32), (110 : Int32), (111 : Int32), (116 : Int32), (70 : Int32), 0, 0, 0, 0, 0] : List Int32).map Value.int) (.int 0) := V164
      have S164 := r164.safe V163_.lt S163
      refine WP.dup (n := 114) dMA_113 rfl rfl ?_
      refine WP.bipush (n := 116) (z := (8 : Int32)) dMA_114 (by decide) rfl ?_
      refine WP.bipush (n := 118) (z := (111 : Int32)) dMA_116 (by decide) rfl ?_
      refine WP.stC (n := 119) (i := 8) (y := (111 : Int32)) dMA_118 V164_ (by decide) rfl (Nat.le_of_ble_eq_true rfl) (by decide) N156 S164 rfl (fun h165 W165 V165 r165 => ?_)
      have V165_ : Arv Z h165 a156 k156 .char (13 : Int32) (([(112 : Int32), (105 : Int32), (100 : Int32), (95 : Int32), (110 : Int32), (111 : Int32), (116 : Int32), (70 : Int32), (111 : Int32), 0, 0, 0, 0] : List Int32).map Value.int) (.int 0) := V165
      have S165 := r165.safe V164_.lt S164
      refine WP.dup (n := 120) dMA_119 rfl rfl ?_
      refine WP.bipush (n := 122) (z := (9 : Int32)) dMA_120 (by decide) rfl ?_
      refine WP.bipush (n := 124) (z := (117 : Int32)) dMA_122 (by decide) rfl ?_
      refine WP.stC (n := 125) (i := 9) (y := (117 : Int32)) dMA_124 V165_ (by decide) rfl (Nat.le_of_ble_eq_true rfl) (by decide) N156 S165 rfl (fun h166 W166 V166 r166 => ?_)
      have V166_ : Arv Z h166 a156 k156 .char (13 : Int32) (([(112 : Int32), (105 : Int32), (100 : Int32), (95 : Int32), (110 : Int32), (111 : Int32), (116 : Int32), (70 : Int32), (111 : Int32), (117 : Int32), 0, 0, 0] : List Int32).map Value.int) (.int 0) := V166
      have S166 := r166.safe V165_.lt S165
      refine WP.dup (n := 126) dMA_125 rfl rfl ?_
      refine WP.bipush (n := 128) (z := (10 : Int32)) dMA_126 (by decide) rfl ?_
      refine WP.bipush (n := 130) (z := (110 : Int32)) dMA_128 (by decide) rfl ?_
      refine WP.stC (n := 131) (i := 10) (y := (110 : Int32)) dMA_130 V166_ (by decide) rfl (Nat.le_of_ble_eq_true rfl) (by decide) N156 S166 rfl (fun h167 W167 V167 r167 => ?_)
      have V167_ : Arv Z h167 a156 k156 .char (13 : Int32) (([(112 : Int32), (105 : Int32), (100 : Int32), (95 : Int32), (110 : Int32), (111 : Int32), (116 : Int32), (70 : Int32), (111 : Int32), (117 : Int32), (110 : Int32), 0, 0] : List Int32).map Value.int) (.int 0) := V167
      have S167 := r167.safe V166_.lt S166
      refine WP.dup (n := 132) dMA_131 rfl rfl ?_
      refine WP.bipush (n := 134) (z := (11 : Int32)) dMA_132 (by decide) rfl ?_
      refine WP.bipush (n := 136) (z := (100 : Int32)) dMA_134 (by decide) rfl ?_
      refine WP.stC (n := 137) (i := 11) (y := (100 : Int32)) dMA_136 V167_ (by decide) rfl (Nat.le_of_ble_eq_true rfl) (by decide) N156 S167 rfl (fun h168 W168 V168 r168 => ?_)
      have V168_ : Arv Z h168 a156 k156 .char (13 : Int32) (([(112 : Int32), (105 : Int32), (100 : Int32), (95 : Int32), (110 : Int32), (111 : Int32), (116 : Int32), (70 : Int32), (111 : Int32), (117 : Int32), (110 : Int32), (100 : Int32), 0] : List Int32).map Value.int) (.int 0) := V168
      have S168 := r168.safe V167_.lt S167
      refine WP.dup (n := 138) dMA_137 rfl rfl ?_
      refine WP.bipush (n := 140) (z := (12 : Int32)) dMA_138 (by decide) rfl ?_
      refine WP.iloadN (n := 141) dMA_140 rfl rfl ?_
      refine WP.stC (n := 142) (i := 12) (y := x) dMA_141 V168_ (by decide) rfl (Nat.le_of_ble_eq_true rfl) (own_c16 hx) N156 S168 rfl (fun h169 W169 V169 r169 => ?_)
      have V169_ : Arv Z h169 a156 k156 .char (13 : Int32) (([(112 : Int32), (105 : Int32), (100 : Int32), (95 : Int32), (110 : Int32), (111 : Int32), (116 : Int32), (70 : Int32), (111 : Int32), (117 : Int32), (110 : Int32), (100 : Int32), x] : List Int32).map Value.int) (.int 0) := V169
      have S169 := r169.safe V168_.lt S168
      exact WP.retA dMA_142 rfl rfl rfl rfl (by decide) (by decide) ⟨a156, k156, [(112 : Int32), (105 : Int32), (100 : Int32), (95 : Int32), (110 : Int32), (111 : Int32), (116 : Int32), (70 : Int32), (111 : Int32), (117 : Int32), (110 : Int32), (100 : Int32), x], rfl, Nat.le_of_eq g156.symm, (ext_wr (ext_wr (ext_wr (ext_wr (ext_wr (ext_wr (ext_wr (ext_wr (ext_wr (ext_wr (ext_wr (ext_wr (ext_wr E156 W157 (Nat.le_of_eq g156.symm)) W158 (Nat.le_of_eq g156.symm)) W159 (Nat.le_of_eq g156.symm)) W160 (Nat.le_of_eq g156.symm)) W161 (Nat.le_of_eq g156.symm)) W162 (Nat.le_of_eq g156.symm)) W163 (Nat.le_of_eq g156.symm)) W164 (Nat.le_of_eq g156.symm)) W165 (Nat.le_of_eq g156.symm)) W166 (Nat.le_of_eq g156.symm)) W167 (Nat.le_of_eq g156.symm)) W168 (Nat.le_of_eq g156.symm)) W169 (Nat.le_of_eq g156.symm)), ⟨V169_, Nat.le_of_ble_eq_true rfl, (own_rng_cons (by decide) (own_rng_cons (by decide) (own_rng_cons (by decide) (own_rng_cons (by decide) (own_rng_cons (by decide) (own_rng_cons (by decide) (own_rng_cons (by decide) (own_rng_cons (by decide) (own_rng_cons (by decide) (own_rng_cons (by decide) (own_rng_cons (by decide) (own_rng_cons (by decide) (own_rng_cons hx own_rng_nil)))))))))))))⟩⟩
  · refine WP.bipush (n := 6) (z := (10 : Int32)) dMA_4 (by decide) rfl ?_
    refine WP.newP (n := 8) (ce' := 1) (sl' := 10) (cap := 10) (ty := .char) dMA_6 (hw _ (List.mem_of_getElem? (i := 5) rfl)) rfl (by decide) (by decide) (by decide) rfl rfl (by decide) (by decide) rfl (fun a170 h170 k170 g170 E170 V170 S170 N170 r170 => ?_)
    have V170_ : Arv Z h170 a170 k170 .char (10 : Int32) (([0, 0, 0, 0, 0, 0, 0, 0, 0, 0] : List Int32).map Value.int) (.int 0) := V170.pad (pad_rep [] (.int 0) 10)
    refine WP.dup (n := 9) dMA_8 rfl rfl ?_
    refine WP.iconst (n := 10) (z := (0 : Int32)) dMA_9 rfl rfl ?_
    refine WP.bipush (n := 12) (z := (112 : Int32)) dMA_10 (by decide) rfl ?_
    refine WP.stC (n := 13) (i := 0) (y := (112 : Int32)) dMA_12 V170_ (by decide) rfl (Nat.le_of_ble_eq_true rfl) (by decide) N170 S170 rfl (fun h171 W171 V171 r171 => ?_)
    have V171_ : Arv Z h171 a170 k170 .char (10 : Int32) (([(112 : Int32), 0, 0, 0, 0, 0, 0, 0, 0, 0] : List Int32).map Value.int) (.int 0) := V171
    have S171 := r171.safe V170_.lt S170
    refine WP.dup (n := 14) dMA_13 rfl rfl ?_
    refine WP.iconst (n := 15) (z := (1 : Int32)) dMA_14 rfl rfl ?_
    refine WP.bipush (n := 17) (z := (105 : Int32)) dMA_15 (by decide) rfl ?_
    refine WP.stC (n := 18) (i := 1) (y := (105 : Int32)) dMA_17 V171_ (by decide) rfl (Nat.le_of_ble_eq_true rfl) (by decide) N170 S171 rfl (fun h172 W172 V172 r172 => ?_)
    have V172_ : Arv Z h172 a170 k170 .char (10 : Int32) (([(112 : Int32), (105 : Int32), 0, 0, 0, 0, 0, 0, 0, 0] : List Int32).map Value.int) (.int 0) := V172
    have S172 := r172.safe V171_.lt S171
    refine WP.dup (n := 19) dMA_18 rfl rfl ?_
    refine WP.iconst (n := 20) (z := (2 : Int32)) dMA_19 rfl rfl ?_
    refine WP.bipush (n := 22) (z := (100 : Int32)) dMA_20 (by decide) rfl ?_
    refine WP.stC (n := 23) (i := 2) (y := (100 : Int32)) dMA_22 V172_ (by decide) rfl (Nat.le_of_ble_eq_true rfl) (by decide) N170 S172 rfl (fun h173 W173 V173 r173 => ?_)
    have V173_ : Arv Z h173 a170 k170 .char (10 : Int32) (([(112 : Int32), (105 : Int32), (100 : Int32), 0, 0, 0, 0, 0, 0, 0] : List Int32).map Value.int) (.int 0) := V173
    have S173 := r173.safe V172_.lt S172
    refine WP.dup (n := 24) dMA_23 rfl rfl ?_
    refine WP.iconst (n := 25) (z := (3 : Int32)) dMA_24 rfl rfl ?_
    refine WP.bipush (n := 27) (z := (95 : Int32)) dMA_25 (by decide) rfl ?_
    refine WP.stC (n := 28) (i := 3) (y := (95 : Int32)) dMA_27 V173_ (by decide) rfl (Nat.le_of_ble_eq_true rfl) (by decide) N170 S173 rfl (fun h174 W174 V174 r174 => ?_)
    have V174_ : Arv Z h174 a170 k170 .char (10 : Int32) (([(112 : Int32), (105 : Int32), (100 : Int32), (95 : Int32), 0, 0, 0, 0, 0, 0] : List Int32).map Value.int) (.int 0) := V174
    have S174 := r174.safe V173_.lt S173
    refine WP.dup (n := 29) dMA_28 rfl rfl ?_
    refine WP.iconst (n := 30) (z := (4 : Int32)) dMA_29 rfl rfl ?_
    refine WP.bipush (n := 32) (z := (102 : Int32)) dMA_30 (by decide) rfl ?_
    refine WP.stC (n := 33) (i := 4) (y := (102 : Int32)) dMA_32 V174_ (by decide) rfl (Nat.le_of_ble_eq_true rfl) (by decide) N170 S174 rfl (fun h175 W175 V175 r175 => ?_)
    have V175_ : Arv Z h175 a170 k170 .char (10 : Int32) (([(112 : Int32), (105 : Int32), (100 : Int32), (95 : Int32), (102 : Int32), 0, 0, 0, 0, 0] : List Int32).map Value.int) (.int 0) := V175
    have S175 := r175.safe V174_.lt S174
    refine WP.dup (n := 34) dMA_33 rfl rfl ?_
    refine WP.iconst (n := 35) (z := (5 : Int32)) dMA_34 rfl rfl ?_
    refine WP.bipush (n := 37) (z := (111 : Int32)) dMA_35 (by decide) rfl ?_
    refine WP.stC (n := 38) (i := 5) (y := (111 : Int32)) dMA_37 V175_ (by decide) rfl (Nat.le_of_ble_eq_true rfl) (by decide) N170 S175 rfl (fun h176 W176 V176 r176 => ?_)
    have V176_ : Arv Z h176 a170 k170 .char (10 : Int32) (([(112 : Int32), (105 : Int32), (100 : Int32), (95 : Int32), (102 : Int32), (111 : Int32), 0, 0, 0, 0] : List Int32).map Value.int) (.int 0) := V176
    have S176 := r176.safe V175_.lt S175
    refine WP.dup (n := 39) dMA_38 rfl rfl ?_
    refine WP.bipush (n := 41) (z := (6 : Int32)) dMA_39 (by decide) rfl ?_
    refine WP.bipush (n := 43) (z := (117 : Int32)) dMA_41 (by decide) rfl ?_
    refine WP.stC (n := 44) (i := 6) (y := (117 : Int32)) dMA_43 V176_ (by decide) rfl (Nat.le_of_ble_eq_true rfl) (by decide) N170 S176 rfl (fun h177 W177 V177 r177 => ?_)
    have V177_ : Arv Z h177 a170 k170 .char (10 : Int32) (([(112 : Int32), (105 : Int32), (100 : Int32), (95 : Int32), (102 : Int32), (111 : Int32), (117 : Int32), 0, 0, 0] : List Int32).map Value.int) (.int 0) := V177
    have S177 := r177.safe V176_.lt S176
    refine WP.dup (n := 45) dMA_44 rfl rfl ?_
    refine WP.bipush (n := 47) (z := (7 : Int32)) dMA_45 (by decide) rfl ?_
    refine WP.bipush (n := 49) (z := (110 : Int32)) dMA_47 (by decide) rfl ?_
    refine WP.stC (n := 50) (i := 7) (y := (110 : Int32)) dMA_49 V177_ (by decide) rfl (Nat.le_of_ble_eq_true rfl) (by decide) N170 S177 rfl (fun h178 W178 V178 r178 => ?_)
    have V178_ : Arv Z h178 a170 k170 .char (10 : Int32) (([(112 : Int32), (105 : Int32), (100 : Int32), (95 : Int32), (102 : Int32), (111 : Int32), (117 : Int32), (110 : Int32), 0, 0] : List Int32).map Value.int) (.int 0) := V178
    have S178 := r178.safe V177_.lt S177
    refine WP.dup (n := 51) dMA_50 rfl rfl ?_
    refine WP.bipush (n := 53) (z := (8 : Int32)) dMA_51 (by decide) rfl ?_
    refine WP.bipush (n := 55) (z := (100 : Int32)) dMA_53 (by decide) rfl ?_
    refine WP.stC (n := 56) (i := 8) (y := (100 : Int32)) dMA_55 V178_ (by decide) rfl (Nat.le_of_ble_eq_true rfl) (by decide) N170 S178 rfl (fun h179 W179 V179 r179 => ?_)
    have V179_ : Arv Z h179 a170 k170 .char (10 : Int32) (([(112 : Int32), (105 : Int32), (100 : Int32), (95 : Int32), (102 : Int32), (111 : Int32), (117 : Int32), (110 : Int32), (100 : Int32), 0] : List Int32).map Value.int) (.int 0) := V179
    have S179 := r179.safe V178_.lt S178
    refine WP.dup (n := 57) dMA_56 rfl rfl ?_
    refine WP.bipush (n := 59) (z := (9 : Int32)) dMA_57 (by decide) rfl ?_
    refine WP.iloadN (n := 60) dMA_59 rfl rfl ?_
    refine WP.stC (n := 61) (i := 9) (y := x) dMA_60 V179_ (by decide) rfl (Nat.le_of_ble_eq_true rfl) (own_c16 hx) N170 S179 rfl (fun h180 W180 V180 r180 => ?_)
    have V180_ : Arv Z h180 a170 k170 .char (10 : Int32) (([(112 : Int32), (105 : Int32), (100 : Int32), (95 : Int32), (102 : Int32), (111 : Int32), (117 : Int32), (110 : Int32), (100 : Int32), x] : List Int32).map Value.int) (.int 0) := V180
    have S180 := r180.safe V179_.lt S179
    exact WP.retA dMA_61 rfl rfl rfl rfl (by decide) (by decide) ⟨a170, k170, [(112 : Int32), (105 : Int32), (100 : Int32), (95 : Int32), (102 : Int32), (111 : Int32), (117 : Int32), (110 : Int32), (100 : Int32), x], rfl, Nat.le_of_eq g170.symm, (ext_wr (ext_wr (ext_wr (ext_wr (ext_wr (ext_wr (ext_wr (ext_wr (ext_wr (ext_wr E170 W171 (Nat.le_of_eq g170.symm)) W172 (Nat.le_of_eq g170.symm)) W173 (Nat.le_of_eq g170.symm)) W174 (Nat.le_of_eq g170.symm)) W175 (Nat.le_of_eq g170.symm)) W176 (Nat.le_of_eq g170.symm)) W177 (Nat.le_of_eq g170.symm)) W178 (Nat.le_of_eq g170.symm)) W179 (Nat.le_of_eq g170.symm)) W180 (Nat.le_of_eq g170.symm)), ⟨V180_, Nat.le_of_ble_eq_true rfl, (own_rng_cons (by decide) (own_rng_cons (by decide) (own_rng_cons (by decide) (own_rng_cons (by decide) (own_rng_cons (by decide) (own_rng_cons (by decide) (own_rng_cons (by decide) (own_rng_cons (by decide) (own_rng_cons (by decide) (own_rng_cons hx own_rng_nil))))))))))⟩⟩
theorem dMB_0 : decode method_7_code 0 = .ok (.iload_n 0, 1) := by decide +kernel
theorem dMB_1 : decode method_7_code 1 = .ok (.ifCond .ne 32, 3) := by decide +kernel
theorem dMB_4 : decode method_7_code 4 = .ok (.iconst 5, 1) := by decide +kernel
theorem dMB_5 : decode method_7_code 5 = .ok (.newarray .char, 2) := by decide +kernel
theorem dMB_7 : decode method_7_code 7 = .ok (.dup, 1) := by decide +kernel
theorem dMB_8 : decode method_7_code 8 = .ok (.iconst 0, 1) := by decide +kernel
theorem dMB_9 : decode method_7_code 9 = .ok (.bipush 102, 2) := by decide +kernel
theorem dMB_11 : decode method_7_code 11 = .ok (.castore, 1) := by decide +kernel
theorem dMB_12 : decode method_7_code 12 = .ok (.dup, 1) := by decide +kernel
theorem dMB_13 : decode method_7_code 13 = .ok (.iconst 1, 1) := by decide +kernel
theorem dMB_14 : decode method_7_code 14 = .ok (.bipush 111, 2) := by decide +kernel
theorem dMB_16 : decode method_7_code 16 = .ok (.castore, 1) := by decide +kernel
theorem dMB_17 : decode method_7_code 17 = .ok (.dup, 1) := by decide +kernel
theorem dMB_18 : decode method_7_code 18 = .ok (.iconst 2, 1) := by decide +kernel
theorem dMB_19 : decode method_7_code 19 = .ok (.bipush 117, 2) := by decide +kernel
theorem dMB_21 : decode method_7_code 21 = .ok (.castore, 1) := by decide +kernel
theorem dMB_22 : decode method_7_code 22 = .ok (.dup, 1) := by decide +kernel
theorem dMB_23 : decode method_7_code 23 = .ok (.iconst 3, 1) := by decide +kernel
theorem dMB_24 : decode method_7_code 24 = .ok (.bipush 110, 2) := by decide +kernel
theorem dMB_26 : decode method_7_code 26 = .ok (.castore, 1) := by decide +kernel
theorem dMB_27 : decode method_7_code 27 = .ok (.dup, 1) := by decide +kernel
theorem dMB_28 : decode method_7_code 28 = .ok (.iconst 4, 1) := by decide +kernel
theorem dMB_29 : decode method_7_code 29 = .ok (.bipush 100, 2) := by decide +kernel
theorem dMB_31 : decode method_7_code 31 = .ok (.castore, 1) := by decide +kernel
theorem dMB_32 : decode method_7_code 32 = .ok (.areturn, 1) := by decide +kernel
theorem dMB_33 : decode method_7_code 33 = .ok (.iload_n 0, 1) := by decide +kernel
theorem dMB_34 : decode method_7_code 34 = .ok (.iconst 1, 1) := by decide +kernel
theorem dMB_35 : decode method_7_code 35 = .ok (.if_icmp .ne 50, 3) := by decide +kernel
theorem dMB_38 : decode method_7_code 38 = .ok (.bipush 8, 2) := by decide +kernel
theorem dMB_40 : decode method_7_code 40 = .ok (.newarray .char, 2) := by decide +kernel
theorem dMB_42 : decode method_7_code 42 = .ok (.dup, 1) := by decide +kernel
theorem dMB_43 : decode method_7_code 43 = .ok (.iconst 0, 1) := by decide +kernel
theorem dMB_44 : decode method_7_code 44 = .ok (.bipush 110, 2) := by decide +kernel
theorem dMB_46 : decode method_7_code 46 = .ok (.castore, 1) := by decide +kernel
theorem dMB_47 : decode method_7_code 47 = .ok (.dup, 1) := by decide +kernel
theorem dMB_48 : decode method_7_code 48 = .ok (.iconst 1, 1) := by decide +kernel
theorem dMB_49 : decode method_7_code 49 = .ok (.bipush 111, 2) := by decide +kernel
theorem dMB_51 : decode method_7_code 51 = .ok (.castore, 1) := by decide +kernel
theorem dMB_52 : decode method_7_code 52 = .ok (.dup, 1) := by decide +kernel
theorem dMB_53 : decode method_7_code 53 = .ok (.iconst 2, 1) := by decide +kernel
theorem dMB_54 : decode method_7_code 54 = .ok (.bipush 116, 2) := by decide +kernel
theorem dMB_56 : decode method_7_code 56 = .ok (.castore, 1) := by decide +kernel
theorem dMB_57 : decode method_7_code 57 = .ok (.dup, 1) := by decide +kernel
theorem dMB_58 : decode method_7_code 58 = .ok (.iconst 3, 1) := by decide +kernel
theorem dMB_59 : decode method_7_code 59 = .ok (.bipush 70, 2) := by decide +kernel
theorem dMB_61 : decode method_7_code 61 = .ok (.castore, 1) := by decide +kernel
theorem dMB_62 : decode method_7_code 62 = .ok (.dup, 1) := by decide +kernel
theorem dMB_63 : decode method_7_code 63 = .ok (.iconst 4, 1) := by decide +kernel
theorem dMB_64 : decode method_7_code 64 = .ok (.bipush 111, 2) := by decide +kernel
theorem dMB_66 : decode method_7_code 66 = .ok (.castore, 1) := by decide +kernel
theorem dMB_67 : decode method_7_code 67 = .ok (.dup, 1) := by decide +kernel
theorem dMB_68 : decode method_7_code 68 = .ok (.iconst 5, 1) := by decide +kernel
theorem dMB_69 : decode method_7_code 69 = .ok (.bipush 117, 2) := by decide +kernel
theorem dMB_71 : decode method_7_code 71 = .ok (.castore, 1) := by decide +kernel
theorem dMB_72 : decode method_7_code 72 = .ok (.dup, 1) := by decide +kernel
theorem dMB_73 : decode method_7_code 73 = .ok (.bipush 6, 2) := by decide +kernel
theorem dMB_75 : decode method_7_code 75 = .ok (.bipush 110, 2) := by decide +kernel
theorem dMB_77 : decode method_7_code 77 = .ok (.castore, 1) := by decide +kernel
theorem dMB_78 : decode method_7_code 78 = .ok (.dup, 1) := by decide +kernel
theorem dMB_79 : decode method_7_code 79 = .ok (.bipush 7, 2) := by decide +kernel
theorem dMB_81 : decode method_7_code 81 = .ok (.bipush 100, 2) := by decide +kernel
theorem dMB_83 : decode method_7_code 83 = .ok (.castore, 1) := by decide +kernel
theorem dMB_84 : decode method_7_code 84 = .ok (.areturn, 1) := by decide +kernel
theorem dMB_85 : decode method_7_code 85 = .ok (.bipush 7, 2) := by decide +kernel
theorem dMB_87 : decode method_7_code 87 = .ok (.newarray .char, 2) := by decide +kernel
theorem dMB_89 : decode method_7_code 89 = .ok (.dup, 1) := by decide +kernel
theorem dMB_90 : decode method_7_code 90 = .ok (.iconst 0, 1) := by decide +kernel
theorem dMB_91 : decode method_7_code 91 = .ok (.bipush 105, 2) := by decide +kernel
theorem dMB_93 : decode method_7_code 93 = .ok (.castore, 1) := by decide +kernel
theorem dMB_94 : decode method_7_code 94 = .ok (.dup, 1) := by decide +kernel
theorem dMB_95 : decode method_7_code 95 = .ok (.iconst 1, 1) := by decide +kernel
theorem dMB_96 : decode method_7_code 96 = .ok (.bipush 110, 2) := by decide +kernel
theorem dMB_98 : decode method_7_code 98 = .ok (.castore, 1) := by decide +kernel
theorem dMB_99 : decode method_7_code 99 = .ok (.dup, 1) := by decide +kernel
theorem dMB_100 : decode method_7_code 100 = .ok (.iconst 2, 1) := by decide +kernel
theorem dMB_101 : decode method_7_code 101 = .ok (.bipush 118, 2) := by decide +kernel
theorem dMB_103 : decode method_7_code 103 = .ok (.castore, 1) := by decide +kernel
theorem dMB_104 : decode method_7_code 104 = .ok (.dup, 1) := by decide +kernel
theorem dMB_105 : decode method_7_code 105 = .ok (.iconst 3, 1) := by decide +kernel
theorem dMB_106 : decode method_7_code 106 = .ok (.bipush 97, 2) := by decide +kernel
theorem dMB_108 : decode method_7_code 108 = .ok (.castore, 1) := by decide +kernel
theorem dMB_109 : decode method_7_code 109 = .ok (.dup, 1) := by decide +kernel
theorem dMB_110 : decode method_7_code 110 = .ok (.iconst 4, 1) := by decide +kernel
theorem dMB_111 : decode method_7_code 111 = .ok (.bipush 108, 2) := by decide +kernel
theorem dMB_113 : decode method_7_code 113 = .ok (.castore, 1) := by decide +kernel
theorem dMB_114 : decode method_7_code 114 = .ok (.dup, 1) := by decide +kernel
theorem dMB_115 : decode method_7_code 115 = .ok (.iconst 5, 1) := by decide +kernel
theorem dMB_116 : decode method_7_code 116 = .ok (.bipush 105, 2) := by decide +kernel
theorem dMB_118 : decode method_7_code 118 = .ok (.castore, 1) := by decide +kernel
theorem dMB_119 : decode method_7_code 119 = .ok (.dup, 1) := by decide +kernel
theorem dMB_120 : decode method_7_code 120 = .ok (.bipush 6, 2) := by decide +kernel
theorem dMB_122 : decode method_7_code 122 = .ok (.bipush 100, 2) := by decide +kernel
theorem dMB_124 : decode method_7_code 124 = .ok (.castore, 1) := by decide +kernel
theorem dMB_125 : decode method_7_code 125 = .ok (.areturn, 1) := by decide +kernel
set_option maxRecDepth 65536 in
set_option maxHeartbeats 40000000 in
theorem own_mb (l : Launch) (Z : State) (a0 : Array Value) (hw : ∀ d ∈ tables_1, d.before a0 Z = true) (EL : List (String × Nat)) (hEL : EW Z a0 EL) (h0 : Heap) (k : Int32) :
    Con l Z EL false [] (⟨"com/example/research_api_client/researchapiclient/lotus/StatusOfMemberPinLaw", "bare", "(I)[C"⟩ : MethodName) method_7_code 1 (some (.array .char)) ({ frames := 0, cells := 1, slots := 13, locals := 0 } : Room) #[(.int k)] h0 (fun v h' => ∃ (c : Addr) (kc : ClassId) (cs : List Int32), v = some (.ref c) ∧ h0.size ≤ c ∧ Ext h0 h' ∧ own_CA Z h' c kc cs) := by
  refine Con.of (Ls := #[.val (.int k)]) (plainFor_of_name own_pn6) hEL (fun m => by first | (simp [entryFrame, mkF, argsToLocals, Value.category]; done) | rfl) ?_
  intro vm0 hZ0 hE0 hC0 hS0
  refine WP.iloadN (n := 1) dMB_0 rfl rfl ?_
  refine WP.if_ne (n := 33) (n' := 4) dMB_1 (by decide) (by decide) rfl (fun b181 => ?_) (fun b181 => ?_)
  · refine WP.iloadN (n := 34) dMB_33 rfl rfl ?_
    refine WP.iconst (n := 35) (z := (1 : Int32)) dMB_34 rfl rfl ?_
    refine WP.icmp_ne (n := 85) (n' := 38) dMB_35 (by decide) (by decide) rfl (fun b182 => ?_) (fun b182 => ?_)
    · refine WP.bipush (n := 87) (z := (7 : Int32)) dMB_85 (by decide) rfl ?_
      refine WP.newP (n := 89) (ce' := 1) (sl' := 7) (cap := 7) (ty := .char) dMB_87 (hw _ (List.mem_of_getElem? (i := 5) rfl)) rfl (by decide) (by decide) (by decide) rfl rfl (by decide) (by decide) rfl (fun a183 h183 k183 g183 E183 V183 S183 N183 r183 => ?_)
      have V183_ : Arv Z h183 a183 k183 .char (7 : Int32) (([0, 0, 0, 0, 0, 0, 0] : List Int32).map Value.int) (.int 0) := V183.pad (pad_rep [] (.int 0) 7)
      refine WP.dup (n := 90) dMB_89 rfl rfl ?_
      refine WP.iconst (n := 91) (z := (0 : Int32)) dMB_90 rfl rfl ?_
      refine WP.bipush (n := 93) (z := (105 : Int32)) dMB_91 (by decide) rfl ?_
      refine WP.stC (n := 94) (i := 0) (y := (105 : Int32)) dMB_93 V183_ (by decide) rfl (Nat.le_of_ble_eq_true rfl) (by decide) N183 S183 rfl (fun h184 W184 V184 r184 => ?_)
      have V184_ : Arv Z h184 a183 k183 .char (7 : Int32) (([(105 : Int32), 0, 0, 0, 0, 0, 0] : List Int32).map Value.int) (.int 0) := V184
      have S184 := r184.safe V183_.lt S183
      refine WP.dup (n := 95) dMB_94 rfl rfl ?_
      refine WP.iconst (n := 96) (z := (1 : Int32)) dMB_95 rfl rfl ?_
      refine WP.bipush (n := 98) (z := (110 : Int32)) dMB_96 (by decide) rfl ?_
      refine WP.stC (n := 99) (i := 1) (y := (110 : Int32)) dMB_98 V184_ (by decide) rfl (Nat.le_of_ble_eq_true rfl) (by decide) N183 S184 rfl (fun h185 W185 V185 r185 => ?_)
      have V185_ : Arv Z h185 a183 k183 .char (7 : Int32) (([(105 : Int32), (110 : Int32), 0, 0, 0, 0, 0] : List Int32).map Value.int) (.int 0) := V185
      have S185 := r185.safe V184_.lt S184
      refine WP.dup (n := 100) dMB_99 rfl rfl ?_
      refine WP.iconst (n := 101) (z := (2 : Int32)) dMB_100 rfl rfl ?_
      refine WP.bipush (n := 103) (z := (118 : Int32)) dMB_101 (by decide) rfl ?_
      refine WP.stC (n := 104) (i := 2) (y := (118 : Int32)) dMB_103 V185_ (by decide) rfl (Nat.le_of_ble_eq_true rfl) (by decide) N183 S185 rfl (fun h186 W186 V186 r186 => ?_)
      have V186_ : Arv Z h186 a183 k183 .char (7 : Int32) (([(105 : Int32), (110 : Int32), (118 : Int32), 0, 0, 0, 0] : List Int32).map Value.int) (.int 0) := V186
      have S186 := r186.safe V185_.lt S185
      refine WP.dup (n := 105) dMB_104 rfl rfl ?_
      refine WP.iconst (n := 106) (z := (3 : Int32)) dMB_105 rfl rfl ?_
      refine WP.bipush (n := 108) (z := (97 : Int32)) dMB_106 (by decide) rfl ?_
      refine WP.stC (n := 109) (i := 3) (y := (97 : Int32)) dMB_108 V186_ (by decide) rfl (Nat.le_of_ble_eq_true rfl) (by decide) N183 S186 rfl (fun h187 W187 V187 r187 => ?_)
      have V187_ : Arv Z h187 a183 k183 .char (7 : Int32) (([(105 : Int32), (110 : Int32), (118 : Int32), (97 : Int32), 0, 0, 0] : List Int32).map Value.int) (.int 0) := V187
      have S187 := r187.safe V186_.lt S186
      refine WP.dup (n := 110) dMB_109 rfl rfl ?_
      refine WP.iconst (n := 111) (z := (4 : Int32)) dMB_110 rfl rfl ?_
      refine WP.bipush (n := 113) (z := (108 : Int32)) dMB_111 (by decide) rfl ?_
      refine WP.stC (n := 114) (i := 4) (y := (108 : Int32)) dMB_113 V187_ (by decide) rfl (Nat.le_of_ble_eq_true rfl) (by decide) N183 S187 rfl (fun h188 W188 V188 r188 => ?_)
      have V188_ : Arv Z h188 a183 k183 .char (7 : Int32) (([(105 : Int32), (110 : Int32), (118 : Int32), (97 : Int32), (108 : Int32), 0, 0] : List Int32).map Value.int) (.int 0) := V188
      have S188 := r188.safe V187_.lt S187
      refine WP.dup (n := 115) dMB_114 rfl rfl ?_
      refine WP.iconst (n := 116) (z := (5 : Int32)) dMB_115 rfl rfl ?_
      refine WP.bipush (n := 118) (z := (105 : Int32)) dMB_116 (by decide) rfl ?_
      refine WP.stC (n := 119) (i := 5) (y := (105 : Int32)) dMB_118 V188_ (by decide) rfl (Nat.le_of_ble_eq_true rfl) (by decide) N183 S188 rfl (fun h189 W189 V189 r189 => ?_)
      have V189_ : Arv Z h189 a183 k183 .char (7 : Int32) (([(105 : Int32), (110 : Int32), (118 : Int32), (97 : Int32), (108 : Int32), (105 : Int32), 0] : List Int32).map Value.int) (.int 0) := V189
      have S189 := r189.safe V188_.lt S188
      refine WP.dup (n := 120) dMB_119 rfl rfl ?_
      refine WP.bipush (n := 122) (z := (6 : Int32)) dMB_120 (by decide) rfl ?_
      refine WP.bipush (n := 124) (z := (100 : Int32)) dMB_122 (by decide) rfl ?_
      refine WP.stC (n := 125) (i := 6) (y := (100 : Int32)) dMB_124 V189_ (by decide) rfl (Nat.le_of_ble_eq_true rfl) (by decide) N183 S189 rfl (fun h190 W190 V190 r190 => ?_)
      have V190_ : Arv Z h190 a183 k183 .char (7 : Int32) (([(105 : Int32), (110 : Int32), (118 : Int32), (97 : Int32), (108 : Int32), (105 : Int32), (100 : Int32)] : List Int32).map Value.int) (.int 0) := V190
      have S190 := r190.safe V189_.lt S189
      exact WP.retA dMB_125 rfl rfl rfl rfl (by decide) (by decide) ⟨a183, k183, [(105 : Int32), (110 : Int32), (118 : Int32), (97 : Int32), (108 : Int32), (105 : Int32), (100 : Int32)], rfl, Nat.le_of_eq g183.symm, (ext_wr (ext_wr (ext_wr (ext_wr (ext_wr (ext_wr (ext_wr E183 W184 (Nat.le_of_eq g183.symm)) W185 (Nat.le_of_eq g183.symm)) W186 (Nat.le_of_eq g183.symm)) W187 (Nat.le_of_eq g183.symm)) W188 (Nat.le_of_eq g183.symm)) W189 (Nat.le_of_eq g183.symm)) W190 (Nat.le_of_eq g183.symm)), ⟨V190_, Nat.le_of_ble_eq_true rfl, (own_rng_cons (by decide) (own_rng_cons (by decide) (own_rng_cons (by decide) (own_rng_cons (by decide) (own_rng_cons (by decide) (own_rng_cons (by decide) (own_rng_cons (by decide) own_rng_nil)))))))⟩⟩
    · refine WP.bipush (n := 40) (z := (8 : Int32)) dMB_38 (by decide) rfl ?_
      refine WP.newP (n := 42) (ce' := 1) (sl' := 8) (cap := 8) (ty := .char) dMB_40 (hw _ (List.mem_of_getElem? (i := 5) rfl)) rfl (by decide) (by decide) (by decide) rfl rfl (by decide) (by decide) rfl (fun a191 h191 k191 g191 E191 V191 S191 N191 r191 => ?_)
      have V191_ : Arv Z h191 a191 k191 .char (8 : Int32) (([0, 0, 0, 0, 0, 0, 0, 0] : List Int32).map Value.int) (.int 0) := V191.pad (pad_rep [] (.int 0) 8)
      refine WP.dup (n := 43) dMB_42 rfl rfl ?_
      refine WP.iconst (n := 44) (z := (0 : Int32)) dMB_43 rfl rfl ?_
      refine WP.bipush (n := 46) (z := (110 : Int32)) dMB_44 (by decide) rfl ?_
      refine WP.stC (n := 47) (i := 0) (y := (110 : Int32)) dMB_46 V191_ (by decide) rfl (Nat.le_of_ble_eq_true rfl) (by decide) N191 S191 rfl (fun h192 W192 V192 r192 => ?_)
      have V192_ : Arv Z h192 a191 k191 .char (8 : Int32) (([(110 : Int32), 0, 0, 0, 0, 0, 0, 0] : List Int32).map Value.int) (.int 0) := V192
      have S192 := r192.safe V191_.lt S191
      refine WP.dup (n := 48) dMB_47 rfl rfl ?_
      refine WP.iconst (n := 49) (z := (1 : Int32)) dMB_48 rfl rfl ?_
      refine WP.bipush (n := 51) (z := (111 : Int32)) dMB_49 (by decide) rfl ?_
      refine WP.stC (n := 52) (i := 1) (y := (111 : Int32)) dMB_51 V192_ (by decide) rfl (Nat.le_of_ble_eq_true rfl) (by decide) N191 S192 rfl (fun h193 W193 V193 r193 => ?_)
      have V193_ : Arv Z h193 a191 k191 .char (8 : Int32) (([(110 : Int32), (111 : Int32), 0, 0, 0, 0, 0, 0] : List Int32).map Value.int) (.int 0) := V193
      have S193 := r193.safe V192_.lt S192
      refine WP.dup (n := 53) dMB_52 rfl rfl ?_
      refine WP.iconst (n := 54) (z := (2 : Int32)) dMB_53 rfl rfl ?_
      refine WP.bipush (n := 56) (z := (116 : Int32)) dMB_54 (by decide) rfl ?_
      refine WP.stC (n := 57) (i := 2) (y := (116 : Int32)) dMB_56 V193_ (by decide) rfl (Nat.le_of_ble_eq_true rfl) (by decide) N191 S193 rfl (fun h194 W194 V194 r194 => ?_)
      have V194_ : Arv Z h194 a191 k191 .char (8 : Int32) (([(110 : Int32), (111 : Int32), (116 : Int32), 0, 0, 0, 0, 0] : List Int32).map Value.int) (.int 0) := V194
      have S194 := r194.safe V193_.lt S193
      refine WP.dup (n := 58) dMB_57 rfl rfl ?_
      refine WP.iconst (n := 59) (z := (3 : Int32)) dMB_58 rfl rfl ?_
      refine WP.bipush (n := 61) (z := (70 : Int32)) dMB_59 (by decide) rfl ?_
      refine WP.stC (n := 62) (i := 3) (y := (70 : Int32)) dMB_61 V194_ (by decide) rfl (Nat.le_of_ble_eq_true rfl) (by decide) N191 S194 rfl (fun h195 W195 V195 r195 => ?_)
      have V195_ : Arv Z h195 a191 k191 .char (8 : Int32) (([(110 : Int32), (111 : Int32), (116 : Int32), (70 : Int32), 0, 0, 0, 0] : List Int32).map Value.int) (.int 0) := V195
      have S195 := r195.safe V194_.lt S194
      refine WP.dup (n := 63) dMB_62 rfl rfl ?_
      refine WP.iconst (n := 64) (z := (4 : Int32)) dMB_63 rfl rfl ?_
      refine WP.bipush (n := 66) (z := (111 : Int32)) dMB_64 (by decide) rfl ?_
      refine WP.stC (n := 67) (i := 4) (y := (111 : Int32)) dMB_66 V195_ (by decide) rfl (Nat.le_of_ble_eq_true rfl) (by decide) N191 S195 rfl (fun h196 W196 V196 r196 => ?_)
      have V196_ : Arv Z h196 a191 k191 .char (8 : Int32) (([(110 : Int32), (111 : Int32), (116 : Int32), (70 : Int32), (111 : Int32), 0, 0, 0] : List Int32).map Value.int) (.int 0) := V196
      have S196 := r196.safe V195_.lt S195
      refine WP.dup (n := 68) dMB_67 rfl rfl ?_
      refine WP.iconst (n := 69) (z := (5 : Int32)) dMB_68 rfl rfl ?_
      refine WP.bipush (n := 71) (z := (117 : Int32)) dMB_69 (by decide) rfl ?_
      refine WP.stC (n := 72) (i := 5) (y := (117 : Int32)) dMB_71 V196_ (by decide) rfl (Nat.le_of_ble_eq_true rfl) (by decide) N191 S196 rfl (fun h197 W197 V197 r197 => ?_)
      have V197_ : Arv Z h197 a191 k191 .char (8 : Int32) (([(110 : Int32), (111 : Int32), (116 : Int32), (70 : Int32), (111 : Int32), (117 : Int32), 0, 0] : List Int32).map Value.int) (.int 0) := V197
      have S197 := r197.safe V196_.lt S196
      refine WP.dup (n := 73) dMB_72 rfl rfl ?_
      refine WP.bipush (n := 75) (z := (6 : Int32)) dMB_73 (by decide) rfl ?_
      refine WP.bipush (n := 77) (z := (110 : Int32)) dMB_75 (by decide) rfl ?_
      refine WP.stC (n := 78) (i := 6) (y := (110 : Int32)) dMB_77 V197_ (by decide) rfl (Nat.le_of_ble_eq_true rfl) (by decide) N191 S197 rfl (fun h198 W198 V198 r198 => ?_)
      have V198_ : Arv Z h198 a191 k191 .char (8 : Int32) (([(110 : Int32), (111 : Int32), (116 : Int32), (70 : Int32), (111 : Int32), (117 : Int32), (110 : Int32), 0] : List Int32).map Value.int) (.int 0) := V198
      have S198 := r198.safe V197_.lt S197
      refine WP.dup (n := 79) dMB_78 rfl rfl ?_
      refine WP.bipush (n := 81) (z := (7 : Int32)) dMB_79 (by decide) rfl ?_
      refine WP.bipush (n := 83) (z := (100 : Int32)) dMB_81 (by decide) rfl ?_
      refine WP.stC (n := 84) (i := 7) (y := (100 : Int32)) dMB_83 V198_ (by decide) rfl (Nat.le_of_ble_eq_true rfl) (by decide) N191 S198 rfl (fun h199 W199 V199 r199 => ?_)
      have V199_ : Arv Z h199 a191 k191 .char (8 : Int32) (([(110 : Int32), (111 : Int32), (116 : Int32), (70 : Int32), (111 : Int32), (117 : Int32), (110 : Int32), (100 : Int32)] : List Int32).map Value.int) (.int 0) := V199
      have S199 := r199.safe V198_.lt S198
      exact WP.retA dMB_84 rfl rfl rfl rfl (by decide) (by decide) ⟨a191, k191, [(110 : Int32), (111 : Int32), (116 : Int32), (70 : Int32), (111 : Int32), (117 : Int32), (110 : Int32), (100 : Int32)], rfl, Nat.le_of_eq g191.symm, (ext_wr (ext_wr (ext_wr (ext_wr (ext_wr (ext_wr (ext_wr (ext_wr E191 W192 (Nat.le_of_eq g191.symm)) W193 (Nat.le_of_eq g191.symm)) W194 (Nat.le_of_eq g191.symm)) W195 (Nat.le_of_eq g191.symm)) W196 (Nat.le_of_eq g191.symm)) W197 (Nat.le_of_eq g191.symm)) W198 (Nat.le_of_eq g191.symm)) W199 (Nat.le_of_eq g191.symm)), ⟨V199_, Nat.le_of_ble_eq_true rfl, (own_rng_cons (by decide) (own_rng_cons (by decide) (own_rng_cons (by decide) (own_rng_cons (by decide) (own_rng_cons (by decide) (own_rng_cons (by decide) (own_rng_cons (by decide) (own_rng_cons (by decide) own_rng_nil))))))))⟩⟩
  · refine WP.iconst (n := 5) (z := (5 : Int32)) dMB_4 rfl rfl ?_
    refine WP.newP (n := 7) (ce' := 1) (sl' := 5) (cap := 5) (ty := .char) dMB_5 (hw _ (List.mem_of_getElem? (i := 5) rfl)) rfl (by decide) (by decide) (by decide) rfl rfl (by decide) (by decide) rfl (fun a200 h200 k200 g200 E200 V200 S200 N200 r200 => ?_)
    have V200_ : Arv Z h200 a200 k200 .char (5 : Int32) (([0, 0, 0, 0, 0] : List Int32).map Value.int) (.int 0) := V200.pad (pad_rep [] (.int 0) 5)
    refine WP.dup (n := 8) dMB_7 rfl rfl ?_
    refine WP.iconst (n := 9) (z := (0 : Int32)) dMB_8 rfl rfl ?_
    refine WP.bipush (n := 11) (z := (102 : Int32)) dMB_9 (by decide) rfl ?_
    refine WP.stC (n := 12) (i := 0) (y := (102 : Int32)) dMB_11 V200_ (by decide) rfl (Nat.le_of_ble_eq_true rfl) (by decide) N200 S200 rfl (fun h201 W201 V201 r201 => ?_)
    have V201_ : Arv Z h201 a200 k200 .char (5 : Int32) (([(102 : Int32), 0, 0, 0, 0] : List Int32).map Value.int) (.int 0) := V201
    have S201 := r201.safe V200_.lt S200
    refine WP.dup (n := 13) dMB_12 rfl rfl ?_
    refine WP.iconst (n := 14) (z := (1 : Int32)) dMB_13 rfl rfl ?_
    refine WP.bipush (n := 16) (z := (111 : Int32)) dMB_14 (by decide) rfl ?_
    refine WP.stC (n := 17) (i := 1) (y := (111 : Int32)) dMB_16 V201_ (by decide) rfl (Nat.le_of_ble_eq_true rfl) (by decide) N200 S201 rfl (fun h202 W202 V202 r202 => ?_)
    have V202_ : Arv Z h202 a200 k200 .char (5 : Int32) (([(102 : Int32), (111 : Int32), 0, 0, 0] : List Int32).map Value.int) (.int 0) := V202
    have S202 := r202.safe V201_.lt S201
    refine WP.dup (n := 18) dMB_17 rfl rfl ?_
    refine WP.iconst (n := 19) (z := (2 : Int32)) dMB_18 rfl rfl ?_
    refine WP.bipush (n := 21) (z := (117 : Int32)) dMB_19 (by decide) rfl ?_
    refine WP.stC (n := 22) (i := 2) (y := (117 : Int32)) dMB_21 V202_ (by decide) rfl (Nat.le_of_ble_eq_true rfl) (by decide) N200 S202 rfl (fun h203 W203 V203 r203 => ?_)
    have V203_ : Arv Z h203 a200 k200 .char (5 : Int32) (([(102 : Int32), (111 : Int32), (117 : Int32), 0, 0] : List Int32).map Value.int) (.int 0) := V203
    have S203 := r203.safe V202_.lt S202
    refine WP.dup (n := 23) dMB_22 rfl rfl ?_
    refine WP.iconst (n := 24) (z := (3 : Int32)) dMB_23 rfl rfl ?_
    refine WP.bipush (n := 26) (z := (110 : Int32)) dMB_24 (by decide) rfl ?_
    refine WP.stC (n := 27) (i := 3) (y := (110 : Int32)) dMB_26 V203_ (by decide) rfl (Nat.le_of_ble_eq_true rfl) (by decide) N200 S203 rfl (fun h204 W204 V204 r204 => ?_)
    have V204_ : Arv Z h204 a200 k200 .char (5 : Int32) (([(102 : Int32), (111 : Int32), (117 : Int32), (110 : Int32), 0] : List Int32).map Value.int) (.int 0) := V204
    have S204 := r204.safe V203_.lt S203
    refine WP.dup (n := 28) dMB_27 rfl rfl ?_
    refine WP.iconst (n := 29) (z := (4 : Int32)) dMB_28 rfl rfl ?_
    refine WP.bipush (n := 31) (z := (100 : Int32)) dMB_29 (by decide) rfl ?_
    refine WP.stC (n := 32) (i := 4) (y := (100 : Int32)) dMB_31 V204_ (by decide) rfl (Nat.le_of_ble_eq_true rfl) (by decide) N200 S204 rfl (fun h205 W205 V205 r205 => ?_)
    have V205_ : Arv Z h205 a200 k200 .char (5 : Int32) (([(102 : Int32), (111 : Int32), (117 : Int32), (110 : Int32), (100 : Int32)] : List Int32).map Value.int) (.int 0) := V205
    have S205 := r205.safe V204_.lt S204
    exact WP.retA dMB_32 rfl rfl rfl rfl (by decide) (by decide) ⟨a200, k200, [(102 : Int32), (111 : Int32), (117 : Int32), (110 : Int32), (100 : Int32)], rfl, Nat.le_of_eq g200.symm, (ext_wr (ext_wr (ext_wr (ext_wr (ext_wr E200 W201 (Nat.le_of_eq g200.symm)) W202 (Nat.le_of_eq g200.symm)) W203 (Nat.le_of_eq g200.symm)) W204 (Nat.le_of_eq g200.symm)) W205 (Nat.le_of_eq g200.symm)), ⟨V205_, Nat.le_of_ble_eq_true rfl, (own_rng_cons (by decide) (own_rng_cons (by decide) (own_rng_cons (by decide) (own_rng_cons (by decide) (own_rng_cons (by decide) own_rng_nil)))))⟩⟩
theorem dMS_0 : decode method_8_code 0 = .ok (.iload_n 0, 1) := by decide +kernel
theorem dMS_1 : decode method_8_code 1 = .ok (.ifCond .ne 7, 3) := by decide +kernel
theorem dMS_4 : decode method_8_code 4 = .ok (.iconst 0, 1) := by decide +kernel
theorem dMS_5 : decode method_8_code 5 = .ok (.newarray .char, 2) := by decide +kernel
theorem dMS_7 : decode method_8_code 7 = .ok (.areturn, 1) := by decide +kernel
theorem dMS_8 : decode method_8_code 8 = .ok (.iload_n 0, 1) := by decide +kernel
theorem dMS_9 : decode method_8_code 9 = .ok (.iconst 1, 1) := by decide +kernel
theorem dMS_10 : decode method_8_code 10 = .ok (.if_icmp .ne 11, 3) := by decide +kernel
theorem dMS_13 : decode method_8_code 13 = .ok (.iconst 1, 1) := by decide +kernel
theorem dMS_14 : decode method_8_code 14 = .ok (.newarray .char, 2) := by decide +kernel
theorem dMS_16 : decode method_8_code 16 = .ok (.dup, 1) := by decide +kernel
theorem dMS_17 : decode method_8_code 17 = .ok (.iconst 0, 1) := by decide +kernel
theorem dMS_18 : decode method_8_code 18 = .ok (.iload_n 1, 1) := by decide +kernel
theorem dMS_19 : decode method_8_code 19 = .ok (.castore, 1) := by decide +kernel
theorem dMS_20 : decode method_8_code 20 = .ok (.areturn, 1) := by decide +kernel
theorem dMS_21 : decode method_8_code 21 = .ok (.iload_n 0, 1) := by decide +kernel
theorem dMS_22 : decode method_8_code 22 = .ok (.iconst 2, 1) := by decide +kernel
theorem dMS_23 : decode method_8_code 23 = .ok (.if_icmp .ne 15, 3) := by decide +kernel
theorem dMS_26 : decode method_8_code 26 = .ok (.iconst 2, 1) := by decide +kernel
theorem dMS_27 : decode method_8_code 27 = .ok (.newarray .char, 2) := by decide +kernel
theorem dMS_29 : decode method_8_code 29 = .ok (.dup, 1) := by decide +kernel
theorem dMS_30 : decode method_8_code 30 = .ok (.iconst 0, 1) := by decide +kernel
theorem dMS_31 : decode method_8_code 31 = .ok (.iload_n 1, 1) := by decide +kernel
theorem dMS_32 : decode method_8_code 32 = .ok (.castore, 1) := by decide +kernel
theorem dMS_33 : decode method_8_code 33 = .ok (.dup, 1) := by decide +kernel
theorem dMS_34 : decode method_8_code 34 = .ok (.iconst 1, 1) := by decide +kernel
theorem dMS_35 : decode method_8_code 35 = .ok (.iload_n 2, 1) := by decide +kernel
theorem dMS_36 : decode method_8_code 36 = .ok (.castore, 1) := by decide +kernel
theorem dMS_37 : decode method_8_code 37 = .ok (.areturn, 1) := by decide +kernel
theorem dMS_38 : decode method_8_code 38 = .ok (.iconst 3, 1) := by decide +kernel
theorem dMS_39 : decode method_8_code 39 = .ok (.newarray .char, 2) := by decide +kernel
theorem dMS_41 : decode method_8_code 41 = .ok (.dup, 1) := by decide +kernel
theorem dMS_42 : decode method_8_code 42 = .ok (.iconst 0, 1) := by decide +kernel
theorem dMS_43 : decode method_8_code 43 = .ok (.iload_n 1, 1) := by decide +kernel
theorem dMS_44 : decode method_8_code 44 = .ok (.castore, 1) := by decide +kernel
theorem dMS_45 : decode method_8_code 45 = .ok (.dup, 1) := by decide +kernel
theorem dMS_46 : decode method_8_code 46 = .ok (.iconst 1, 1) := by decide +kernel
theorem dMS_47 : decode method_8_code 47 = .ok (.iload_n 2, 1) := by decide +kernel
theorem dMS_48 : decode method_8_code 48 = .ok (.castore, 1) := by decide +kernel
theorem dMS_49 : decode method_8_code 49 = .ok (.dup, 1) := by decide +kernel
theorem dMS_50 : decode method_8_code 50 = .ok (.iconst 2, 1) := by decide +kernel
theorem dMS_51 : decode method_8_code 51 = .ok (.iload_n 3, 1) := by decide +kernel
theorem dMS_52 : decode method_8_code 52 = .ok (.castore, 1) := by decide +kernel
theorem dMS_53 : decode method_8_code 53 = .ok (.areturn, 1) := by decide +kernel
set_option maxRecDepth 65536 in
set_option maxHeartbeats 40000000 in
theorem own_ms (l : Launch) (Z : State) (a0 : Array Value) (hw : ∀ d ∈ tables_1, d.before a0 Z = true) (EL : List (String × Nat)) (hEL : EW Z a0 EL) (h0 : Heap) (k : Int32) (x : Int32) (hx : ¬ x < 0 ∧ ¬ (255 : Int32) < x) (y : Int32) (hy : ¬ y < 0 ∧ ¬ (255 : Int32) < y) (z : Int32) (hz : ¬ z < 0 ∧ ¬ (255 : Int32) < z) :
    Con l Z EL false [] (⟨"com/example/research_api_client/researchapiclient/lotus/StatusOfMemberPinLaw", "shortDrawn", "(ICCC)[C"⟩ : MethodName) method_8_code 4 (some (.array .char)) ({ frames := 0, cells := 1, slots := 13, locals := 0 } : Room) #[(.int k), (.int x), (.int y), (.int z)] h0 (fun v h' => ∃ (c : Addr) (kc : ClassId) (cs : List Int32), v = some (.ref c) ∧ h0.size ≤ c ∧ Ext h0 h' ∧ own_CA Z h' c kc cs) := by
  refine Con.of (Ls := #[.val (.int k), .val (.int x), .val (.int y), .val (.int z)]) (plainFor_of_name own_pn6) hEL (fun m => by first | (simp [entryFrame, mkF, argsToLocals, Value.category]; done) | rfl) ?_
  intro vm0 hZ0 hE0 hC0 hS0
  refine WP.iloadN (n := 1) dMS_0 rfl rfl ?_
  refine WP.if_ne (n := 8) (n' := 4) dMS_1 (by decide) (by decide) rfl (fun b206 => ?_) (fun b206 => ?_)
  · refine WP.iloadN (n := 9) dMS_8 rfl rfl ?_
    refine WP.iconst (n := 10) (z := (1 : Int32)) dMS_9 rfl rfl ?_
    refine WP.icmp_ne (n := 21) (n' := 13) dMS_10 (by decide) (by decide) rfl (fun b207 => ?_) (fun b207 => ?_)
    · refine WP.iloadN (n := 22) dMS_21 rfl rfl ?_
      refine WP.iconst (n := 23) (z := (2 : Int32)) dMS_22 rfl rfl ?_
      refine WP.icmp_ne (n := 38) (n' := 26) dMS_23 (by decide) (by decide) rfl (fun b208 => ?_) (fun b208 => ?_)
      · refine WP.iconst (n := 39) (z := (3 : Int32)) dMS_38 rfl rfl ?_
        refine WP.newP (n := 41) (ce' := 1) (sl' := 3) (cap := 3) (ty := .char) dMS_39 (hw _ (List.mem_of_getElem? (i := 5) rfl)) rfl (by decide) (by decide) (by decide) rfl rfl (by decide) (by decide) rfl (fun a209 h209 k209 g209 E209 V209 S209 N209 r209 => ?_)
        have V209_ : Arv Z h209 a209 k209 .char (3 : Int32) (([0, 0, 0] : List Int32).map Value.int) (.int 0) := V209.pad (pad_rep [] (.int 0) 3)
        refine WP.dup (n := 42) dMS_41 rfl rfl ?_
        refine WP.iconst (n := 43) (z := (0 : Int32)) dMS_42 rfl rfl ?_
        refine WP.iloadN (n := 44) dMS_43 rfl rfl ?_
        refine WP.stC (n := 45) (i := 0) (y := x) dMS_44 V209_ (by decide) rfl (Nat.le_of_ble_eq_true rfl) (own_c16 hx) N209 S209 rfl (fun h210 W210 V210 r210 => ?_)
        have V210_ : Arv Z h210 a209 k209 .char (3 : Int32) (([x, 0, 0] : List Int32).map Value.int) (.int 0) := V210
        have S210 := r210.safe V209_.lt S209
        refine WP.dup (n := 46) dMS_45 rfl rfl ?_
        refine WP.iconst (n := 47) (z := (1 : Int32)) dMS_46 rfl rfl ?_
        refine WP.iloadN (n := 48) dMS_47 rfl rfl ?_
        refine WP.stC (n := 49) (i := 1) (y := y) dMS_48 V210_ (by decide) rfl (Nat.le_of_ble_eq_true rfl) (own_c16 hy) N209 S210 rfl (fun h211 W211 V211 r211 => ?_)
        have V211_ : Arv Z h211 a209 k209 .char (3 : Int32) (([x, y, 0] : List Int32).map Value.int) (.int 0) := V211
        have S211 := r211.safe V210_.lt S210
        refine WP.dup (n := 50) dMS_49 rfl rfl ?_
        refine WP.iconst (n := 51) (z := (2 : Int32)) dMS_50 rfl rfl ?_
        refine WP.iloadN (n := 52) dMS_51 rfl rfl ?_
        refine WP.stC (n := 53) (i := 2) (y := z) dMS_52 V211_ (by decide) rfl (Nat.le_of_ble_eq_true rfl) (own_c16 hz) N209 S211 rfl (fun h212 W212 V212 r212 => ?_)
        have V212_ : Arv Z h212 a209 k209 .char (3 : Int32) (([x, y, z] : List Int32).map Value.int) (.int 0) := V212
        have S212 := r212.safe V211_.lt S211
        exact WP.retA dMS_53 rfl rfl rfl rfl (by decide) (by decide) ⟨a209, k209, [x, y, z], rfl, Nat.le_of_eq g209.symm, (ext_wr (ext_wr (ext_wr E209 W210 (Nat.le_of_eq g209.symm)) W211 (Nat.le_of_eq g209.symm)) W212 (Nat.le_of_eq g209.symm)), ⟨V212_, Nat.le_of_ble_eq_true rfl, (own_rng_cons hx (own_rng_cons hy (own_rng_cons hz own_rng_nil)))⟩⟩
      · refine WP.iconst (n := 27) (z := (2 : Int32)) dMS_26 rfl rfl ?_
        refine WP.newP (n := 29) (ce' := 1) (sl' := 2) (cap := 2) (ty := .char) dMS_27 (hw _ (List.mem_of_getElem? (i := 5) rfl)) rfl (by decide) (by decide) (by decide) rfl rfl (by decide) (by decide) rfl (fun a213 h213 k213 g213 E213 V213 S213 N213 r213 => ?_)
        have V213_ : Arv Z h213 a213 k213 .char (2 : Int32) (([0, 0] : List Int32).map Value.int) (.int 0) := V213.pad (pad_rep [] (.int 0) 2)
        refine WP.dup (n := 30) dMS_29 rfl rfl ?_
        refine WP.iconst (n := 31) (z := (0 : Int32)) dMS_30 rfl rfl ?_
        refine WP.iloadN (n := 32) dMS_31 rfl rfl ?_
        refine WP.stC (n := 33) (i := 0) (y := x) dMS_32 V213_ (by decide) rfl (Nat.le_of_ble_eq_true rfl) (own_c16 hx) N213 S213 rfl (fun h214 W214 V214 r214 => ?_)
        have V214_ : Arv Z h214 a213 k213 .char (2 : Int32) (([x, 0] : List Int32).map Value.int) (.int 0) := V214
        have S214 := r214.safe V213_.lt S213
        refine WP.dup (n := 34) dMS_33 rfl rfl ?_
        refine WP.iconst (n := 35) (z := (1 : Int32)) dMS_34 rfl rfl ?_
        refine WP.iloadN (n := 36) dMS_35 rfl rfl ?_
        refine WP.stC (n := 37) (i := 1) (y := y) dMS_36 V214_ (by decide) rfl (Nat.le_of_ble_eq_true rfl) (own_c16 hy) N213 S214 rfl (fun h215 W215 V215 r215 => ?_)
        have V215_ : Arv Z h215 a213 k213 .char (2 : Int32) (([x, y] : List Int32).map Value.int) (.int 0) := V215
        have S215 := r215.safe V214_.lt S214
        exact WP.retA dMS_37 rfl rfl rfl rfl (by decide) (by decide) ⟨a213, k213, [x, y], rfl, Nat.le_of_eq g213.symm, (ext_wr (ext_wr E213 W214 (Nat.le_of_eq g213.symm)) W215 (Nat.le_of_eq g213.symm)), ⟨V215_, Nat.le_of_ble_eq_true rfl, (own_rng_cons hx (own_rng_cons hy own_rng_nil))⟩⟩
    · refine WP.iconst (n := 14) (z := (1 : Int32)) dMS_13 rfl rfl ?_
      refine WP.newP (n := 16) (ce' := 1) (sl' := 1) (cap := 1) (ty := .char) dMS_14 (hw _ (List.mem_of_getElem? (i := 5) rfl)) rfl (by decide) (by decide) (by decide) rfl rfl (by decide) (by decide) rfl (fun a216 h216 k216 g216 E216 V216 S216 N216 r216 => ?_)
      have V216_ : Arv Z h216 a216 k216 .char (1 : Int32) (([0] : List Int32).map Value.int) (.int 0) := V216.pad (pad_rep [] (.int 0) 1)
      refine WP.dup (n := 17) dMS_16 rfl rfl ?_
      refine WP.iconst (n := 18) (z := (0 : Int32)) dMS_17 rfl rfl ?_
      refine WP.iloadN (n := 19) dMS_18 rfl rfl ?_
      refine WP.stC (n := 20) (i := 0) (y := x) dMS_19 V216_ (by decide) rfl (Nat.le_of_ble_eq_true rfl) (own_c16 hx) N216 S216 rfl (fun h217 W217 V217 r217 => ?_)
      have V217_ : Arv Z h217 a216 k216 .char (1 : Int32) (([x] : List Int32).map Value.int) (.int 0) := V217
      have S217 := r217.safe V216_.lt S216
      exact WP.retA dMS_20 rfl rfl rfl rfl (by decide) (by decide) ⟨a216, k216, [x], rfl, Nat.le_of_eq g216.symm, (ext_wr E216 W217 (Nat.le_of_eq g216.symm)), ⟨V217_, Nat.le_of_ble_eq_true rfl, (own_rng_cons hx own_rng_nil)⟩⟩
  · refine WP.iconst (n := 5) (z := (0 : Int32)) dMS_4 rfl rfl ?_
    refine WP.newP (n := 7) (ce' := 1) (sl' := 0) (cap := 0) (ty := .char) dMS_5 (hw _ (List.mem_of_getElem? (i := 5) rfl)) rfl (by decide) (by decide) (by decide) rfl rfl (by decide) (by decide) rfl (fun a218 h218 k218 g218 E218 V218 S218 N218 r218 => ?_)
    have V218_ : Arv Z h218 a218 k218 .char (0 : Int32) (([] : List Int32).map Value.int) (.int 0) := V218.pad (pad_rep [] (.int 0) 0)
    exact WP.retA dMS_7 rfl rfl rfl rfl (by decide) (by decide) ⟨a218, k218, [], rfl, Nat.le_of_eq g218.symm, E218, ⟨V218_, Nat.le_of_ble_eq_true rfl, own_rng_nil⟩⟩
set_option maxRecDepth 65536 in
set_option maxHeartbeats 40000000 in
theorem own_t2 (l : Launch) (Z : State) (a0 : Array Value) (hw : ∀ d ∈ tables_1, d.before a0 Z = true) (EL : List (String × Nat)) (hEL : EW Z a0 EL) (vv f0 f1 f2 : Addr) (kv : ClassId) (P : own_SF Z vv f0 f1 f2 kv) (hm : ("com/example/research_api_client/researchapiclient/lotus/LineCheck$Status", 45) ∈ EL) (hL : EWn Z a0 EL 16) (hm0 : ("com/example/research_api_client/researchapiclient/lotus/StatusOfMemberPinLaw", 42) ∈ EL) (hm1 : ("com/example/research_api_client/researchapiclient/lotus/StatusOfMemberPinLaw", 52) ∈ EL) (hm2 : ("com/example/research_api_client/researchapiclient/lotus/StatusOfMemberPinLaw", 57) ∈ EL) (hm9 : ("java/lang/String", 7) ∈ EL) (cz : Int32) (O : Sta Z Z.heap "java/lang/String" "COMPACT_STRINGS" "Z" (.int cz)) (hO : ¬ cz = 0) (i0 i1 i2 i3 x4 x5 x6 x7 x8 : Int32) (c a : Addr) (bs : List Int32) (vm0 : Vm) (h0 : Heap) (G : Str Z h0 a bs) : WP l Z EL false "com/example/research_api_client/researchapiclient/lotus/StatusOfMemberPinLaw" "law" code maxLocals ret room_1 (fun v h' => v = some (.int 1)) vm0 h0 4 30 164 #[.val (.int i0), .val (.int i1), .val (.int i2), .val (.int i3), .val (.int x4), .val (.int x5), .val (.int x6), .val (.int x7), .val (.int x8), .val (.ref c), .unset, .unset] [(.ref a)] := by
  refine WP.astore (n := 166) (Ls' := #[.val (.int i0), .val (.int i1), .val (.int i2), .val (.int i3), .val (.int x4), .val (.int x5), .val (.int x6), .val (.int x7), .val (.int x8), .val (.ref c), .val (.ref a), .unset]) at_164 rfl rfl rfl ?_
  refine WP.aload (n := 168) at_166 rfl rfl rfl ?_
  refine WP.callS (n := 171) (ce' := 23) (sl' := 290) (Wd := 0) (argsL := [(.ref a)]) (rest := []) (own_om l Z a0 hw EL hEL h0 vv f0 f1 f2 kv P a bs G hm hL cz O hO) at_168 (hw _ (List.mem_of_getElem? (i := 35) rfl)) (hw _ (List.mem_of_getElem? (i := 36) rfl)) (hw _ (List.mem_of_getElem? (i := 37) rfl)) (hw _ (List.mem_of_getElem? (i := 38) rfl)) (by decide) (fun _ q => nomatch q) (by decide) (by decide) rfl rfl (by decide) (by decide) rfl rfl (lenOf own_pd21 rfl) rfl (Nat.le_of_eq rfl) rfl (fun v219 vm219 h219 q219 r219 => ?_)
  obtain ⟨rfl, E219⟩ := q219
  refine WP.astore (n := 173) (Ls' := #[.val (.int i0), .val (.int i1), .val (.int i2), .val (.int i3), .val (.int x4), .val (.int x5), .val (.int x6), .val (.int x7), .val (.int x8), .val (.ref c), .val (.ref a), .val (own_pick bs f0 f1 f2)]) at_171 (own_pickR bs f0 f1 f2) (by rcases ref_cases (own_pickR bs f0 f1 f2) with e | ⟨_, e⟩ <;> rw [e] <;> rfl) rfl ?_
  refine WP.aload (n := 175) at_173 rfl (own_pickR bs f0 f1 f2) rfl ?_
  refine WP.aload (n := 177) at_175 rfl rfl rfl ?_
  refine WP.callS (n := 180) (ce' := 29) (sl' := 430) (Wd := 1) (argsL := [(.ref a)]) (rest := [(own_pick bs f0 f1 f2)]) (own_ex l Z a0 hw EL hEL h219 vv f0 f1 f2 kv P a bs (G.ext E219) hm0 hm1 hm2 cz O hO) at_177 (hw _ (List.mem_of_getElem? (i := 182) rfl)) (hw _ (List.mem_of_getElem? (i := 183) rfl)) (hw _ (List.mem_of_getElem? (i := 3) rfl)) (hw _ (List.mem_of_getElem? (i := 184) rfl)) (by decide) (fun _ q => nomatch q) (by decide) (by decide) rfl rfl (by decide) (by decide) rfl rfl (lenOf own_pd21 rfl) rfl (Nat.le_of_eq (by (rcases ref_cases (own_pickR bs f0 f1 f2) with e | ⟨_, e⟩ <;> rw [e]) <;> rfl)) rfl (fun v220 vm220 h220 q220 r220 => ?_)
  obtain ⟨rfl, E220⟩ := q220
  refine WP.acmpN (n' := 183) at_180 (own_pickR ..) (own_pickR ..) (own_ne_f rfl) rfl ?_
  refine WP.iconst (n := 184) (z := (1 : Int32)) at_183 rfl rfl ?_
  refine WP.goto (n := 188) at_184 (by decide) (by decide) ?_
  exact WP.retN at_188 rfl (Or.inl rfl) (by decide : nar .boolean 1 = 1) (by decide) (by decide) rfl
set_option maxRecDepth 65536 in
set_option maxHeartbeats 40000000 in
theorem own_t1 (l : Launch) (Z : State) (a0 : Array Value) (hw : ∀ d ∈ tables_1, d.before a0 Z = true) (EL : List (String × Nat)) (hEL : EW Z a0 EL) (vv f0 f1 f2 : Addr) (kv : ClassId) (P : own_SF Z vv f0 f1 f2 kv) (hm : ("com/example/research_api_client/researchapiclient/lotus/LineCheck$Status", 45) ∈ EL) (hL : EWn Z a0 EL 16) (hm0 : ("com/example/research_api_client/researchapiclient/lotus/StatusOfMemberPinLaw", 42) ∈ EL) (hm1 : ("com/example/research_api_client/researchapiclient/lotus/StatusOfMemberPinLaw", 52) ∈ EL) (hm2 : ("com/example/research_api_client/researchapiclient/lotus/StatusOfMemberPinLaw", 57) ∈ EL) (hm9 : ("java/lang/String", 7) ∈ EL) (cz : Int32) (O : Sta Z Z.heap "java/lang/String" "COMPACT_STRINGS" "Z" (.int cz)) (hO : ¬ cz = 0) (i0 i1 i2 i3 x4 x5 x6 x7 x8 : Int32) (c : Addr) (kc : ClassId) (cs : List Int32) (vm0 : Vm) (h0 : Heap) (G : own_CA Z h0 c kc cs) : WP l Z EL false "com/example/research_api_client/researchapiclient/lotus/StatusOfMemberPinLaw" "law" code maxLocals ret room_1 (fun v h' => v = some (.int 1)) vm0 h0 1 13 155 #[.val (.int i0), .val (.int i1), .val (.int i2), .val (.int i3), .val (.int x4), .val (.int x5), .val (.int x6), .val (.int x7), .val (.int x8), .val (.ref c), .unset, .unset] [] := by
  refine WP.new (n := 158) (ce' := 2) (sl' := 17) at_155 (hw _ (List.mem_of_getElem? (i := 6) rfl)) (hw _ (List.mem_of_getElem? (i := 7) rfl)) (hw _ (List.mem_of_getElem? (i := 8) rfl)) rfl rfl (by decide) (by decide) rfl (fun a221 h221 g221 E221 A221 D221 S221 N221 r221 => ?_)
  refine WP.dup (n := 159) at_158 rfl rfl ?_
  refine WP.aload (n := 161) at_159 rfl rfl rfl ?_
  have XV := D221 (Or.inr (hw _ (List.mem_of_getElem? (i := 34) rfl))) (ty := .array .byte) (by decide)
  have XC := D221 (Or.inr (hw _ (List.mem_of_getElem? (i := 32) rfl))) (ty := .byte) (by decide)
  obtain ⟨V, hl, hr⟩ := G.ext E221
  by_cases hn : cs = []
  · subst hn
    refine WP.callP (n := 164) (ce' := 4) (sl' := 21) (Wd := 1) (a := a221) (argsL := [(.ref c)]) (rest := [(.ref a221)]) (own_si1 l Z a0 hw EL hEL h221 a221 c _ _ N221 A221 XV XC kc (.int 0) V hm9) at_161 rfl (hw _ (List.mem_of_getElem? (i := 9) rfl)) (hw _ (List.mem_of_getElem? (i := 10) rfl)) (hw _ (List.mem_of_getElem? (i := 8) rfl)) (hw _ (List.mem_of_getElem? (i := 11) rfl)) (by decide) (fun y q => by cases List.mem_singleton.mp q; exact ⟨S221, A221.lt⟩) (by decide) (by decide) rfl rfl (by decide) (by decide) rfl rfl (lenOf own_pd22 rfl) rfl (Nat.le_of_eq rfl) rfl (fun v222 vm222 h222 q222 r222 => ?_)
    obtain ⟨rfl, K222, F222⟩ := q222
    exact WP.more (by decide) (by decide) (own_t2 l Z a0 hw EL hEL vv f0 f1 f2 kv P hm hL hm0 hm1 hm2 hm9 cz O hO i0 i1 i2 i3 x4 x5 x6 x7 x8 c a221 [] _ _ F222)
  · have hp : 0 < cs.length := List.length_pos_iff.mpr hn
    have hws : ∀ d ∈ StrChars.Road.words, d.before a0 Z = true := fun d hd => hw d ((by decide +kernel : ∀ d ∈ StrChars.Road.words, d ∈ tables_1) d hd)
    refine WP.inv fun hZ223 hE223 hC223 => ?_
    refine WP.backP (n := 164) (ce' := 3) (sl' := 17 + cs.length) (Wd := 1) (a := a221) (argsL := [.ref c]) (rest := [.ref a221]) (Qy := StrChars.Road.QV Z a221 (Int32.ofNat cs.length) (cs.map (fun c => c.toInt8.toInt32)) h221 Z.heap.size)
      (fun p e below s args hz => StrChars.Road.backV (W := 1) hz hws (kI := 4) (hw _ (List.mem_of_getElem? (i := 7) rfl)) (cs := cs) (n := cs.length) (n0 := Z.heap.size) N221 hE223.1 A221 XV XC V (O.ext hE223) hO rfl rfl hp (by omega) hr rfl (by decide) (by decide))
      (fun v h' L hq => ⟨hq.2.1, ext_keep1 hE223 hq.2.2.1 N221, CHr.keep hq.2.2.1 (fun z hz => by cases List.mem_singleton.mp hz; exact S221) hC223⟩)
      at_161 rfl (hw _ (List.mem_of_getElem? (i := 9) rfl)) (hw _ (List.mem_of_getElem? (i := 10) rfl)) (hw _ (List.mem_of_getElem? (i := 11) rfl)) (by decide) rfl rfl (by decide) (by show _ ≤ 5504; omega) rfl rfl (lenOf own_pd22 rfl) rfl (Nat.le_of_eq rfl) rfl (fun v223 h223 L223 q223 r223 => ?_)
    obtain ⟨rfl, -, K223, QA223, QC223, t223, kb223, -, -, -, QV223, QB223⟩ := q223
    exact WP.more (by decide) (by omega) (own_t2 l Z a0 hw EL hEL vv f0 f1 f2 kv P hm hL hm0 hm1 hm2 hm9 cz O hO i0 i1 i2 i3 x4 x5 x6 x7 x8 c a221 _ _ _ ⟨QA223, QC223, t223, kb223, Int32.ofNat cs.length, QV223, QB223, by rw [own_clamp (by omega), List.length_map]⟩)
set_option maxRecDepth 65536 in
set_option maxHeartbeats 40000000 in
theorem own_law (l : Launch) (Z : State) (a0 : Array Value) (hw : ∀ d ∈ tables_1, d.before a0 Z = true) (EL : List (String × Nat)) (hEL : EW Z a0 EL) (h0 : Heap) (i0 i1 i2 i3 : Int32) (vv f0 f1 f2 : Addr) (kv : ClassId) (P : own_SF Z vv f0 f1 f2 kv) (hm : ("com/example/research_api_client/researchapiclient/lotus/LineCheck$Status", 45) ∈ EL) (hL : EWn Z a0 EL 16) (hm0 : ("com/example/research_api_client/researchapiclient/lotus/StatusOfMemberPinLaw", 42) ∈ EL) (hm1 : ("com/example/research_api_client/researchapiclient/lotus/StatusOfMemberPinLaw", 52) ∈ EL) (hm2 : ("com/example/research_api_client/researchapiclient/lotus/StatusOfMemberPinLaw", 57) ∈ EL) (hm9 : ("java/lang/String", 7) ∈ EL) (cz : Int32) (O : Sta Z Z.heap "java/lang/String" "COMPACT_STRINGS" "Z" (.int cz)) (hO : ¬ cz = 0) :
    Con l Z EL false [] x code maxLocals ret room_1 #[(.int i0), (.int i1), (.int i2), (.int i3)] h0 (fun v h' => v = some (.int 1)) := by
  refine Con.of (Ls := #[.val (.int i0), .val (.int i1), .val (.int i2), .val (.int i3), .unset, .unset, .unset, .unset, .unset, .unset, .unset, .unset]) (plainFor_of_name own_pn6) hEL (fun m => by first | (simp [entryFrame, mkF, argsToLocals, Value.category, maxLocals]; done) | rfl) ?_
  intro vm0 hZ0 hE0 hC0 hS0
  show WP l Z EL false "com/example/research_api_client/researchapiclient/lotus/StatusOfMemberPinLaw" "law" code maxLocals ret room_1 _ vm0 h0 0 0 0 _ _
  refine WP.iloadN (n := 1) at_0 rfl rfl ?_
  refine WP.ldcI (n := 3) (v := (2147483647 : Int32)) at_1 (hw _ (List.mem_of_getElem? (i := 0) rfl)) rfl ?_
  refine WP.iand (n := 4) at_3  rfl ?_
  refine WP.iconst (n := 5) (z := (3 : Int32)) at_4 rfl rfl ?_
  refine WP.irem (n := 6) at_5 (by decide) rfl ?_
  refine WP.istore (n := 8) (Ls' := #[.val (.int i0), .val (.int i1), .val (.int i2), .val (.int i3), .val (.int ((i0 &&& (2147483647 : Int32)) % (3 : Int32))), .unset, .unset, .unset, .unset, .unset, .unset, .unset]) at_6 rfl rfl ?_
  refine WP.iloadN (n := 9) at_8 rfl rfl ?_
  refine WP.ldcI (n := 11) (v := (2147483647 : Int32)) at_9 (hw _ (List.mem_of_getElem? (i := 0) rfl)) rfl ?_
  refine WP.iand (n := 12) at_11  rfl ?_
  refine WP.bipush (n := 14) (z := (6 : Int32)) at_12 (by decide) rfl ?_
  refine WP.irem (n := 15) at_14 (by decide) rfl ?_
  refine WP.istore (n := 17) (Ls' := #[.val (.int i0), .val (.int i1), .val (.int i2), .val (.int i3), .val (.int ((i0 &&& (2147483647 : Int32)) % (3 : Int32))), .val (.int ((i1 &&& (2147483647 : Int32)) % (6 : Int32))), .unset, .unset, .unset, .unset, .unset, .unset]) at_15 rfl rfl ?_
  refine WP.iloadN (n := 18) at_17 rfl rfl ?_
  refine WP.sipush (n := 21) (z := (255 : Int32)) at_18 (by decide) rfl ?_
  refine WP.iand (n := 22) at_21  rfl ?_
  refine WP.i2c (n := 23) (z := (i3 &&& (255 : Int32))) at_22 (own_c16 (own_c8r i3)) rfl ?_
  refine WP.istore (n := 25) (Ls' := #[.val (.int i0), .val (.int i1), .val (.int i2), .val (.int i3), .val (.int ((i0 &&& (2147483647 : Int32)) % (3 : Int32))), .val (.int ((i1 &&& (2147483647 : Int32)) % (6 : Int32))), .val (.int (i3 &&& (255 : Int32))), .unset, .unset, .unset, .unset, .unset]) at_23 rfl rfl ?_
  refine WP.iloadN (n := 26) at_25 rfl rfl ?_
  refine WP.bipush (n := 28) (z := (8 : Int32)) at_26 (by decide) rfl ?_
  refine WP.iushr (n := 29) at_28  rfl ?_
  refine WP.sipush (n := 32) (z := (255 : Int32)) at_29 (by decide) rfl ?_
  refine WP.iand (n := 33) at_32  rfl ?_
  refine WP.i2c (n := 34) (z := ((XT.ushr i3 (8 : Int32)) &&& (255 : Int32))) at_33 (own_c16 (own_c8r _)) rfl ?_
  refine WP.istore (n := 36) (Ls' := #[.val (.int i0), .val (.int i1), .val (.int i2), .val (.int i3), .val (.int ((i0 &&& (2147483647 : Int32)) % (3 : Int32))), .val (.int ((i1 &&& (2147483647 : Int32)) % (6 : Int32))), .val (.int (i3 &&& (255 : Int32))), .val (.int ((XT.ushr i3 (8 : Int32)) &&& (255 : Int32))), .unset, .unset, .unset, .unset]) at_34 rfl rfl ?_
  refine WP.iloadN (n := 37) at_36 rfl rfl ?_
  refine WP.bipush (n := 39) (z := (16 : Int32)) at_37 (by decide) rfl ?_
  refine WP.iushr (n := 40) at_39  rfl ?_
  refine WP.sipush (n := 43) (z := (255 : Int32)) at_40 (by decide) rfl ?_
  refine WP.iand (n := 44) at_43  rfl ?_
  refine WP.i2c (n := 45) (z := ((XT.ushr i3 (16 : Int32)) &&& (255 : Int32))) at_44 (own_c16 (own_c8r _)) rfl ?_
  refine WP.istore (n := 47) (Ls' := #[.val (.int i0), .val (.int i1), .val (.int i2), .val (.int i3), .val (.int ((i0 &&& (2147483647 : Int32)) % (3 : Int32))), .val (.int ((i1 &&& (2147483647 : Int32)) % (6 : Int32))), .val (.int (i3 &&& (255 : Int32))), .val (.int ((XT.ushr i3 (8 : Int32)) &&& (255 : Int32))), .val (.int ((XT.ushr i3 (16 : Int32)) &&& (255 : Int32))), .unset, .unset, .unset]) at_45 rfl rfl ?_
  refine WP.iload (n := 49) at_47 rfl rfl ?_
  refine WP.if_ne (n := 62) (n' := 52) at_49 (by decide) (by decide) rfl (fun b224 => ?_) (fun b224 => ?_)
  · refine WP.iload (n := 64) at_62 rfl rfl ?_
    refine WP.iconst (n := 65) (z := (1 : Int32)) at_64 rfl rfl ?_
    refine WP.icmp_ne (n := 91) (n' := 68) at_65 (by decide) (by decide) rfl (fun b225 => ?_) (fun b225 => ?_)
    · refine WP.iload (n := 93) at_91 rfl rfl ?_
      refine WP.iconst (n := 94) (z := (2 : Int32)) at_93 rfl rfl ?_
      refine WP.icmp_ne (n := 107) (n' := 97) at_94 (by decide) (by decide) rfl (fun b226 => ?_) (fun b226 => ?_)
      · refine WP.iload (n := 109) at_107 rfl rfl ?_
        refine WP.iconst (n := 110) (z := (3 : Int32)) at_109 rfl rfl ?_
        refine WP.icmp_ne (n := 125) (n' := 113) at_110 (by decide) (by decide) rfl (fun b227 => ?_) (fun b227 => ?_)
        · refine WP.iload (n := 127) at_125 rfl rfl ?_
          refine WP.iconst (n := 128) (z := (4 : Int32)) at_127 rfl rfl ?_
          refine WP.icmp_ne (n := 141) (n' := 131) at_128 (by decide) (by decide) rfl (fun b228 => ?_) (fun b228 => ?_)
          · refine WP.iloadN (n := 142) at_141 rfl rfl ?_
            refine WP.iconst (n := 143) (z := (3 : Int32)) at_142 rfl rfl ?_
            refine WP.iand (n := 144) at_143  rfl ?_
            refine WP.iload (n := 146) at_144 rfl rfl ?_
            refine WP.iload (n := 148) at_146 rfl rfl ?_
            refine WP.iload (n := 150) at_148 rfl rfl ?_
            refine WP.callS (n := 153) (ce' := 1) (sl' := 13) (Wd := 0) (argsL := [(.int (i2 &&& (3 : Int32))), (.int (i3 &&& (255 : Int32))), (.int ((XT.ushr i3 (8 : Int32)) &&& (255 : Int32))), (.int ((XT.ushr i3 (16 : Int32)) &&& (255 : Int32)))]) (rest := []) (own_ms l Z a0 hw EL hEL h0 (i2 &&& (3 : Int32)) (i3 &&& (255 : Int32)) (own_c8r _) ((XT.ushr i3 (8 : Int32)) &&& (255 : Int32)) (own_c8r _) ((XT.ushr i3 (16 : Int32)) &&& (255 : Int32)) (own_c8r _)) at_150 (hw _ (List.mem_of_getElem? (i := 198) rfl)) (hw _ (List.mem_of_getElem? (i := 199) rfl)) (hw _ (List.mem_of_getElem? (i := 3) rfl)) (hw _ (List.mem_of_getElem? (i := 200) rfl)) (by decide) (fun _ q => nomatch q) (by decide) (by decide) rfl rfl (by decide) (by decide) rfl rfl (lenOf own_pd23 rfl) rfl (Nat.le_of_eq rfl) rfl (fun v229 vm229 h229 q229 r229 => ?_)
            obtain ⟨c229, kc229, cs229, rfl, nn229, E229, F229⟩ := q229
            refine WP.astore (n := 155) (Ls' := #[.val (.int i0), .val (.int i1), .val (.int i2), .val (.int i3), .val (.int ((i0 &&& (2147483647 : Int32)) % (3 : Int32))), .val (.int ((i1 &&& (2147483647 : Int32)) % (6 : Int32))), .val (.int (i3 &&& (255 : Int32))), .val (.int ((XT.ushr i3 (8 : Int32)) &&& (255 : Int32))), .val (.int ((XT.ushr i3 (16 : Int32)) &&& (255 : Int32))), .val (.ref c229), .unset, .unset]) at_153 rfl rfl rfl ?_
            exact own_t1 l Z a0 hw EL hEL vv f0 f1 f2 kv P hm hL hm0 hm1 hm2 hm9 cz O hO i0 i1 i2 i3 _ _ _ _ _ c229 _ _ _ _ F229
          · refine WP.iload (n := 133) at_131 rfl rfl ?_
            refine WP.callS (n := 136) (ce' := 1) (sl' := 13) (Wd := 0) (argsL := [(.int ((i0 &&& (2147483647 : Int32)) % (3 : Int32)))]) (rest := []) (own_mb l Z a0 hw EL hEL h0 ((i0 &&& (2147483647 : Int32)) % (3 : Int32))) at_133 (hw _ (List.mem_of_getElem? (i := 192) rfl)) (hw _ (List.mem_of_getElem? (i := 193) rfl)) (hw _ (List.mem_of_getElem? (i := 3) rfl)) (hw _ (List.mem_of_getElem? (i := 194) rfl)) (by decide) (fun _ q => nomatch q) (by decide) (by decide) rfl rfl (by decide) (by decide) rfl rfl (lenOf own_pd24 rfl) rfl (Nat.le_of_eq rfl) rfl (fun v230 vm230 h230 q230 r230 => ?_)
            obtain ⟨c230, kc230, cs230, rfl, nn230, E230, F230⟩ := q230
            refine WP.astore (n := 138) (Ls' := #[.val (.int i0), .val (.int i1), .val (.int i2), .val (.int i3), .val (.int ((i0 &&& (2147483647 : Int32)) % (3 : Int32))), .val (.int ((i1 &&& (2147483647 : Int32)) % (6 : Int32))), .val (.int (i3 &&& (255 : Int32))), .val (.int ((XT.ushr i3 (8 : Int32)) &&& (255 : Int32))), .val (.int ((XT.ushr i3 (16 : Int32)) &&& (255 : Int32))), .val (.ref c230), .unset, .unset]) at_136 rfl rfl rfl ?_
            refine WP.goto (n := 155) at_138 (by decide) (by decide) ?_
            exact own_t1 l Z a0 hw EL hEL vv f0 f1 f2 kv P hm hL hm0 hm1 hm2 hm9 cz O hO i0 i1 i2 i3 _ _ _ _ _ c230 _ _ _ _ F230
        · refine WP.iload (n := 115) at_113 rfl rfl ?_
          refine WP.iload (n := 117) at_115 rfl rfl ?_
          refine WP.callS (n := 120) (ce' := 1) (sl' := 13) (Wd := 0) (argsL := [(.int ((i0 &&& (2147483647 : Int32)) % (3 : Int32))), (.int (i3 &&& (255 : Int32)))]) (rest := []) (own_ma l Z a0 hw EL hEL h0 ((i0 &&& (2147483647 : Int32)) % (3 : Int32)) (i3 &&& (255 : Int32)) (own_c8r _)) at_117 (hw _ (List.mem_of_getElem? (i := 1) rfl)) (hw _ (List.mem_of_getElem? (i := 2) rfl)) (hw _ (List.mem_of_getElem? (i := 3) rfl)) (hw _ (List.mem_of_getElem? (i := 4) rfl)) (by decide) (fun _ q => nomatch q) (by decide) (by decide) rfl rfl (by decide) (by decide) rfl rfl (lenOf own_pd25 rfl) rfl (Nat.le_of_eq rfl) rfl (fun v231 vm231 h231 q231 r231 => ?_)
          obtain ⟨c231, kc231, cs231, rfl, nn231, E231, F231⟩ := q231
          refine WP.astore (n := 122) (Ls' := #[.val (.int i0), .val (.int i1), .val (.int i2), .val (.int i3), .val (.int ((i0 &&& (2147483647 : Int32)) % (3 : Int32))), .val (.int ((i1 &&& (2147483647 : Int32)) % (6 : Int32))), .val (.int (i3 &&& (255 : Int32))), .val (.int ((XT.ushr i3 (8 : Int32)) &&& (255 : Int32))), .val (.int ((XT.ushr i3 (16 : Int32)) &&& (255 : Int32))), .val (.ref c231), .unset, .unset]) at_120 rfl rfl rfl ?_
          refine WP.goto (n := 155) at_122 (by decide) (by decide) ?_
          exact own_t1 l Z a0 hw EL hEL vv f0 f1 f2 kv P hm hL hm0 hm1 hm2 hm9 cz O hO i0 i1 i2 i3 _ _ _ _ _ c231 _ _ _ _ F231
      · refine WP.iload (n := 99) at_97 rfl rfl ?_
        refine WP.callS (n := 102) (ce' := 1) (sl' := 13) (Wd := 0) (argsL := [(.int ((i0 &&& (2147483647 : Int32)) % (3 : Int32)))]) (rest := []) (own_md l Z a0 hw EL hEL h0 ((i0 &&& (2147483647 : Int32)) % (3 : Int32))) at_99 (hw _ (List.mem_of_getElem? (i := 195) rfl)) (hw _ (List.mem_of_getElem? (i := 196) rfl)) (hw _ (List.mem_of_getElem? (i := 3) rfl)) (hw _ (List.mem_of_getElem? (i := 197) rfl)) (by decide) (fun _ q => nomatch q) (by decide) (by decide) rfl rfl (by decide) (by decide) rfl rfl (lenOf own_pd24 rfl) rfl (Nat.le_of_eq rfl) rfl (fun v232 vm232 h232 q232 r232 => ?_)
        obtain ⟨c232, kc232, cs232, rfl, nn232, E232, F232⟩ := q232
        refine WP.astore (n := 104) (Ls' := #[.val (.int i0), .val (.int i1), .val (.int i2), .val (.int i3), .val (.int ((i0 &&& (2147483647 : Int32)) % (3 : Int32))), .val (.int ((i1 &&& (2147483647 : Int32)) % (6 : Int32))), .val (.int (i3 &&& (255 : Int32))), .val (.int ((XT.ushr i3 (8 : Int32)) &&& (255 : Int32))), .val (.int ((XT.ushr i3 (16 : Int32)) &&& (255 : Int32))), .val (.ref c232), .unset, .unset]) at_102 rfl rfl rfl ?_
        refine WP.goto (n := 155) at_104 (by decide) (by decide) ?_
        exact own_t1 l Z a0 hw EL hEL vv f0 f1 f2 kv P hm hL hm0 hm1 hm2 hm9 cz O hO i0 i1 i2 i3 _ _ _ _ _ c232 _ _ _ _ F232
    · refine WP.iload (n := 70) at_68 rfl rfl ?_
      refine WP.callS (n := 73) (ce' := 1) (sl' := 13) (Wd := 0) (argsL := [(.int ((i0 &&& (2147483647 : Int32)) % (3 : Int32)))]) (rest := []) (own_mf l Z a0 hw EL hEL h0 ((i0 &&& (2147483647 : Int32)) % (3 : Int32))) at_70 (hw _ (List.mem_of_getElem? (i := 189) rfl)) (hw _ (List.mem_of_getElem? (i := 190) rfl)) (hw _ (List.mem_of_getElem? (i := 3) rfl)) (hw _ (List.mem_of_getElem? (i := 191) rfl)) (by decide) (fun _ q => nomatch q) (by decide) (by decide) rfl rfl (by decide) (by decide) rfl rfl (lenOf own_pd24 rfl) rfl (Nat.le_of_eq rfl) rfl (fun v233 vm233 h233 q233 r233 => ?_)
      obtain ⟨c233, kc233, cs233, rfl, nn233, E233, F233, l233⟩ := q233
      refine WP.astore (n := 75) (Ls' := #[.val (.int i0), .val (.int i1), .val (.int i2), .val (.int i3), .val (.int ((i0 &&& (2147483647 : Int32)) % (3 : Int32))), .val (.int ((i1 &&& (2147483647 : Int32)) % (6 : Int32))), .val (.int (i3 &&& (255 : Int32))), .val (.int ((XT.ushr i3 (8 : Int32)) &&& (255 : Int32))), .val (.int ((XT.ushr i3 (16 : Int32)) &&& (255 : Int32))), .val (.ref c233), .unset, .unset]) at_73 rfl rfl rfl ?_
      refine WP.aload (n := 77) at_75 rfl rfl rfl ?_
      refine WP.iloadN (n := 78) at_77 rfl rfl ?_
      refine WP.ldcI (n := 80) (v := (2147483647 : Int32)) at_78 (hw _ (List.mem_of_getElem? (i := 0) rfl)) rfl ?_
      refine WP.iand (n := 81) at_80  rfl ?_
      refine WP.aload (n := 83) at_81 rfl rfl rfl ?_
      obtain ⟨V233, hl233, hr233⟩ := F233
      refine WP.alen (n := 84) at_83 V233 rfl ?_
      refine WP.irem (n := 85) at_84 (own_nz l233 hl233) rfl ?_
      refine WP.iload (n := 87) at_85 rfl rfl ?_
      have hj := own_idx i2 l233 hl233
      refine WP.inv fun hZ234 hE234 hC234 => ?_
      refine WP.stC (n := 88) (i := Int32.toNatClampNeg ((i2 &&& (2147483647 : Int32)) % (Int32.ofNat cs233.length))) (y := (i3 &&& (255 : Int32))) at_87 V233 hj rfl (by rw [List.length_map]; exact own_idxN hl233 hj) (own_c16 (own_c8r i3)) (Nat.le_trans hE0.1 nn233) (Safe.arv hZ234.alike V233 (by decide)) rfl (fun h234 W234 V234 r234 => ?_)
      refine WP.goto (n := 155) at_88 (by decide) (by decide) ?_
      exact own_t1 l Z a0 hw EL hEL vv f0 f1 f2 kv P hm hL hm0 hm1 hm2 hm9 cz O hO i0 i1 i2 i3 _ _ _ _ _ c233 _ _ _ _ (own_CA.set hl233 hr233 (own_c8r i3) V234)
  · refine WP.iload (n := 54) at_52 rfl rfl ?_
    refine WP.callS (n := 57) (ce' := 1) (sl' := 13) (Wd := 0) (argsL := [(.int ((i0 &&& (2147483647 : Int32)) % (3 : Int32)))]) (rest := []) (own_mf l Z a0 hw EL hEL h0 ((i0 &&& (2147483647 : Int32)) % (3 : Int32))) at_54 (hw _ (List.mem_of_getElem? (i := 189) rfl)) (hw _ (List.mem_of_getElem? (i := 190) rfl)) (hw _ (List.mem_of_getElem? (i := 3) rfl)) (hw _ (List.mem_of_getElem? (i := 191) rfl)) (by decide) (fun _ q => nomatch q) (by decide) (by decide) rfl rfl (by decide) (by decide) rfl rfl (lenOf own_pd24 rfl) rfl (Nat.le_of_eq rfl) rfl (fun v235 vm235 h235 q235 r235 => ?_)
    obtain ⟨c235, kc235, cs235, rfl, nn235, E235, F235, l235⟩ := q235
    refine WP.astore (n := 59) (Ls' := #[.val (.int i0), .val (.int i1), .val (.int i2), .val (.int i3), .val (.int ((i0 &&& (2147483647 : Int32)) % (3 : Int32))), .val (.int ((i1 &&& (2147483647 : Int32)) % (6 : Int32))), .val (.int (i3 &&& (255 : Int32))), .val (.int ((XT.ushr i3 (8 : Int32)) &&& (255 : Int32))), .val (.int ((XT.ushr i3 (16 : Int32)) &&& (255 : Int32))), .val (.ref c235), .unset, .unset]) at_57 rfl rfl rfl ?_
    refine WP.goto (n := 155) at_59 (by decide) (by decide) ?_
    exact own_t1 l Z a0 hw EL hEL vv f0 f1 f2 kv P hm hL hm0 hm1 hm2 hm9 cz O hO i0 i1 i2 i3 _ _ _ _ _ c235 _ _ _ _ F235
set_option maxRecDepth 65536 in
set_option maxHeartbeats 40000000 in
theorem comes_1 {Post : Tables → Env → Array Value → State → Outcome → State → Prop} (hpost : ∀ tb e args s v u, (limb_1_1.after args s (.returned v) u = true ∧ limb_1_2.after args s (.returned v) u = true ∧ True) → FramedW s (.returned v) u (Jvm.fieldLocs frame_1_writes args s ++ Jvm.arrayLocs frame_1_arrays args s ++ Jvm.staticLocs frame_1_statics s) 56 5504 → Post tb e args s (.returned v) u) :
    ArmFor flags0 classFile x code maxLocals ret World_1 tables_1 room_1 Calls_1 rest_1 Pre_1 Post := by
  intro l hfl _ _ p e ha hc hk s m args below hf hA hF happ hP
  obtain ⟨hcalls, hrest, hpre⟩ := hP
  obtain ⟨-, -, -, hnamed, -, -, -, hat⟩ := (Spec.applies_iff hf).mp happ
  obtain ⟨hg, hn⟩ := and_e (Cond.before_iff.mp (show (Jvm.Cond.and given_1 narrow_1).before args s = true from hpre))
  obtain ⟨h1, g0'⟩ := and_e hg
  obtain ⟨w0, w1, w2, w3, rfl⟩ : ∃ w0 w1 w2 w3 : Value, args = #[w0, w1, w2, w3] := by
    have hs : args.size = 4 := by simpa [Cond.value, given_1] using h1
    obtain ⟨L⟩ := args
    match L, hs with
    | [w0, w1, w2, w3], _ => exact ⟨w0, w1, w2, w3, rfl⟩
  have hw := fun d (hd : d ∈ tables_1) => atoms_spec (ws := Jvm.Cond.code x code maxLocals ret :: tables_1) hat d (List.mem_cons_of_mem _ hd)
  obtain ⟨g0, g1'⟩ := and_e g0'
  obtain ⟨i0, e0⟩ := is_v g0
  obtain rfl : w0 = (.int i0) := Option.some.inj e0
  obtain ⟨g1, g2'⟩ := and_e g1'
  obtain ⟨i1, e1⟩ := is_v g1
  obtain rfl : w1 = (.int i1) := Option.some.inj e1
  obtain ⟨g2, g3'⟩ := and_e g2'
  obtain ⟨i2, e2⟩ := is_v g2
  obtain rfl : w2 = (.int i2) := Option.some.inj e2
  have g3 := g3'
  obtain ⟨i3, e3⟩ := is_v g3
  obtain rfl : w3 = (.int i3) := Option.some.inj e3
  obtain ⟨hsets, hown0⟩ := atoms_of _ (rest_1_c_eq ▸ (show rest_1_c.before _ s = true from hrest))
  have n3 := not_v (Cond.before_iff.mp (hsets _ (List.mem_of_getElem? (i := 2) rfl)))
  obtain ⟨i7, e7⟩ := is_v (Cond.before_iff.mp (hsets _ (List.mem_of_getElem? (i := 1) rfl)))
  have S8 : Sta s s.heap "java/lang/String" "COMPACT_STRINGS" "Z" (.int i7) := Sta.start e7 (Or.inl (hsets _ (List.mem_of_getElem? (i := 0) rfl)))
  have c13 : ¬ (i7 = (0 : Int32)) := gotF (Cond.eq_ints e7 (Term.int_eval (0))) n3
  have hEL : EW s _ consts_1 := (EW.cons (text := "pid_") (hw _ (List.mem_of_getElem? (i := 75) rfl)) (by decide) (EW.cons (text := "pid_found") (hw _ (List.mem_of_getElem? (i := 185) rfl)) (by decide) (EW.cons (text := "pid_notFound") (hw _ (List.mem_of_getElem? (i := 187) rfl)) (by decide) (EW.cons (text := "pid_invalid") (hw _ (List.mem_of_getElem? (i := 188) rfl)) (by decide) (EW.cons (text := "") (hw _ (List.mem_of_getElem? (i := 203) rfl)) (by decide) EW.nil)))))
  have hCH : CHv s consts_1 s.vm s.heap := CHv.start hEL (fun p hp => hcalls.1 p hp) (hsets _ (List.mem_of_getElem? (i := 2) rfl)) (hw _ (List.mem_of_getElem? (i := 24) rfl)) (hw _ (List.mem_of_getElem? (i := 7) rfl))
  have hLL : EWn s _ consts_1 16 := (EWn.cons (text := "pid_") (hw _ (List.mem_of_getElem? (i := 75) rfl)) (by decide) (by decide) (EWn.cons (text := "pid_found") (hw _ (List.mem_of_getElem? (i := 185) rfl)) (by decide) (by decide) (EWn.cons (text := "pid_notFound") (hw _ (List.mem_of_getElem? (i := 187) rfl)) (by decide) (by decide) (EWn.cons (text := "pid_invalid") (hw _ (List.mem_of_getElem? (i := 188) rfl)) (by decide) (by decide) (EWn.cons (text := "") (hw _ (List.mem_of_getElem? (i := 203) rfl)) (by decide) (by decide) EWn.nil)))))
  have hfit : Fit s := fun {y c} hc i hi => by
    obtain ⟨ha, rfl⟩ := Array.getElem?_eq_some_iff.mp hc
    have q := List.all_eq_true.mp ((Array.all_eq_true_iff_forall_mem.mp hF) _ (Array.getElem_mem ha)) i (List.mem_range.mpr hi)
    simpa [Array.getElem?_eq_getElem hi] using q
  have N0 := hn
  obtain ⟨u0, N1⟩ := and_e N0
  obtain ⟨u1, N2⟩ := and_e N1
  obtain ⟨u2, N3⟩ := and_e N2
  obtain ⟨u3, N4⟩ := and_e N3
  obtain ⟨u4, N5⟩ := and_e N4
  obtain ⟨u5, N6⟩ := and_e N5
  obtain ⟨u6, N7⟩ := and_e N6
  obtain ⟨u7, N8⟩ := and_e N7
  obtain ⟨u8, N9⟩ := and_e N8
  obtain ⟨u9, N10⟩ := and_e N9
  obtain ⟨u10, N11⟩ := and_e N10
  obtain ⟨u11, N12⟩ := and_e N11
  obtain ⟨u12, N13⟩ := and_e N12
  obtain ⟨u13, N14⟩ := and_e N13
  obtain ⟨u14, N15⟩ := and_e N14
  obtain ⟨u15, N16⟩ := and_e N15
  obtain ⟨u16, N17⟩ := and_e N16
  obtain ⟨u17, N18⟩ := and_e N17
  obtain ⟨u18, N19⟩ := and_e N18
  obtain ⟨u19, N20⟩ := and_e N19
  obtain ⟨u20, N21⟩ := and_e N20
  obtain ⟨u21, N22⟩ := and_e N21
  obtain ⟨u22, N23⟩ := and_e N22
  obtain ⟨u23, N24⟩ := and_e N23
  obtain ⟨u24, N25⟩ := and_e N24
  obtain ⟨u25, N26⟩ := and_e N25
  obtain ⟨u26, N27⟩ := and_e N26
  obtain ⟨u27, N28⟩ := and_e N27
  obtain ⟨u28, N29⟩ := and_e N28
  obtain ⟨u29, N30⟩ := and_e N29
  obtain ⟨u30, N31⟩ := and_e N30
  obtain ⟨u31, N32⟩ := and_e N31
  obtain ⟨u32, N33⟩ := and_e N32
  obtain ⟨u33, N34⟩ := and_e N33
  obtain ⟨u34, N35⟩ := and_e N34
  obtain ⟨u35, N36⟩ := and_e N35
  obtain ⟨u36, N37⟩ := and_e N36
  obtain ⟨u37, N38⟩ := and_e N37
  obtain ⟨u38, N39⟩ := and_e N38
  obtain ⟨u39, N40⟩ := and_e N39
  obtain ⟨u40, N41⟩ := and_e N40
  obtain ⟨u41, N42⟩ := and_e N41
  obtain ⟨u42, N43⟩ := and_e N42
  have u43 := N43
  obtain ⟨vv, ev⟩ := arr_v u0
  obtain ⟨f0, ef0⟩ := exa_v u3
  obtain ⟨s0, es0⟩ := exa_v u9
  obtain ⟨b0, eb0⟩ := arr_v u10
  obtain ⟨kb0, V0⟩ := own_arr0 (vs := ([102, 111, 117, 110, 100] : List Int32).map Value.int) (dv := .int 0) hfit eb0 u10 u12 (by decide) rfl (fun c hc => ⟨(elem_in (own_eqI u24 (Term.int_eval _)) eb0 (Term.int_eval _) hc).2, (elem_in (own_eqI u25 (Term.int_eval _)) eb0 (Term.int_eval _) hc).2, (elem_in (own_eqI u26 (Term.int_eval _)) eb0 (Term.int_eval _) hc).2, (elem_in (own_eqI u27 (Term.int_eval _)) eb0 (Term.int_eval _) hc).2, (elem_in (own_eqI u28 (Term.int_eval _)) eb0 (Term.int_eval _) hc).2, trivial⟩)
  have P0 : own_S1 s "FOUND" f0 [102, 111, 117, 110, 100] := ⟨(Sta.start ef0 (Or.inr ⟨(hw _ (List.mem_of_getElem? (i := 37) rfl)), (hw _ (List.mem_of_getElem? (i := 51) rfl))⟩)), Exa.start ef0 u3, s0, Fld.start ((fld_at ef0).symm.trans es0), Exa.start es0 u9, Fld.start ((fld_at es0).symm.trans (own_eqI u13 (Term.int_eval _))), b0, kb0, 5, Fld.start ((fld_at es0).symm.trans eb0), V0, rfl⟩
  obtain ⟨f1, ef1⟩ := exa_v u5
  obtain ⟨s1, es1⟩ := exa_v u14
  obtain ⟨b1, eb1⟩ := arr_v u15
  obtain ⟨kb1, V1⟩ := own_arr0 (vs := ([110, 111, 116, 70, 111, 117, 110, 100] : List Int32).map Value.int) (dv := .int 0) hfit eb1 u15 u17 (by decide) rfl (fun c hc => ⟨(elem_in (own_eqI u29 (Term.int_eval _)) eb1 (Term.int_eval _) hc).2, (elem_in (own_eqI u30 (Term.int_eval _)) eb1 (Term.int_eval _) hc).2, (elem_in (own_eqI u31 (Term.int_eval _)) eb1 (Term.int_eval _) hc).2, (elem_in (own_eqI u32 (Term.int_eval _)) eb1 (Term.int_eval _) hc).2, (elem_in (own_eqI u33 (Term.int_eval _)) eb1 (Term.int_eval _) hc).2, (elem_in (own_eqI u34 (Term.int_eval _)) eb1 (Term.int_eval _) hc).2, (elem_in (own_eqI u35 (Term.int_eval _)) eb1 (Term.int_eval _) hc).2, (elem_in (own_eqI u36 (Term.int_eval _)) eb1 (Term.int_eval _) hc).2, trivial⟩)
  have P1 : own_S1 s "NOT_FOUND" f1 [110, 111, 116, 70, 111, 117, 110, 100] := ⟨(Sta.start ef1 (Or.inr ⟨(hw _ (List.mem_of_getElem? (i := 37) rfl)), (hw _ (List.mem_of_getElem? (i := 52) rfl))⟩)), Exa.start ef1 u5, s1, Fld.start ((fld_at ef1).symm.trans es1), Exa.start es1 u14, Fld.start ((fld_at es1).symm.trans (own_eqI u18 (Term.int_eval _))), b1, kb1, 8, Fld.start ((fld_at es1).symm.trans eb1), V1, rfl⟩
  obtain ⟨f2, ef2⟩ := exa_v u7
  obtain ⟨s2, es2⟩ := exa_v u19
  obtain ⟨b2, eb2⟩ := arr_v u20
  obtain ⟨kb2, V2⟩ := own_arr0 (vs := ([105, 110, 118, 97, 108, 105, 100] : List Int32).map Value.int) (dv := .int 0) hfit eb2 u20 u22 (by decide) rfl (fun c hc => ⟨(elem_in (own_eqI u37 (Term.int_eval _)) eb2 (Term.int_eval _) hc).2, (elem_in (own_eqI u38 (Term.int_eval _)) eb2 (Term.int_eval _) hc).2, (elem_in (own_eqI u39 (Term.int_eval _)) eb2 (Term.int_eval _) hc).2, (elem_in (own_eqI u40 (Term.int_eval _)) eb2 (Term.int_eval _) hc).2, (elem_in (own_eqI u41 (Term.int_eval _)) eb2 (Term.int_eval _) hc).2, (elem_in (own_eqI u42 (Term.int_eval _)) eb2 (Term.int_eval _) hc).2, (elem_in (own_eqI u43 (Term.int_eval _)) eb2 (Term.int_eval _) hc).2, trivial⟩)
  have P2 : own_S1 s "INVALID" f2 [105, 110, 118, 97, 108, 105, 100] := ⟨(Sta.start ef2 (Or.inr ⟨(hw _ (List.mem_of_getElem? (i := 37) rfl)), (hw _ (List.mem_of_getElem? (i := 53) rfl))⟩)), Exa.start ef2 u7, s2, Fld.start ((fld_at ef2).symm.trans es2), Exa.start es2 u19, Fld.start ((fld_at es2).symm.trans (own_eqI u23 (Term.int_eval _))), b2, kb2, 7, Fld.start ((fld_at es2).symm.trans eb2), V2, rfl⟩
  obtain ⟨kv, VV⟩ := own_arr0 (vs := [.ref f0, .ref f1, .ref f2]) (dv := .null) hfit ev u0 u2 (by decide) rfl (fun c hc => ⟨(elem_in (own_eqR u4 ef0) ev (Term.int_eval _) hc).2, (elem_in (own_eqR u6 ef1) ev (Term.int_eval _) hc).2, (elem_in (own_eqR u8 ef2) ev (Term.int_eval _) hc).2, trivial⟩)
  have PP : own_SF s vv f0 f1 f2 kv := ⟨(Sta.start ev (Or.inr ⟨(hw _ (List.mem_of_getElem? (i := 37) rfl)), (hw _ (List.mem_of_getElem? (i := 43) rfl))⟩)), Exa.start ev u1, VV, P0, P1, P2⟩
  obtain ⟨n, o, h1, h2, h3, _, L, rfl, rfl, hE, N, hCh, hNar, hq⟩ := own_law l s _ hw consts_1 hEL s.heap i0 i1 i2 i3 vv f0 f1 f2 kv PP (List.mem_of_getElem? (i := 0) rfl) hLL (List.mem_of_getElem? (i := 1) rfl) (List.mem_of_getElem? (i := 2) rfl) (List.mem_of_getElem? (i := 3) rfl) (List.mem_of_getElem? (i := 4) rfl) i7 S8 c13 tables_1 p e ha hc hk s m _ below hf ((Spec.applies_iff_loose hf).mp happ).1 ⟨rfl, State.Warmed39.refl s, rfl, ext_refl _, hCH, (fun _ q => nomatch q)⟩ trivial
  obtain ⟨q1, q2, q3, q4⟩ := hq
  refine ⟨n, _, h1, h2, h3, hpost _ _ _ _ _ _ ⟨Cond.after_iff.mpr rfl, Cond.after_iff.mpr (eq_i res_at (Term.int_eval (1)) rfl), trivial⟩ ⟨q1, q2, q3, (q4.sift fun y hy => Or.inr (N y hy)).mono (by decide) (by decide)⟩⟩
theorem main_1_1 : Claimed_1_1 := comes_1 fun _ _ _ _ _ _ h hF => ⟨h.1, hF⟩
theorem main_1_2 : Claimed_1_2 := comes_1 fun _ _ _ _ _ _ h hF => ⟨h.2.1, hF⟩
end Jvm.Pilot.@@N@@
namespace Jvm.Pilot.@@N@@
open Jvm Jvm.ClassFile Sem Op Lib Jvm.Free Jvm.Stand Jvm.Pilot.@@N@@.Jvm.D
/-! MADE BY PROGRAM (witnessworld.py) out of the Statement's table words and the real class files: 28 classes; the members and pool entries that the words name. The judged class is class 1, her method 1. -/
namespace start1
open Jvm.ClassFile
def u (s : String) : CpInfo := .utf8 (stringToUtf16 s)
/-- a pool by its gaps: so many unusable entries, then the entry; so many at the end -/
def gap : Nat → List CpInfo → List CpInfo
  | 0, r => r
  | n + 1, r => .unusable :: gap n r
def poolList (es : List (Nat × CpInfo)) (last : Nat) : List CpInfo := es.foldr (fun e r => gap e.1 (e.2 :: r)) (gap last [])
def pool (es : List (Nat × CpInfo)) (last : Nat) : Array CpInfo := ⟨poolList es last⟩
def fileOf (pool : Array CpInfo) (this : Nat) (attrs : Array Attribute := #[]) (ms : Array MethodInfo := #[]) (fl : Nat := 33) (sup : Nat := 0) (ifs : Array Nat := #[]) (fds : Array FieldInfo := #[]) : ClassFile where
  minorVersion := 0
  majorVersion := 65
  constantPool := pool
  accessFlags := fl
  thisClass := this
  superClass := sup
  interfaces := ifs
  fields := fds
  methods := ms
  attributes := attrs
def plain (name : String) (sup : Option ClassId) : Class where
  name := name
  kind := .ordinary
  loader := none
  accessFlags := 33
  super := sup
  interfaces := #[]
  cf := none
  fields := #[]
  methods := #[]
  instanceTypes := #[]
  staticTypes := #[]
  resolved := #[]
  callSites := []
  init := .initialized
  statics := none
  mirror := none

def pool0 : Array CpInfo := pool [(5, u "<init>"), (0, u "()V"), (1, .class_ 10), (1, u "java/lang/Object"), (85, u "clone"), (0, u "()Ljava/lang/Object;")] 26

def k0c0 : Code := { maxStack := 0, maxLocals := 1, code := object_method_1_code, exceptionTable := #[], attributes := #[] }
def k0m0 : Method := { name := "<init>", desc := "()V", sig := { parameters := [], returnType := none }, accessFlags := 1, code := some k0c0 }
def k0m1 : Method := { name := "clone", desc := "()Ljava/lang/Object;", sig := { parameters := [], returnType := some (.object "java/lang/Object") }, accessFlags := 260, code := none }
/-- java/lang/Object -/
def k0 : Class := { plain "java/lang/Object" none with
  accessFlags := 33
  interfaces := #[]
  cf := some (fileOf pool0 8 #[] #[{ accessFlags := 1, nameIndex := 5, descriptorIndex := 6, attributes := #[] }, { accessFlags := 260, nameIndex := 96, descriptorIndex := 97, attributes := #[] }] 33 0 #[] #[])
  fields := #[]
  methods := #[k0m0, k0m1]
  instanceTypes := #[]
  staticTypes := #[]
  resolved := Array.replicate 124 none
  statics := none }

def pool1 : Array CpInfo := pool [(2, .class_ 4), (1, u "java/lang/Object"), (0, u "<init>"), (0, u "()V"), (0, .integer 2147483647), (0, .methodref 9 10), (0, .class_ 11), (0, .nameAndType 12 13), (0, u "com/example/research_api_client/researchapiclient/lotus/StatusOfMemberPinLaw"), (0, u "full"), (0, u "(I)[C"), (0, .methodref 9 15), (0, .nameAndType 16 13), (0, u "dropLast"), (0, .methodref 9 18), (0, .nameAndType 19 20), (0, u "appended"), (0, u "(IC)[C"), (0, .methodref 9 22), (0, .nameAndType 23 13), (0, u "bare"), (0, .methodref 9 25), (0, .nameAndType 26 27), (0, u "shortDrawn"), (0, u "(ICCC)[C"), (0, .class_ 29), (0, u "java/lang/String"), (0, .methodref 28 31), (0, .nameAndType 5 32), (0, u "([C)V"), (0, .methodref 34 35), (0, .class_ 36), (0, .nameAndType 37 38), (0, u "com/example/research_api_client/researchapiclient/lotus/LineCheck$Status"), (0, u "ofMember"), (0, u "(Ljava/lang/String;)Lcom/example/research_api_client/researchapiclient/lotus/LineCheck$Status;"), (0, .methodref 9 40), (0, .nameAndType 41 38), (0, u "expected"), (0, .string 43), (0, u "pid_found"), (0, .methodref 28 45), (0, .nameAndType 46 47), (0, u "equals"), (0, u "(Ljava/lang/Object;)Z"), (0, .fieldref 34 49), (0, .nameAndType 50 51), (0, u "FOUND"), (0, u "Lcom/example/research_api_client/researchapiclient/lotus/LineCheck$Status;"), (0, .string 53), (0, u "pid_notFound"), (0, .fieldref 34 55), (0, .nameAndType 56 51), (0, u "NOT_FOUND"), (0, .string 58), (0, u "pid_invalid"), (0, .fieldref 34 60), (0, .nameAndType 61 51), (0, u "INVALID"), (2, u "law"), (0, u "(IIII)Z")] 9

def k1m0 : Method := { name := "<init>", desc := "()V", sig := { parameters := [], returnType := none }, accessFlags := 2, code := none }
def k1c1 : Code := { maxStack := 4, maxLocals := 12, code := code, exceptionTable := #[], attributes := #[] }
def k1m1 : Method := { name := "law", desc := "(IIII)Z", sig := { parameters := [.int, .int, .int, .int], returnType := some .boolean }, accessFlags := 9, code := some k1c1 }
def k1c2 : Code := { maxStack := 2, maxLocals := 1, code := method_3_code, exceptionTable := #[], attributes := #[] }
def k1m2 : Method := { name := "expected", desc := "(Ljava/lang/String;)Lcom/example/research_api_client/researchapiclient/lotus/LineCheck$Status;", sig := { parameters := [(.object "java/lang/String")], returnType := some (.object "com/example/research_api_client/researchapiclient/lotus/LineCheck$Status") }, accessFlags := 10, code := some k1c2 }
def k1c3 : Code := { maxStack := 4, maxLocals := 1, code := method_4_code, exceptionTable := #[], attributes := #[] }
def k1m3 : Method := { name := "full", desc := "(I)[C", sig := { parameters := [.int], returnType := some (.array .char) }, accessFlags := 10, code := some k1c3 }
def k1c4 : Code := { maxStack := 4, maxLocals := 1, code := method_5_code, exceptionTable := #[], attributes := #[] }
def k1m4 : Method := { name := "dropLast", desc := "(I)[C", sig := { parameters := [.int], returnType := some (.array .char) }, accessFlags := 10, code := some k1c4 }
def k1c5 : Code := { maxStack := 4, maxLocals := 2, code := method_6_code, exceptionTable := #[], attributes := #[] }
def k1m5 : Method := { name := "appended", desc := "(IC)[C", sig := { parameters := [.int, .char], returnType := some (.array .char) }, accessFlags := 10, code := some k1c5 }
def k1c6 : Code := { maxStack := 4, maxLocals := 1, code := method_7_code, exceptionTable := #[], attributes := #[] }
def k1m6 : Method := { name := "bare", desc := "(I)[C", sig := { parameters := [.int], returnType := some (.array .char) }, accessFlags := 10, code := some k1c6 }
def k1c7 : Code := { maxStack := 4, maxLocals := 4, code := method_8_code, exceptionTable := #[], attributes := #[] }
def k1m7 : Method := { name := "shortDrawn", desc := "(ICCC)[C", sig := { parameters := [.int, .char, .char, .char], returnType := some (.array .char) }, accessFlags := 10, code := some k1c7 }
/-- com/example/research_api_client/researchapiclient/lotus/StatusOfMemberPinLaw -/
def k1 : Class := { plain "com/example/research_api_client/researchapiclient/lotus/StatusOfMemberPinLaw" (some 0) with
  accessFlags := 49
  interfaces := #[]
  cf := some (fileOf pool1 9 #[] #[{ accessFlags := 2, nameIndex := 5, descriptorIndex := 6, attributes := #[] }, { accessFlags := 9, nameIndex := 64, descriptorIndex := 65, attributes := #[] }, { accessFlags := 10, nameIndex := 41, descriptorIndex := 38, attributes := #[] }, { accessFlags := 10, nameIndex := 12, descriptorIndex := 13, attributes := #[] }, { accessFlags := 10, nameIndex := 16, descriptorIndex := 13, attributes := #[] }, { accessFlags := 10, nameIndex := 19, descriptorIndex := 20, attributes := #[] }, { accessFlags := 10, nameIndex := 23, descriptorIndex := 13, attributes := #[] }, { accessFlags := 10, nameIndex := 26, descriptorIndex := 27, attributes := #[] }] 49 2 #[] #[])
  fields := #[]
  methods := #[k1m0, k1m1, k1m2, k1m3, k1m4, k1m5, k1m6, k1m7]
  instanceTypes := #[]
  staticTypes := #[]
  resolved := Array.replicate 75 none
  statics := none }

def pool2 : Array CpInfo := pool [(1, .class_ 2), (0, u "java/io/Serializable"), (0, .class_ 4), (0, u "java/lang/Object")] 2

/-- java/io/Serializable -/
def k2 : Class := { plain "java/io/Serializable" (some 0) with
  accessFlags := 1537
  interfaces := #[]
  cf := some (fileOf pool2 1 #[] #[] 1537 3 #[] #[])
  fields := #[]
  methods := #[]
  instanceTypes := #[]
  staticTypes := #[]
  resolved := Array.replicate 7 none
  statics := none }

def pool3 : Array CpInfo := pool [(1, .class_ 2), (0, u "java/lang/Comparable"), (0, .class_ 4), (0, u "java/lang/Object")] 7

/-- java/lang/Comparable -/
def k3 : Class := { plain "java/lang/Comparable" (some 0) with
  accessFlags := 1537
  interfaces := #[]
  cf := some (fileOf pool3 1 #[] #[] 1537 3 #[] #[])
  fields := #[]
  methods := #[]
  instanceTypes := #[]
  staticTypes := #[]
  resolved := Array.replicate 12 none
  statics := none }

def pool4 : Array CpInfo := pool [(2, .class_ 4), (1, u "java/lang/CharSequence"), (42, .class_ 48), (0, u "java/lang/CharSequence$1CodePointIterator"), (10, .class_ 60), (0, u "java/lang/CharSequence$1CharIterator"), (5, .class_ 67), (0, u "java/lang/Object")] 63

/-- java/lang/CharSequence -/
def k4 : Class := { plain "java/lang/CharSequence" (some 0) with
  accessFlags := 1537
  interfaces := #[]
  cf := some (fileOf pool4 2 #[.nestMembers #[47, 59]] #[] 1537 66 #[] #[])
  fields := #[]
  methods := #[]
  instanceTypes := #[]
  staticTypes := #[]
  resolved := Array.replicate 131 none
  statics := none }

def pool5 : Array CpInfo := pool [(1, .class_ 2), (0, u "java/lang/constant/Constable"), (0, .class_ 4), (0, u "java/lang/Object")] 6

/-- java/lang/constant/Constable -/
def k5 : Class := { plain "java/lang/constant/Constable" (some 0) with
  accessFlags := 1537
  interfaces := #[]
  cf := some (fileOf pool5 1 #[] #[] 1537 3 #[] #[])
  fields := #[]
  methods := #[]
  instanceTypes := #[]
  staticTypes := #[]
  resolved := Array.replicate 11 none
  statics := none }

def pool6 : Array CpInfo := pool [(1, .class_ 2), (0, u "java/lang/constant/ConstantDesc"), (0, .class_ 4), (0, u "java/lang/Object")] 32

/-- java/lang/constant/ConstantDesc -/
def k6 : Class := { plain "java/lang/constant/ConstantDesc" (some 0) with
  accessFlags := 1537
  interfaces := #[]
  cf := some (fileOf pool6 1 #[] #[] 1537 3 #[] #[])
  fields := #[]
  methods := #[]
  instanceTypes := #[]
  staticTypes := #[]
  resolved := Array.replicate 37 none
  statics := none }

def pool7 : Array CpInfo := pool [(1, .methodref 2 3), (0, .class_ 4), (0, .nameAndType 5 6), (0, u "java/lang/Object"), (0, u "<init>"), (0, u "()V"), (0, .string 8), (0, u ""), (0, .fieldref 10 11), (0, .class_ 12), (0, .nameAndType 13 14), (0, u "java/lang/String"), (0, u "value"), (0, u "[B"), (0, .fieldref 10 16), (0, .nameAndType 17 18), (0, u "coder"), (0, u "B"), (2, u "hash"), (0, u "I"), (2, u "hashIsZero"), (0, u "Z"), (0, .methodref 10 28), (0, .nameAndType 5 29), (0, u "([CIILjava/lang/Void;)V"), (8, .fieldref 10 39), (0, .nameAndType 40 26), (0, u "COMPACT_STRINGS"), (1, .class_ 44), (1, u "java/lang/StringUTF16"), (0, u "compress"), (1, .methodref 42 48), (0, .nameAndType 49 50), (0, u "coderFromArrayLen"), (0, u "([BI)B"), (3, .methodref 55 56), (0, .class_ 57), (0, .nameAndType 58 59), (0, u "java/util/Arrays"), (0, u "copyOfRange"), (0, u "([BII)[B"), (47, .class_ 109), (1, u "java/lang/StringLatin1"), (32, u "()Z"), (34, .methodref 42 178), (0, .nameAndType 45 179), (0, u "([CII)[B"), (13, .class_ 195), (1, u "java/lang/System"), (16, .methodref 193 213), (0, .nameAndType 214 215), (0, u "arraycopy"), (0, u "(Ljava/lang/Object;ILjava/lang/Object;II)V"), (118, u "()I"), (0, .methodref 10 336), (0, .nameAndType 17 337), (0, u "()B"), (2, u "()[B"), (148, .methodref 10 490), (0, .nameAndType 5 491), (0, u "(Ljava/lang/AbstractStringBuilder;Ljava/lang/Void;)V"), (1, .nameAndType 494 142), (0, u "isLatin1"), (11, .nameAndType 507 334), (0, u "length"), (24, u "getBytes"), (8, .methodref 107 542), (0, .nameAndType 543 544), (0, u "equals"), (0, u "([B[B)Z"), (4, .methodref 550 506), (0, .class_ 551), (0, u "java/lang/AbstractStringBuilder"), (0, .methodref 550 553), (0, .nameAndType 554 340), (0, u "getValue"), (18, u "(Ljava/lang/Object;)Z"), (1, .class_ 576), (0, u "java/lang/CharSequence"), (22, u "CASE_INSENSITIVE_ORDER"), (0, u "Ljava/util/Comparator;"), (220, u "([BIB)V"), (188, u "([C)V"), (36, .methodref 550 493), (53, u "serialPersistentFields"), (0, u "[Ljava/io/ObjectStreamField;"), (0, .class_ 1104), (0, u "java/lang/String$CaseInsensitiveComparator"), (1, .class_ 1107), (0, u "java/io/Serializable"), (0, .class_ 1109), (0, u "java/lang/Comparable"), (0, .class_ 1111), (0, u "java/lang/constant/Constable"), (0, .class_ 1113), (0, u "java/lang/constant/ConstantDesc"), (2, u "serialVersionUID"), (0, u "J"), (3, u "REPL"), (0, u "C"), (2, u "LATIN1"), (1, u "UTF16"), (105, u "(Ljava/lang/StringBuilder;)V")] 217

def k7m0 : Method := { name := "<init>", desc := "()V", sig := { parameters := [], returnType := none }, accessFlags := 1, code := none }
def k7c1 : Code := { maxStack := 5, maxLocals := 2, code := jdk_42_method_3_code, exceptionTable := #[], attributes := #[] }
def k7m1 : Method := { name := "<init>", desc := "([C)V", sig := { parameters := [(.array .char)], returnType := none }, accessFlags := 1, code := some k7c1 }
def k7c2 : Code := { maxStack := 3, maxLocals := 2, code := jdk_42_method_53_code, exceptionTable := #[], attributes := #[] }
def k7m2 : Method := { name := "<init>", desc := "(Ljava/lang/StringBuilder;)V", sig := { parameters := [(.object "java/lang/StringBuilder")], returnType := none }, accessFlags := 1, code := some k7c2 }
def k7c3 : Code := { maxStack := 2, maxLocals := 1, code := jdk_42_method_54_code, exceptionTable := #[], attributes := #[] }
def k7m3 : Method := { name := "length", desc := "()I", sig := { parameters := [], returnType := some .int }, accessFlags := 1, code := some k7c3 }
def k7c4 : Code := { maxStack := 2, maxLocals := 3, code := jdk_42_method_66_code, exceptionTable := #[], attributes := #[] }
def k7m4 : Method := { name := "equals", desc := "(Ljava/lang/Object;)Z", sig := { parameters := [(.object "java/lang/Object")], returnType := some .boolean }, accessFlags := 1, code := some k7c4 }
def k7c5 : Code := { maxStack := 5, maxLocals := 4, code := jdk_42_method_147_code, exceptionTable := #[], attributes := #[] }
def k7m5 : Method := { name := "getBytes", desc := "([BIB)V", sig := { parameters := [(.array .byte), .int, .byte], returnType := none }, accessFlags := 0, code := some k7c5 }
def k7c6 : Code := { maxStack := 4, maxLocals := 6, code := jdk_42_method_149_code, exceptionTable := #[], attributes := #[] }
def k7m6 : Method := { name := "<init>", desc := "([CIILjava/lang/Void;)V", sig := { parameters := [(.array .char), .int, .int, (.object "java/lang/Void")], returnType := none }, accessFlags := 2, code := some k7c6 }
def k7c7 : Code := { maxStack := 5, maxLocals := 5, code := jdk_42_method_150_code, exceptionTable := #[], attributes := #[] }
def k7m7 : Method := { name := "<init>", desc := "(Ljava/lang/AbstractStringBuilder;Ljava/lang/Void;)V", sig := { parameters := [(.object "java/lang/AbstractStringBuilder"), (.object "java/lang/Void")], returnType := none }, accessFlags := 0, code := some k7c7 }
def k7c8 : Code := { maxStack := 1, maxLocals := 1, code := jdk_42_method_152_code, exceptionTable := #[], attributes := #[] }
def k7m8 : Method := { name := "coder", desc := "()B", sig := { parameters := [], returnType := some .byte }, accessFlags := 0, code := some k7c8 }
/-- java/lang/String -/
def k7 : Class := { plain "java/lang/String" (some 0) with
  accessFlags := 49
  interfaces := #[2, 3, 4, 5, 6]
  cf := some (fileOf pool7 10 #[.nestMembers #[1103]] #[{ accessFlags := 1, nameIndex := 5, descriptorIndex := 6, attributes := #[] }, { accessFlags := 1, nameIndex := 5, descriptorIndex := 1010, attributes := #[] }, { accessFlags := 1, nameIndex := 5, descriptorIndex := 1233, attributes := #[] }, { accessFlags := 1, nameIndex := 507, descriptorIndex := 334, attributes := #[] }, { accessFlags := 1, nameIndex := 543, descriptorIndex := 573, attributes := #[] }, { accessFlags := 0, nameIndex := 532, descriptorIndex := 821, attributes := #[] }, { accessFlags := 2, nameIndex := 5, descriptorIndex := 29, attributes := #[] }, { accessFlags := 0, nameIndex := 5, descriptorIndex := 491, attributes := #[] }, { accessFlags := 0, nameIndex := 17, descriptorIndex := 337, attributes := #[] }] 49 2 #[1106, 1108, 575, 1110, 1112] #[{ accessFlags := 18, nameIndex := 13, descriptorIndex := 14, attributes := #[] }, { accessFlags := 18, nameIndex := 17, descriptorIndex := 18, attributes := #[] }, { accessFlags := 2, nameIndex := 21, descriptorIndex := 22, attributes := #[] }, { accessFlags := 2, nameIndex := 25, descriptorIndex := 26, attributes := #[] }, { accessFlags := 26, nameIndex := 1116, descriptorIndex := 1117, attributes := #[] }, { accessFlags := 24, nameIndex := 40, descriptorIndex := 26, attributes := #[] }, { accessFlags := 26, nameIndex := 1101, descriptorIndex := 1102, attributes := #[] }, { accessFlags := 26, nameIndex := 1121, descriptorIndex := 1122, attributes := #[] }, { accessFlags := 25, nameIndex := 599, descriptorIndex := 600, attributes := #[] }, { accessFlags := 24, nameIndex := 1125, descriptorIndex := 18, attributes := #[] }, { accessFlags := 24, nameIndex := 1127, descriptorIndex := 18, attributes := #[] }])
  fields := #[{ name := "value", type := (.array .byte), accessFlags := 18, slot := 0, constantValue := 0 }, { name := "coder", type := .byte, accessFlags := 18, slot := 1, constantValue := 0 }, { name := "hash", type := .int, accessFlags := 2, slot := 2, constantValue := 0 }, { name := "hashIsZero", type := .boolean, accessFlags := 2, slot := 3, constantValue := 0 }, { name := "serialVersionUID", type := .long, accessFlags := 26, slot := 0, constantValue := 0 }, { name := "COMPACT_STRINGS", type := .boolean, accessFlags := 24, slot := 1, constantValue := 0 }, { name := "serialPersistentFields", type := (.array (.object "java/io/ObjectStreamField")), accessFlags := 26, slot := 2, constantValue := 0 }, { name := "REPL", type := .char, accessFlags := 26, slot := 3, constantValue := 0 }, { name := "CASE_INSENSITIVE_ORDER", type := (.object "java/util/Comparator"), accessFlags := 25, slot := 4, constantValue := 0 }, { name := "LATIN1", type := .byte, accessFlags := 24, slot := 5, constantValue := 0 }, { name := "UTF16", type := .byte, accessFlags := 24, slot := 6, constantValue := 0 }]
  methods := #[k7m0, k7m1, k7m2, k7m3, k7m4, k7m5, k7m6, k7m7, k7m8]
  instanceTypes := #[(.array .byte), .byte, .int, .boolean]
  staticTypes := #[.long, .boolean, (.array (.object "java/io/ObjectStreamField")), .char, (.object "java/util/Comparator"), .byte, .byte]
  resolved := Array.replicate 1451 none
  statics := some 0 }

def pool8 : Array CpInfo := pool [(6, .class_ 8), (1, u "java/lang/Object"), (0, u "<init>"), (0, u "()V"), (1, .class_ 14), (1, u "java/lang/StringUTF16"), (31, u "$assertionsDisabled"), (0, u "Z"), (13, u "HI_BYTE_SHIFT"), (0, u "I"), (2, u "LO_BYTE_SHIFT"), (49, .methodref 12 116), (0, .nameAndType 117 118), (0, u "compress"), (0, u "([CI[BII)I"), (3, u "([CII)[B"), (138, u "coderFromArrayLen"), (0, u "([BI)B"), (106, .class_ 371), (1, u "java/lang/StringUTF16$LinesSpliterator"), (58, u "MAX_LENGTH"), (196, .class_ 628), (0, u "java/lang/StringUTF16$CodePointsSpliterator"), (0, .class_ 630), (0, u "java/lang/StringUTF16$CharsSpliterator")] 4

def k8m0 : Method := { name := "<init>", desc := "()V", sig := { parameters := [], returnType := none }, accessFlags := 0, code := none }
def k8c1 : Code := { maxStack := 2, maxLocals := 2, code := jdk_52_method_15_code, exceptionTable := #[], attributes := #[] }
def k8m1 : Method := { name := "coderFromArrayLen", desc := "([BI)B", sig := { parameters := [(.array .byte), .int], returnType := some .byte }, accessFlags := 8, code := some k8c1 }
def k8c2 : Code := { maxStack := 5, maxLocals := 6, code := jdk_52_method_16_code, exceptionTable := #[], attributes := #[] }
def k8m2 : Method := { name := "compress", desc := "([CII)[B", sig := { parameters := [(.array .char), .int, .int], returnType := some (.array .byte) }, accessFlags := 9, code := some k8c2 }
def k8c3 : Code := { maxStack := 3, maxLocals := 7, code := jdk_52_method_21_code, exceptionTable := #[], attributes := #[] }
def k8m3 : Method := { name := "compress", desc := "([CI[BII)I", sig := { parameters := [(.array .char), .int, (.array .byte), .int, .int], returnType := some .int }, accessFlags := 9, code := some k8c3 }
/-- java/lang/StringUTF16 -/
def k8 : Class := { plain "java/lang/StringUTF16" (some 0) with
  accessFlags := 48
  interfaces := #[]
  cf := some (fileOf pool8 12 #[.nestMembers #[627, 629, 369]] #[{ accessFlags := 0, nameIndex := 9, descriptorIndex := 10, attributes := #[] }, { accessFlags := 8, nameIndex := 261, descriptorIndex := 262, attributes := #[] }, { accessFlags := 9, nameIndex := 117, descriptorIndex := 122, attributes := #[] }, { accessFlags := 9, nameIndex := 117, descriptorIndex := 118, attributes := #[] }] 48 6 #[] #[{ accessFlags := 26, nameIndex := 61, descriptorIndex := 62, attributes := #[] }, { accessFlags := 26, nameIndex := 65, descriptorIndex := 62, attributes := #[] }, { accessFlags := 24, nameIndex := 430, descriptorIndex := 62, attributes := #[] }, { accessFlags := 4120, nameIndex := 46, descriptorIndex := 47, attributes := #[] }])
  fields := #[{ name := "HI_BYTE_SHIFT", type := .int, accessFlags := 26, slot := 0, constantValue := 0 }, { name := "LO_BYTE_SHIFT", type := .int, accessFlags := 26, slot := 1, constantValue := 0 }, { name := "MAX_LENGTH", type := .int, accessFlags := 24, slot := 2, constantValue := 0 }, { name := "$assertionsDisabled", type := .boolean, accessFlags := 4120, slot := 3, constantValue := 0 }]
  methods := #[k8m0, k8m1, k8m2, k8m3]
  instanceTypes := #[]
  staticTypes := #[.int, .int, .int, .boolean]
  resolved := Array.replicate 635 none
  statics := none }

def pool9 : Array CpInfo := pool [(2, .class_ 4), (1, u "java/lang/Enum"), (0, u "name"), (0, u "Ljava/lang/String;"), (2, u "ordinal"), (0, u "I"), (1, .class_ 14), (1, u "java/lang/Object"), (4, u "hash"), (86, .class_ 108), (1, u "java/lang/Enum$EnumDesc"), (2, .class_ 112), (0, u "java/lang/constant/Constable"), (0, .class_ 114), (0, u "java/lang/Comparable"), (0, .class_ 116), (0, u "java/io/Serializable")] 87

/-- java/lang/Enum -/
def k9 : Class := { plain "java/lang/Enum" (some 0) with
  accessFlags := 1057
  interfaces := #[5, 3, 2]
  cf := some (fileOf pool9 2 #[.nestMembers #[106]] #[] 1057 12 #[111, 113, 115] #[{ accessFlags := 18, nameIndex := 5, descriptorIndex := 6, attributes := #[] }, { accessFlags := 18, nameIndex := 9, descriptorIndex := 10, attributes := #[] }, { accessFlags := 2, nameIndex := 19, descriptorIndex := 10, attributes := #[] }])
  fields := #[{ name := "name", type := (.object "java/lang/String"), accessFlags := 18, slot := 0, constantValue := 0 }, { name := "ordinal", type := .int, accessFlags := 18, slot := 1, constantValue := 0 }, { name := "hash", type := .int, accessFlags := 2, slot := 2, constantValue := 0 }]
  methods := #[]
  instanceTypes := #[(.object "java/lang/String"), .int, .int]
  staticTypes := #[]
  resolved := Array.replicate 204 none
  statics := none }

def pool10 : Array CpInfo := pool [(1, .class_ 2), (0, u "com/example/research_api_client/researchapiclient/lotus/LineCheck$Status"), (2, u "FOUND"), (0, u "Lcom/example/research_api_client/researchapiclient/lotus/LineCheck$Status;"), (2, u "NOT_FOUND"), (2, u "INVALID"), (0, .fieldref 1 14), (0, .nameAndType 15 16), (0, u "$VALUES"), (0, u "[Lcom/example/research_api_client/researchapiclient/lotus/LineCheck$Status;"), (0, .methodref 18 19), (0, .class_ 16), (0, .nameAndType 20 21), (0, u "clone"), (0, u "()Ljava/lang/Object;"), (1, .class_ 25), (1, u "java/lang/Enum"), (4, u "<init>"), (1, .fieldref 1 33), (0, .nameAndType 34 35), (0, u "value"), (0, u "Ljava/lang/String;"), (0, .methodref 1 37), (0, .nameAndType 38 39), (0, u "values"), (0, u "()[Lcom/example/research_api_client/researchapiclient/lotus/LineCheck$Status;"), (0, .class_ 41), (0, u "java/lang/StringBuilder"), (0, .methodref 40 43), (0, .nameAndType 30 44), (0, u "()V"), (0, .string 46), (0, u "pid_"), (0, .methodref 40 48), (0, .nameAndType 49 50), (0, u "append"), (0, u "(Ljava/lang/String;)Ljava/lang/StringBuilder;"), (0, .methodref 40 52), (0, .nameAndType 53 54), (0, u "toString"), (0, u "()Ljava/lang/String;"), (0, .methodref 56 57), (0, .class_ 58), (0, .nameAndType 59 60), (0, u "java/lang/String"), (0, u "equals"), (0, u "(Ljava/lang/Object;)Z"), (17, u "(Ljava/lang/String;)Lcom/example/research_api_client/researchapiclient/lotus/LineCheck$Status;"), (3, u "ofMember"), (6, .class_ 90), (0, u "com/example/research_api_client/researchapiclient/lotus/LineCheck")] 2

def k10c0 : Code := { maxStack := 1, maxLocals := 0, code := prog_36_method_1_code, exceptionTable := #[], attributes := #[] }
def k10m0 : Method := { name := "values", desc := "()[Lcom/example/research_api_client/researchapiclient/lotus/LineCheck$Status;", sig := { parameters := [], returnType := some (.array (.object "com/example/research_api_client/researchapiclient/lotus/LineCheck$Status")) }, accessFlags := 9, code := some k10c0 }
def k10c1 : Code := { maxStack := 3, maxLocals := 5, code := prog_36_method_6_code, exceptionTable := #[], attributes := #[] }
def k10m1 : Method := { name := "ofMember", desc := "(Ljava/lang/String;)Lcom/example/research_api_client/researchapiclient/lotus/LineCheck$Status;", sig := { parameters := [(.object "java/lang/String")], returnType := some (.object "com/example/research_api_client/researchapiclient/lotus/LineCheck$Status") }, accessFlags := 8, code := some k10c1 }
/-- com/example/research_api_client/researchapiclient/lotus/LineCheck$Status -/
def k10 : Class := { plain "com/example/research_api_client/researchapiclient/lotus/LineCheck$Status" (some 9) with
  accessFlags := 16433
  interfaces := #[]
  cf := some (fileOf pool10 1 #[.nestHost 89] #[{ accessFlags := 9, nameIndex := 38, descriptorIndex := 39, attributes := #[] }, { accessFlags := 8, nameIndex := 82, descriptorIndex := 78, attributes := #[] }] 16433 23 #[] #[{ accessFlags := 16409, nameIndex := 5, descriptorIndex := 6, attributes := #[] }, { accessFlags := 16409, nameIndex := 9, descriptorIndex := 6, attributes := #[] }, { accessFlags := 16409, nameIndex := 12, descriptorIndex := 6, attributes := #[] }, { accessFlags := 18, nameIndex := 34, descriptorIndex := 35, attributes := #[] }, { accessFlags := 4122, nameIndex := 15, descriptorIndex := 16, attributes := #[] }])
  fields := #[{ name := "FOUND", type := (.object "com/example/research_api_client/researchapiclient/lotus/LineCheck$Status"), accessFlags := 16409, slot := 0, constantValue := 0 }, { name := "NOT_FOUND", type := (.object "com/example/research_api_client/researchapiclient/lotus/LineCheck$Status"), accessFlags := 16409, slot := 1, constantValue := 0 }, { name := "INVALID", type := (.object "com/example/research_api_client/researchapiclient/lotus/LineCheck$Status"), accessFlags := 16409, slot := 2, constantValue := 0 }, { name := "value", type := (.object "java/lang/String"), accessFlags := 18, slot := 3, constantValue := 0 }, { name := "$VALUES", type := (.array (.object "com/example/research_api_client/researchapiclient/lotus/LineCheck$Status")), accessFlags := 4122, slot := 3, constantValue := 0 }]
  methods := #[k10m0, k10m1]
  instanceTypes := #[(.object "java/lang/String"), .int, .int, (.object "java/lang/String")]
  staticTypes := #[(.object "com/example/research_api_client/researchapiclient/lotus/LineCheck$Status"), (.object "com/example/research_api_client/researchapiclient/lotus/LineCheck$Status"), (.object "com/example/research_api_client/researchapiclient/lotus/LineCheck$Status"), (.array (.object "com/example/research_api_client/researchapiclient/lotus/LineCheck$Status"))]
  resolved := Array.replicate 93 none
  statics := some 1 }

def pool11 : Array CpInfo := pool [(1, .class_ 2), (0, u "java/lang/Cloneable"), (0, .class_ 4), (0, u "java/lang/Object")] 2

/-- java/lang/Cloneable -/
def k11 : Class := { plain "java/lang/Cloneable" (some 0) with
  accessFlags := 1537
  interfaces := #[]
  cf := some (fileOf pool11 1 #[] #[] 1537 3 #[] #[])
  fields := #[]
  methods := #[]
  instanceTypes := #[]
  staticTypes := #[]
  resolved := Array.replicate 7 none
  statics := none }

def pool12 : Array CpInfo := pool [(1, .class_ 2), (0, u "java/lang/Appendable"), (0, .class_ 4), (0, u "java/lang/Object")] 9

/-- java/lang/Appendable -/
def k12 : Class := { plain "java/lang/Appendable" (some 0) with
  accessFlags := 1537
  interfaces := #[]
  cf := some (fileOf pool12 1 #[] #[] 1537 3 #[] #[])
  fields := #[]
  methods := #[]
  instanceTypes := #[]
  staticTypes := #[]
  resolved := Array.replicate 14 none
  statics := none }

def pool13 : Array CpInfo := pool [(1, .class_ 2), (0, u "java/lang/String"), (0, .methodref 4 5), (0, .class_ 6), (0, .nameAndType 7 8), (0, u "java/lang/Object"), (0, u "<init>"), (0, u "()V"), (1, .class_ 12), (1, u "java/lang/AbstractStringBuilder"), (0, u "EMPTYVALUE"), (0, u "[B"), (0, .fieldref 10 16), (0, .nameAndType 17 14), (0, u "value"), (0, .fieldref 1 19), (0, .nameAndType 20 21), (0, u "COMPACT_STRINGS"), (0, u "Z"), (0, .fieldref 10 23), (0, .nameAndType 24 25), (0, u "coder"), (0, u "B"), (6, .methodref 1 33), (0, .nameAndType 34 35), (0, u "length"), (0, u "()I"), (4, .methodref 1 41), (0, .nameAndType 24 42), (0, u "()B"), (2, u "append"), (0, u "(Ljava/lang/String;)Ljava/lang/AbstractStringBuilder;"), (1, .class_ 49), (0, u "java/lang/CharSequence"), (19, u "(Ljava/lang/String;)V"), (5, u "maybeLatin1"), (3, .fieldref 10 80), (0, .nameAndType 81 82), (0, u "count"), (0, u "I"), (2, u "isLatin1"), (0, u "()Z"), (13, .methodref 10 101), (0, .nameAndType 102 103), (0, u "ensureCapacityInternal"), (0, u "(I)V"), (104, .methodref 10 209), (0, .nameAndType 210 211), (0, u "putStringAt"), (0, u "(ILjava/lang/String;)V"), (5, u "inflateIfNeededFor"), (2, .nameAndType 221 222), (0, u "getBytes"), (0, u "([BIB)V"), (174, .methodref 10 398), (0, .nameAndType 217 69), (0, .methodref 1 220), (3, u "()[B"), (40, .class_ 445), (0, u "java/lang/Appendable"), (106, u "getValue")] 56

def k13m0 : Method := { name := "<init>", desc := "()V", sig := { parameters := [], returnType := none }, accessFlags := 0, code := none }
def k13c1 : Code := { maxStack := 2, maxLocals := 2, code := jdk_68_method_2_code, exceptionTable := #[], attributes := #[] }
def k13m1 : Method := { name := "<init>", desc := "(I)V", sig := { parameters := [.int], returnType := none }, accessFlags := 0, code := some k13c1 }
def k13c2 : Code := { maxStack := 1, maxLocals := 1, code := jdk_68_method_6_code, exceptionTable := #[], attributes := #[] }
def k13m2 : Method := { name := "length", desc := "()I", sig := { parameters := [], returnType := some .int }, accessFlags := 1, code := some k13c2 }
def k13c3 : Code := { maxStack := 4, maxLocals := 3, code := jdk_68_method_9_code, exceptionTable := #[], attributes := #[] }
def k13m3 : Method := { name := "ensureCapacityInternal", desc := "(I)V", sig := { parameters := [.int], returnType := none }, accessFlags := 2, code := some k13c3 }
def k13c4 : Code := { maxStack := 3, maxLocals := 3, code := jdk_68_method_22_code, exceptionTable := #[], attributes := #[] }
def k13m4 : Method := { name := "append", desc := "(Ljava/lang/String;)Ljava/lang/AbstractStringBuilder;", sig := { parameters := [(.object "java/lang/String")], returnType := some (.object "java/lang/AbstractStringBuilder") }, accessFlags := 1, code := some k13c4 }
def k13c5 : Code := { maxStack := 1, maxLocals := 1, code := jdk_68_method_64_code, exceptionTable := #[], attributes := #[] }
def k13m5 : Method := { name := "getValue", desc := "()[B", sig := { parameters := [], returnType := some (.array .byte) }, accessFlags := 16, code := some k13c5 }
def k13c6 : Code := { maxStack := 1, maxLocals := 1, code := jdk_68_method_68_code, exceptionTable := #[], attributes := #[] }
def k13m6 : Method := { name := "isLatin1", desc := "()Z", sig := { parameters := [], returnType := some .boolean }, accessFlags := 16, code := some k13c6 }
def k13c7 : Code := { maxStack := 2, maxLocals := 2, code := jdk_68_method_71_code, exceptionTable := #[], attributes := #[] }
def k13m7 : Method := { name := "inflateIfNeededFor", desc := "(Ljava/lang/String;)V", sig := { parameters := [(.object "java/lang/String")], returnType := none }, accessFlags := 2, code := some k13c7 }
def k13c8 : Code := { maxStack := 4, maxLocals := 3, code := jdk_68_method_73_code, exceptionTable := #[], attributes := #[] }
def k13m8 : Method := { name := "putStringAt", desc := "(ILjava/lang/String;)V", sig := { parameters := [.int, (.object "java/lang/String")], returnType := none }, accessFlags := 2, code := some k13c8 }
/-- java/lang/AbstractStringBuilder -/
def k13 : Class := { plain "java/lang/AbstractStringBuilder" (some 0) with
  accessFlags := 1056
  interfaces := #[12, 4]
  cf := some (fileOf pool13 10 #[] #[{ accessFlags := 0, nameIndex := 7, descriptorIndex := 8, attributes := #[] }, { accessFlags := 0, nameIndex := 7, descriptorIndex := 103, attributes := #[] }, { accessFlags := 1, nameIndex := 34, descriptorIndex := 35, attributes := #[] }, { accessFlags := 2, nameIndex := 102, descriptorIndex := 103, attributes := #[] }, { accessFlags := 1, nameIndex := 45, descriptorIndex := 46, attributes := #[] }, { accessFlags := 16, nameIndex := 552, descriptorIndex := 403, attributes := #[] }, { accessFlags := 16, nameIndex := 85, descriptorIndex := 86, attributes := #[] }, { accessFlags := 2, nameIndex := 217, descriptorIndex := 69, attributes := #[] }, { accessFlags := 2, nameIndex := 210, descriptorIndex := 211, attributes := #[] }] 1056 4 #[444, 48] #[{ accessFlags := 0, nameIndex := 17, descriptorIndex := 14, attributes := #[] }, { accessFlags := 0, nameIndex := 24, descriptorIndex := 25, attributes := #[] }, { accessFlags := 0, nameIndex := 75, descriptorIndex := 21, attributes := #[] }, { accessFlags := 0, nameIndex := 81, descriptorIndex := 82, attributes := #[] }, { accessFlags := 26, nameIndex := 13, descriptorIndex := 14, attributes := #[] }])
  fields := #[{ name := "value", type := (.array .byte), accessFlags := 0, slot := 0, constantValue := 0 }, { name := "coder", type := .byte, accessFlags := 0, slot := 1, constantValue := 0 }, { name := "maybeLatin1", type := .boolean, accessFlags := 0, slot := 2, constantValue := 0 }, { name := "count", type := .int, accessFlags := 0, slot := 3, constantValue := 0 }, { name := "EMPTYVALUE", type := (.array .byte), accessFlags := 26, slot := 0, constantValue := 0 }]
  methods := #[k13m0, k13m1, k13m2, k13m3, k13m4, k13m5, k13m6, k13m7, k13m8]
  instanceTypes := #[(.array .byte), .byte, .boolean, .int]
  staticTypes := #[(.array .byte)]
  resolved := Array.replicate 609 none
  statics := none }

def pool14 : Array CpInfo := pool [(1, .methodref 2 3), (0, .class_ 4), (0, .nameAndType 5 6), (0, u "java/lang/AbstractStringBuilder"), (0, u "<init>"), (0, u "(I)V"), (11, .class_ 20), (1, u "java/lang/String"), (3, .class_ 26), (1, u "java/lang/StringBuilder"), (0, u "append"), (0, u "(Ljava/lang/String;)Ljava/lang/StringBuilder;"), (0, .methodref 2 30), (0, .nameAndType 27 31), (0, u "(Ljava/lang/String;)Ljava/lang/AbstractStringBuilder;"), (105, .methodref 18 138), (0, .nameAndType 5 139), (0, u "(Ljava/lang/StringBuilder;)V"), (5, u "()V"), (10, u "()I"), (186, .methodref 2 344), (0, .nameAndType 345 156), (0, u "length"), (3, .class_ 350), (0, u "java/lang/Appendable"), (0, .class_ 352), (0, u "java/io/Serializable"), (0, .class_ 354), (0, u "java/lang/Comparable"), (0, .class_ 356), (0, u "java/lang/CharSequence"), (0, u "serialVersionUID"), (0, u "J"), (40, u "toString"), (0, u "()Ljava/lang/String;")] 21

def k14c0 : Code := { maxStack := 2, maxLocals := 1, code := jdk_67_method_1_code, exceptionTable := #[], attributes := #[] }
def k14m0 : Method := { name := "<init>", desc := "()V", sig := { parameters := [], returnType := none }, accessFlags := 1, code := some k14c0 }
def k14c1 : Code := { maxStack := 2, maxLocals := 2, code := jdk_67_method_7_code, exceptionTable := #[], attributes := #[] }
def k14m1 : Method := { name := "append", desc := "(Ljava/lang/String;)Ljava/lang/StringBuilder;", sig := { parameters := [(.object "java/lang/String")], returnType := some (.object "java/lang/StringBuilder") }, accessFlags := 1, code := some k14c1 }
def k14c2 : Code := { maxStack := 3, maxLocals := 1, code := jdk_67_method_42_code, exceptionTable := #[], attributes := #[] }
def k14m2 : Method := { name := "toString", desc := "()Ljava/lang/String;", sig := { parameters := [], returnType := some (.object "java/lang/String") }, accessFlags := 1, code := some k14c2 }
def k14c3 : Code := { maxStack := 1, maxLocals := 1, code := jdk_67_method_93_code, exceptionTable := #[], attributes := #[] }
def k14m3 : Method := { name := "length", desc := "()I", sig := { parameters := [], returnType := some .int }, accessFlags := 4161, code := some k14c3 }
/-- java/lang/StringBuilder -/
def k14 : Class := { plain "java/lang/StringBuilder" (some 13) with
  accessFlags := 49
  interfaces := #[12, 2, 3, 4]
  cf := some (fileOf pool14 24 #[] #[{ accessFlags := 1, nameIndex := 5, descriptorIndex := 145, attributes := #[] }, { accessFlags := 1, nameIndex := 27, descriptorIndex := 28, attributes := #[] }, { accessFlags := 1, nameIndex := 399, descriptorIndex := 400, attributes := #[] }, { accessFlags := 4161, nameIndex := 345, descriptorIndex := 156, attributes := #[] }] 49 2 #[349, 351, 353, 355] #[{ accessFlags := 24, nameIndex := 357, descriptorIndex := 358, attributes := #[] }])
  fields := #[{ name := "serialVersionUID", type := .long, accessFlags := 24, slot := 0, constantValue := 0 }]
  methods := #[k14m0, k14m1, k14m2, k14m3]
  instanceTypes := #[(.array .byte), .byte, .boolean, .int]
  staticTypes := #[.long]
  resolved := Array.replicate 422 none
  statics := none }

def pool15 : Array CpInfo := pool [(2, .class_ 4), (1, u "java/lang/Object"), (0, u "<init>"), (0, u "()V"), (1, .class_ 10), (1, u "java/lang/System"), (0, u "allowSecurityManager"), (0, u "I"), (16, u "cons"), (0, u "Ljava/io/Console;"), (77, .class_ 110), (1, u "java/lang/System$CallersHolder"), (43, u "initialErrStream"), (0, u "Ljava/io/PrintStream;"), (19, u "security"), (0, u "Ljava/lang/SecurityManager;"), (31, .class_ 209), (0, u "java/lang/System$1"), (7, u "props"), (0, u "Ljava/util/Properties;"), (2, u "lineSeparator"), (0, u "Ljava/lang/String;"), (96, .class_ 321), (1, u "java/lang/System$LoggerFinder"), (5, .class_ 328), (0, u "java/lang/System$Logger"), (67, u "err"), (2, u "out"), (91, u "notSupportedJnuEncoding"), (15, u "in"), (17, u "initialIn"), (0, u "Ljava/io/InputStream;"), (35, u "bootLayer"), (0, u "Ljava/lang/ModuleLayer;"), (99, .class_ 664), (0, u "java/lang/System$2"), (9, u "NEVER"), (2, u "MAYBE"), (49, u "arraycopy"), (0, u "(Ljava/lang/Object;ILjava/lang/Object;II)V"), (72, .class_ 802), (0, u "java/lang/System$Logger$Level")] 31

def k15m0 : Method := { name := "<init>", desc := "()V", sig := { parameters := [], returnType := none }, accessFlags := 2, code := none }
def k15m1 : Method := { name := "arraycopy", desc := "(Ljava/lang/Object;ILjava/lang/Object;II)V", sig := { parameters := [(.object "java/lang/Object"), .int, (.object "java/lang/Object"), .int, .int], returnType := none }, accessFlags := 265, code := none }
/-- java/lang/System -/
def k15 : Class := { plain "java/lang/System" (some 0) with
  accessFlags := 49
  interfaces := #[]
  cf := some (fileOf pool15 8 #[.nestMembers #[319, 327, 801, 108, 663, 208]] #[{ accessFlags := 2, nameIndex := 5, descriptorIndex := 6, attributes := #[] }, { accessFlags := 265, nameIndex := 727, descriptorIndex := 728, attributes := #[] }] 49 2 #[] #[{ accessFlags := 25, nameIndex := 507, descriptorIndex := 526, attributes := #[] }, { accessFlags := 25, nameIndex := 399, descriptorIndex := 155, attributes := #[] }, { accessFlags := 25, nameIndex := 396, descriptorIndex := 155, attributes := #[] }, { accessFlags := 10, nameIndex := 525, descriptorIndex := 526, attributes := #[] }, { accessFlags := 26, nameIndex := 674, descriptorIndex := 12, attributes := #[] }, { accessFlags := 26, nameIndex := 677, descriptorIndex := 12, attributes := #[] }, { accessFlags := 10, nameIndex := 11, descriptorIndex := 12, attributes := #[] }, { accessFlags := 74, nameIndex := 175, descriptorIndex := 176, attributes := #[] }, { accessFlags := 10, nameIndex := 491, descriptorIndex := 222, attributes := #[] }, { accessFlags := 74, nameIndex := 29, descriptorIndex := 30, attributes := #[] }, { accessFlags := 74, nameIndex := 154, descriptorIndex := 155, attributes := #[] }, { accessFlags := 10, nameIndex := 217, descriptorIndex := 218, attributes := #[] }, { accessFlags := 10, nameIndex := 221, descriptorIndex := 222, attributes := #[] }, { accessFlags := 8, nameIndex := 562, descriptorIndex := 563, attributes := #[] }])
  fields := #[{ name := "in", type := (.object "java/io/InputStream"), accessFlags := 25, slot := 0, constantValue := 0 }, { name := "out", type := (.object "java/io/PrintStream"), accessFlags := 25, slot := 1, constantValue := 0 }, { name := "err", type := (.object "java/io/PrintStream"), accessFlags := 25, slot := 2, constantValue := 0 }, { name := "initialIn", type := (.object "java/io/InputStream"), accessFlags := 10, slot := 3, constantValue := 0 }, { name := "NEVER", type := .int, accessFlags := 26, slot := 4, constantValue := 0 }, { name := "MAYBE", type := .int, accessFlags := 26, slot := 5, constantValue := 0 }, { name := "allowSecurityManager", type := .int, accessFlags := 10, slot := 6, constantValue := 0 }, { name := "security", type := (.object "java/lang/SecurityManager"), accessFlags := 74, slot := 7, constantValue := 0 }, { name := "notSupportedJnuEncoding", type := (.object "java/lang/String"), accessFlags := 10, slot := 8, constantValue := 0 }, { name := "cons", type := (.object "java/io/Console"), accessFlags := 74, slot := 9, constantValue := 0 }, { name := "initialErrStream", type := (.object "java/io/PrintStream"), accessFlags := 74, slot := 10, constantValue := 0 }, { name := "props", type := (.object "java/util/Properties"), accessFlags := 10, slot := 11, constantValue := 0 }, { name := "lineSeparator", type := (.object "java/lang/String"), accessFlags := 10, slot := 12, constantValue := 0 }, { name := "bootLayer", type := (.object "java/lang/ModuleLayer"), accessFlags := 8, slot := 13, constantValue := 0 }]
  methods := #[k15m0, k15m1]
  instanceTypes := #[]
  staticTypes := #[(.object "java/io/InputStream"), (.object "java/io/PrintStream"), (.object "java/io/PrintStream"), (.object "java/io/InputStream"), .int, .int, .int, (.object "java/lang/SecurityManager"), (.object "java/lang/String"), (.object "java/io/Console"), (.object "java/io/PrintStream"), (.object "java/util/Properties"), (.object "java/lang/String"), (.object "java/lang/ModuleLayer")]
  resolved := Array.replicate 834 none
  statics := none }

def pool16 : Array CpInfo := pool [(2, .class_ 4), (1, u "java/lang/Object"), (0, u "<init>"), (0, u "()V"), (7, .class_ 16), (1, u "java/util/Arrays"), (57, .class_ 76), (1, u "java/util/Arrays$NaturalOrder"), (36, .class_ 115), (1, u "java/util/Arrays$LegacyMergeSort"), (1, u "Z"), (21, u "copyOfRange"), (10, .methodref 151 152), (0, .class_ 153), (0, .nameAndType 154 155), (0, u "java/lang/System"), (0, u "arraycopy"), (0, u "(Ljava/lang/Object;ILjava/lang/Object;II)V"), (148, .methodref 305 306), (0, .class_ 307), (0, .nameAndType 308 309), (0, u "java/lang/Math"), (0, u "min"), (0, u "(II)I"), (29, .methodref 14 340), (0, .nameAndType 341 342), (0, u "copyOfRangeByte"), (0, u "([BII)[B"), (0, .methodref 14 344), (0, .nameAndType 345 346), (0, u "checkLength"), (0, u "(II)V"), (28, .class_ 376), (0, u "java/util/Arrays$ArrayList"), (68, u "$assertionsDisabled"), (269, u "MIN_ARRAY_SORT_GRAN"), (0, u "I"), (2, u "INSERTIONSORT_THRESHOLD"), (255, .class_ 976), (0, u "java/util/Arrays$ArrayItr")] 52

def k16m0 : Method := { name := "<init>", desc := "()V", sig := { parameters := [], returnType := none }, accessFlags := 2, code := none }
def k16c1 : Code := { maxStack := 4, maxLocals := 2, code := jdk_65_method_131_code, exceptionTable := #[], attributes := #[] }
def k16m1 : Method := { name := "checkLength", desc := "(II)V", sig := { parameters := [.int, .int], returnType := none }, accessFlags := 10, code := some k16c1 }
def k16c2 : Code := { maxStack := 3, maxLocals := 3, code := jdk_65_method_132_code, exceptionTable := #[], attributes := #[] }
def k16m2 : Method := { name := "copyOfRange", desc := "([BII)[B", sig := { parameters := [(.array .byte), .int, .int], returnType := some (.array .byte) }, accessFlags := 9, code := some k16c2 }
def k16c3 : Code := { maxStack := 6, maxLocals := 5, code := jdk_65_method_133_code, exceptionTable := #[], attributes := #[] }
def k16m3 : Method := { name := "copyOfRangeByte", desc := "([BII)[B", sig := { parameters := [(.array .byte), .int, .int], returnType := some (.array .byte) }, accessFlags := 10, code := some k16c3 }
/-- java/util/Arrays -/
def k16 : Class := { plain "java/util/Arrays" (some 0) with
  accessFlags := 49
  interfaces := #[]
  cf := some (fileOf pool16 14 #[.nestMembers #[975, 375, 113, 74]] #[{ accessFlags := 2, nameIndex := 5, descriptorIndex := 6, attributes := #[] }, { accessFlags := 10, nameIndex := 345, descriptorIndex := 346, attributes := #[] }, { accessFlags := 9, nameIndex := 139, descriptorIndex := 342, attributes := #[] }, { accessFlags := 10, nameIndex := 341, descriptorIndex := 342, attributes := #[] }] 49 2 #[] #[{ accessFlags := 26, nameIndex := 715, descriptorIndex := 716, attributes := #[] }, { accessFlags := 26, nameIndex := 719, descriptorIndex := 716, attributes := #[] }, { accessFlags := 4120, nameIndex := 445, descriptorIndex := 117, attributes := #[] }])
  fields := #[{ name := "MIN_ARRAY_SORT_GRAN", type := .int, accessFlags := 26, slot := 0, constantValue := 0 }, { name := "INSERTIONSORT_THRESHOLD", type := .int, accessFlags := 26, slot := 1, constantValue := 0 }, { name := "$assertionsDisabled", type := .boolean, accessFlags := 4120, slot := 2, constantValue := 0 }]
  methods := #[k16m0, k16m1, k16m2, k16m3]
  instanceTypes := #[]
  staticTypes := #[.int, .int, .boolean]
  resolved := Array.replicate 1029 none
  statics := none }

def pool17 : Array CpInfo := pool [(1, .class_ 2), (0, u "java/lang/Math"), (1, .class_ 6), (1, u "java/lang/Object"), (0, u "<init>"), (0, u "()V"), (89, .class_ 100), (1, u "java/lang/Math$RandomNumberGeneratorHolder"), (71, u "negativeZeroFloatBits"), (0, u "J"), (2, u "negativeZeroDoubleBits"), (24, u "min"), (43, u "$assertionsDisabled"), (0, u "Z"), (88, u "(II)I"), (2, u "twoToTheDoubleScaleDown"), (0, u "D"), (4, u "twoToTheDoubleScaleUp"), (9, u "E"), (3, u "PI"), (2, u "TAU"), (2, u "DEGREES_TO_RADIANS"), (0, u "RADIANS_TO_DEGREES")] 94

def k17m0 : Method := { name := "<init>", desc := "()V", sig := { parameters := [], returnType := none }, accessFlags := 2, code := none }
def k17c1 : Code := { maxStack := 2, maxLocals := 2, code := jdk_29_method_69_code, exceptionTable := #[], attributes := #[] }
def k17m1 : Method := { name := "min", desc := "(II)I", sig := { parameters := [.int, .int], returnType := some .int }, accessFlags := 9, code := some k17c1 }
/-- java/lang/Math -/
def k17 : Class := { plain "java/lang/Math" (some 0) with
  accessFlags := 49
  interfaces := #[]
  cf := some (fileOf pool17 1 #[.nestMembers #[98]] #[{ accessFlags := 2, nameIndex := 7, descriptorIndex := 8, attributes := #[] }, { accessFlags := 9, nameIndex := 201, descriptorIndex := 335, attributes := #[] }] 49 4 #[] #[{ accessFlags := 25, nameIndex := 354, descriptorIndex := 339, attributes := #[] }, { accessFlags := 25, nameIndex := 358, descriptorIndex := 339, attributes := #[] }, { accessFlags := 25, nameIndex := 361, descriptorIndex := 339, attributes := #[] }, { accessFlags := 26, nameIndex := 364, descriptorIndex := 339, attributes := #[] }, { accessFlags := 26, nameIndex := 365, descriptorIndex := 339, attributes := #[] }, { accessFlags := 26, nameIndex := 172, descriptorIndex := 173, attributes := #[] }, { accessFlags := 26, nameIndex := 176, descriptorIndex := 173, attributes := #[] }, { accessFlags := 8, nameIndex := 344, descriptorIndex := 339, attributes := #[] }, { accessFlags := 8, nameIndex := 338, descriptorIndex := 339, attributes := #[] }, { accessFlags := 4120, nameIndex := 245, descriptorIndex := 246, attributes := #[] }])
  fields := #[{ name := "E", type := .double, accessFlags := 25, slot := 0, constantValue := 0 }, { name := "PI", type := .double, accessFlags := 25, slot := 1, constantValue := 0 }, { name := "TAU", type := .double, accessFlags := 25, slot := 2, constantValue := 0 }, { name := "DEGREES_TO_RADIANS", type := .double, accessFlags := 26, slot := 3, constantValue := 0 }, { name := "RADIANS_TO_DEGREES", type := .double, accessFlags := 26, slot := 4, constantValue := 0 }, { name := "negativeZeroFloatBits", type := .long, accessFlags := 26, slot := 5, constantValue := 0 }, { name := "negativeZeroDoubleBits", type := .long, accessFlags := 26, slot := 6, constantValue := 0 }, { name := "twoToTheDoubleScaleUp", type := .double, accessFlags := 8, slot := 7, constantValue := 0 }, { name := "twoToTheDoubleScaleDown", type := .double, accessFlags := 8, slot := 8, constantValue := 0 }, { name := "$assertionsDisabled", type := .boolean, accessFlags := 4120, slot := 9, constantValue := 0 }]
  methods := #[k17m0, k17m1]
  instanceTypes := #[]
  staticTypes := #[.double, .double, .double, .double, .double, .long, .long, .double, .double, .boolean]
  resolved := Array.replicate 460 none
  statics := none }

def pool18 : Array CpInfo := pool [(4, .class_ 6), (1, u "java/lang/Object"), (0, u "<init>"), (0, u "()V"), (5, .class_ 16), (1, u "java/lang/StringLatin1"), (104, u "$assertionsDisabled"), (0, u "Z"), (98, .class_ 223), (1, u "java/lang/StringLatin1$LinesSpliterator"), (57, u "equals"), (0, u "([B[B)Z"), (107, .class_ 391), (0, u "java/lang/StringLatin1$CharsSpliterator")] 3

def k18m0 : Method := { name := "<init>", desc := "()V", sig := { parameters := [], returnType := none }, accessFlags := 0, code := none }
def k18c1 : Code := { maxStack := 3, maxLocals := 3, code := jdk_43_method_13_code, exceptionTable := #[], attributes := #[] }
def k18m1 : Method := { name := "equals", desc := "([B[B)Z", sig := { parameters := [(.array .byte), (.array .byte)], returnType := some .boolean }, accessFlags := 9, code := some k18c1 }
/-- java/lang/StringLatin1 -/
def k18 : Class := { plain "java/lang/StringLatin1" (some 0) with
  accessFlags := 48
  interfaces := #[]
  cf := some (fileOf pool18 14 #[.nestMembers #[390, 221]] #[{ accessFlags := 0, nameIndex := 7, descriptorIndex := 8, attributes := #[] }, { accessFlags := 9, nameIndex := 281, descriptorIndex := 282, attributes := #[] }] 48 4 #[] #[{ accessFlags := 4120, nameIndex := 121, descriptorIndex := 122, attributes := #[] }])
  fields := #[{ name := "$assertionsDisabled", type := .boolean, accessFlags := 4120, slot := 0, constantValue := 0 }]
  methods := #[k18m0, k18m1]
  instanceTypes := #[]
  staticTypes := #[.boolean]
  resolved := Array.replicate 395 none
  statics := none }

def pool19 : Array CpInfo := pool [(2, .class_ 4), (1, u "java/lang/Object"), (0, u "<init>"), (0, u "()V"), (17, .class_ 26), (1, u "jdk/internal/util/Preconditions"), (28, .class_ 56), (0, u "jdk/internal/util/Preconditions$4"), (57, .class_ 115), (0, u "jdk/internal/util/Preconditions$1"), (7, u "SIOOBE_FORMATTER"), (0, u "Ljava/util/function/BiFunction;"), (0, .class_ 126), (0, u "jdk/internal/util/Preconditions$2"), (3, u "AIOOBE_FORMATTER"), (0, .class_ 132), (0, u "jdk/internal/util/Preconditions$3"), (3, u "IOOBE_FORMATTER")] 57

def k19m0 : Method := { name := "<init>", desc := "()V", sig := { parameters := [], returnType := none }, accessFlags := 1, code := none }
/-- jdk/internal/util/Preconditions -/
def k19 : Class := { plain "jdk/internal/util/Preconditions" (some 0) with
  accessFlags := 33
  interfaces := #[]
  cf := some (fileOf pool19 24 #[.nestMembers #[55, 131, 125, 114]] #[{ accessFlags := 1, nameIndex := 5, descriptorIndex := 6, attributes := #[] }] 33 2 #[] #[{ accessFlags := 25, nameIndex := 123, descriptorIndex := 124, attributes := #[] }, { accessFlags := 25, nameIndex := 130, descriptorIndex := 124, attributes := #[] }, { accessFlags := 25, nameIndex := 136, descriptorIndex := 124, attributes := #[] }])
  fields := #[{ name := "SIOOBE_FORMATTER", type := (.object "java/util/function/BiFunction"), accessFlags := 25, slot := 0, constantValue := 0 }, { name := "AIOOBE_FORMATTER", type := (.object "java/util/function/BiFunction"), accessFlags := 25, slot := 1, constantValue := 0 }, { name := "IOOBE_FORMATTER", type := (.object "java/util/function/BiFunction"), accessFlags := 25, slot := 2, constantValue := 0 }]
  methods := #[k19m0]
  instanceTypes := #[]
  staticTypes := #[(.object "java/util/function/BiFunction"), (.object "java/util/function/BiFunction"), (.object "java/util/function/BiFunction")]
  resolved := Array.replicate 194 none
  statics := some 2 }

def pool20 : Array CpInfo := pool [(9, u "<init>"), (6, .class_ 18), (1, u "java/lang/Object"), (0, u "()V"), (1, .class_ 23), (1, u "jdk/internal/util/ArraysSupport"), (0, u "LOG2_ARRAY_LONG_INDEX_SCALE"), (0, u "I"), (2, u "U"), (0, u "Ljdk/internal/misc/Unsafe;"), (8, u "BIG_ENDIAN"), (0, u "Z"), (8, u "LOG2_BYTE_BIT_SIZE"), (4, u "LOG2_ARRAY_INT_INDEX_SCALE"), (54, u "JLA"), (0, u "Ljdk/internal/access/JavaLangAccess;"), (11, u "LOG2_ARRAY_BOOLEAN_INDEX_SCALE"), (9, u "LOG2_ARRAY_BYTE_INDEX_SCALE"), (5, u "LOG2_ARRAY_CHAR_INDEX_SCALE"), (5, u "LOG2_ARRAY_SHORT_INDEX_SCALE"), (18, u "LOG2_ARRAY_FLOAT_INDEX_SCALE"), (24, u "LOG2_ARRAY_DOUBLE_INDEX_SCALE"), (89, u "T_BOOLEAN"), (2, u "T_CHAR"), (1, u "T_FLOAT"), (1, u "T_DOUBLE"), (1, u "T_BYTE"), (1, u "T_SHORT"), (1, u "T_INT"), (1, u "T_LONG"), (1, u "SOFT_MAX_ARRAY_LENGTH")] 83

def k20m0 : Method := { name := "<init>", desc := "()V", sig := { parameters := [], returnType := none }, accessFlags := 2, code := none }
/-- jdk/internal/util/ArraysSupport -/
def k20 : Class := { plain "jdk/internal/util/ArraysSupport" (some 0) with
  accessFlags := 33
  interfaces := #[]
  cf := some (fileOf pool20 21 #[] #[{ accessFlags := 2, nameIndex := 9, descriptorIndex := 19, attributes := #[] }] 33 16 #[] #[{ accessFlags := 24, nameIndex := 28, descriptorIndex := 29, attributes := #[] }, { accessFlags := 26, nameIndex := 38, descriptorIndex := 39, attributes := #[] }, { accessFlags := 25, nameIndex := 121, descriptorIndex := 25, attributes := #[] }, { accessFlags := 25, nameIndex := 131, descriptorIndex := 25, attributes := #[] }, { accessFlags := 25, nameIndex := 137, descriptorIndex := 25, attributes := #[] }, { accessFlags := 25, nameIndex := 143, descriptorIndex := 25, attributes := #[] }, { accessFlags := 25, nameIndex := 53, descriptorIndex := 25, attributes := #[] }, { accessFlags := 25, nameIndex := 24, descriptorIndex := 25, attributes := #[] }, { accessFlags := 25, nameIndex := 162, descriptorIndex := 25, attributes := #[] }, { accessFlags := 25, nameIndex := 187, descriptorIndex := 25, attributes := #[] }, { accessFlags := 26, nameIndex := 48, descriptorIndex := 25, attributes := #[] }, { accessFlags := 25, nameIndex := 277, descriptorIndex := 25, attributes := #[] }, { accessFlags := 25, nameIndex := 280, descriptorIndex := 25, attributes := #[] }, { accessFlags := 25, nameIndex := 282, descriptorIndex := 25, attributes := #[] }, { accessFlags := 25, nameIndex := 284, descriptorIndex := 25, attributes := #[] }, { accessFlags := 25, nameIndex := 286, descriptorIndex := 25, attributes := #[] }, { accessFlags := 25, nameIndex := 288, descriptorIndex := 25, attributes := #[] }, { accessFlags := 25, nameIndex := 290, descriptorIndex := 25, attributes := #[] }, { accessFlags := 25, nameIndex := 292, descriptorIndex := 25, attributes := #[] }, { accessFlags := 26, nameIndex := 108, descriptorIndex := 109, attributes := #[] }, { accessFlags := 25, nameIndex := 294, descriptorIndex := 25, attributes := #[] }])
  fields := #[{ name := "U", type := (.object "jdk/internal/misc/Unsafe"), accessFlags := 24, slot := 0, constantValue := 0 }, { name := "BIG_ENDIAN", type := .boolean, accessFlags := 26, slot := 1, constantValue := 0 }, { name := "LOG2_ARRAY_BOOLEAN_INDEX_SCALE", type := .int, accessFlags := 25, slot := 2, constantValue := 0 }, { name := "LOG2_ARRAY_BYTE_INDEX_SCALE", type := .int, accessFlags := 25, slot := 3, constantValue := 0 }, { name := "LOG2_ARRAY_CHAR_INDEX_SCALE", type := .int, accessFlags := 25, slot := 4, constantValue := 0 }, { name := "LOG2_ARRAY_SHORT_INDEX_SCALE", type := .int, accessFlags := 25, slot := 5, constantValue := 0 }, { name := "LOG2_ARRAY_INT_INDEX_SCALE", type := .int, accessFlags := 25, slot := 6, constantValue := 0 }, { name := "LOG2_ARRAY_LONG_INDEX_SCALE", type := .int, accessFlags := 25, slot := 7, constantValue := 0 }, { name := "LOG2_ARRAY_FLOAT_INDEX_SCALE", type := .int, accessFlags := 25, slot := 8, constantValue := 0 }, { name := "LOG2_ARRAY_DOUBLE_INDEX_SCALE", type := .int, accessFlags := 25, slot := 9, constantValue := 0 }, { name := "LOG2_BYTE_BIT_SIZE", type := .int, accessFlags := 26, slot := 10, constantValue := 0 }, { name := "T_BOOLEAN", type := .int, accessFlags := 25, slot := 11, constantValue := 0 }, { name := "T_CHAR", type := .int, accessFlags := 25, slot := 12, constantValue := 0 }, { name := "T_FLOAT", type := .int, accessFlags := 25, slot := 13, constantValue := 0 }, { name := "T_DOUBLE", type := .int, accessFlags := 25, slot := 14, constantValue := 0 }, { name := "T_BYTE", type := .int, accessFlags := 25, slot := 15, constantValue := 0 }, { name := "T_SHORT", type := .int, accessFlags := 25, slot := 16, constantValue := 0 }, { name := "T_INT", type := .int, accessFlags := 25, slot := 17, constantValue := 0 }, { name := "T_LONG", type := .int, accessFlags := 25, slot := 18, constantValue := 0 }, { name := "JLA", type := (.object "jdk/internal/access/JavaLangAccess"), accessFlags := 26, slot := 19, constantValue := 0 }, { name := "SOFT_MAX_ARRAY_LENGTH", type := .int, accessFlags := 25, slot := 20, constantValue := 0 }]
  methods := #[k20m0]
  instanceTypes := #[]
  staticTypes := #[(.object "jdk/internal/misc/Unsafe"), .boolean, .int, .int, .int, .int, .int, .int, .int, .int, .int, .int, .int, .int, .int, .int, .int, .int, .int, (.object "jdk/internal/access/JavaLangAccess"), .int]
  resolved := Array.replicate 378 none
  statics := none }

/-- the primitive byte -/
def k21 : Class := { plain "byte" none with kind := .primitive 'B', accessFlags := 0x411 }
/-- [B -/
def k22 : Class := { plain "[B" (some 0) with kind := .array 21 .byte, interfaces := #[11, 2], accessFlags := 1041 }

/-- the primitive char -/
def k23 : Class := { plain "char" none with kind := .primitive 'C', accessFlags := 0x411 }
/-- [C -/
def k24 : Class := { plain "[C" (some 0) with kind := .array 23 .char, interfaces := #[11, 2], accessFlags := 1041 }

/-- the primitive int -/
def k25 : Class := { plain "int" none with kind := .primitive 'I', accessFlags := 0x411 }
/-- [I -/
def k26 : Class := { plain "[I" (some 0) with kind := .array 25 .int, interfaces := #[11, 2], accessFlags := 1041 }

/-- [Lcom/example/research_api_client/researchapiclient/lotus/LineCheck$Status; -/
def k27 : Class := { plain "[Lcom/example/research_api_client/researchapiclient/lotus/LineCheck$Status;" (some 0) with kind := .array 10 (.object "com/example/research_api_client/researchapiclient/lotus/LineCheck$Status"), interfaces := #[11, 2], accessFlags := 1041 }

def heap : Heap := #[{ cls := 7, slots := #[.long 0, .int 1, .null, .int 0, .null, .int 0, .int 0], vm := .statics 7 },
  { cls := 10, slots := #[.ref 4, .ref 5, .ref 6, .ref 3], vm := .statics 10 },
  { cls := 19, slots := #[.null, .null, .null], vm := .statics 19 },
  { cls := 27, slots := #[.ref 4, .ref 5, .ref 6], vm := .none },
  { cls := 10, slots := #[.null, .int 0, .int 0, .ref 7], vm := .none },
  { cls := 10, slots := #[.null, .int 0, .int 0, .ref 8], vm := .none },
  { cls := 10, slots := #[.null, .int 0, .int 0, .ref 9], vm := .none },
  { cls := 7, slots := #[.ref 10, .int 0, .int 0, .int 0], vm := .none },
  { cls := 7, slots := #[.ref 11, .int 0, .int 0, .int 0], vm := .none },
  { cls := 7, slots := #[.ref 12, .int 0, .int 0, .int 0], vm := .none },
  { cls := 22, slots := #[.int 102, .int 111, .int 117, .int 110, .int 100], vm := .none },
  { cls := 22, slots := #[.int 110, .int 111, .int 116, .int 70, .int 111, .int 117, .int 110, .int 100], vm := .none },
  { cls := 22, slots := #[.int 105, .int 110, .int 118, .int 97, .int 108, .int 105, .int 100], vm := .none }]
def classes : Array Class := #[k0, k1, k2, k3, k4, k5, k6, k7, k8, k9, k10, k11, k12, k13, k14, k15, k16, k17, k18, k19, k20, k21, k22, k23, k24, k25, k26, k27]
def interned : List (Array UInt16 × Addr) := []
def slotsUsed : Nat := 61
def theMethod : MethodId := ⟨1, 1⟩
def args0 : Array Value := #[.int 5, .int 7, .int 2, .int 9]
def aboutOver (below : List Frame) : State where
  vm := { classes := classes, interned := interned.toArray }
  heap := heap
  slotsUsed := slotsUsed
  threads := #[{ frames := .invoking theMethod args0 :: below }]
def below0 : List Frame := [.native { method := ⟨0, 0⟩, args := #[] }]
def about1 : State := aboutOver below0
def p0 : Program := .bare "" "" ""
def e0 : Env := launch0.env 0 0 0
theorem w_frames : about1.frames = Frame.invoking theMethod args0 :: below0 := rfl
set_option maxRecDepth 65536 in
theorem w_args : argsFit about1.vm theMethod args0 = true := by decide +kernel
set_option maxRecDepth 65536 in
theorem w_heap : heapFits about1 = true := by decide +kernel
set_option maxRecDepth 65536 in
theorem w_runnable : about1.curStatus? = some .runnable := by decide +kernel
set_option maxRecDepth 65536 in
theorem w_alone : about1.alone = true := by decide +kernel
set_option maxRecDepth 65536 in
theorem w_named : about1.methodNamed? x = some theMethod := by decide +kernel
set_option maxRecDepth 65536 in
theorem w_hears : about1.hears theMethod below0 = true := by decide +kernel
set_option maxRecDepth 65536 in
theorem w_ripe : about1.ripe theMethod args0 below0 = true := by decide +kernel
theorem w_running : about1.status = .running := rfl
set_option maxRecDepth 65536 in
theorem w_room : about1.hasRoom e0.platform room_1 = true :=
  launch0.hasRoom_least _ room_1 (by decide +kernel) (by decide +kernel) (by decide +kernel) (by decide +kernel) (by decide +kernel) (by decide +kernel)
theorem allAtoms_all (ts : List Jvm.Cond) (a : Array Jvm.Value) (st : Jvm.State) : (allAtoms ts).before a st = ts.all (fun c => c.before a st) := by
  induction ts with
  | nil => rfl
  | cons c t ih =>
    show (Jvm.Cond.and c (allAtoms t)).before a st = _
    rw [Jvm.Cond.before_and, ih, List.all_cons]
def words1 : List Jvm.Cond := Jvm.Cond.code x code maxLocals ret :: tables_1
/-- a 'code' word, met by the world's own term for the bytes: nothing is compared byte by byte -/
theorem code_word {y : MethodName} {bytes : ByteArray} {mx : Nat} {rt : Option FieldType} {a : Array Value} {s : State} {m : MethodId} {meth : Method} {c : Code} (h1 : s.methodNamed? y = some m) (h2 : s.vm.method? m = some meth) (h3 : meth.code = some c) (h4 : c.code = bytes)
    (h5 : (c.maxLocals == mx && c.exceptionTable.isEmpty && decide (c.maxStack ≤ mostOperands) && decide (meth.sig.returnType = rt) && !meth.locks && decide (parseMethodDescriptor y.desc = some meth.sig)) = true) : (Jvm.Cond.code y bytes mx rt).before a s = true := by
  simp only [Bool.and_eq_true, beq_iff_eq, Bool.not_eq_true', decide_eq_true_eq] at h5
  obtain ⟨⟨⟨⟨⟨g1, g2⟩, g3⟩, g4⟩, g5⟩, g6⟩ := h5
  simp [Cond.before, Cond.holds, Cond.value, h1, h2, h3, h4, g1, g2, g3, g4, g5, g6]
def isCode : Jvm.Cond → Bool
  | .code _ _ _ _ => true
  | _ => false
theorem all_split {L : List Jvm.Cond} {P : Jvm.Cond → Bool} (h1 : L.all (fun c => isCode c || P c) = true) (h2 : ∀ c ∈ L.filter isCode, P c = true) : L.all P = true := by
  refine List.all_eq_true.mpr fun c hc => ?_
  have h := List.all_eq_true.mp h1 c hc
  rcases Bool.eq_false_or_eq_true (isCode c) with hi | hi
  · exact h2 c (List.mem_filter.mpr ⟨hc, hi⟩)
  · simpa [hi] using h
set_option maxRecDepth 65536 in
theorem w_c0 : (Jvm.Cond.code x code maxLocals ret).before args0 about1 = true := code_word (m := ⟨1, 1⟩) (meth := k1m1) (c := k1c1) (by decide +kernel) rfl rfl rfl (by decide +kernel)
set_option maxRecDepth 65536 in
theorem w_c1 : (Jvm.Cond.code ({ cls := "com/example/research_api_client/researchapiclient/lotus/StatusOfMemberPinLaw", name := "appended", desc := "(IC)[C" } : Jvm.MethodName) method_6_code (2 : Nat) (Option.some (Jvm.ClassFile.FieldType.array Jvm.ClassFile.FieldType.char))).before args0 about1 = true := code_word (m := ⟨1, 5⟩) (meth := k1m5) (c := k1c5) (by decide +kernel) rfl rfl rfl (by decide +kernel)
set_option maxRecDepth 65536 in
theorem w_c2 : (Jvm.Cond.code ({ cls := "java/lang/String", name := "<init>", desc := "([C)V" } : Jvm.MethodName) jdk_42_method_3_code (2 : Nat) (Option.none : Option Jvm.ClassFile.FieldType)).before args0 about1 = true := code_word (m := ⟨7, 1⟩) (meth := k7m1) (c := k7c1) (by decide +kernel) rfl rfl rfl (by decide +kernel)
set_option maxRecDepth 65536 in
theorem w_c3 : (Jvm.Cond.code ({ cls := "java/lang/String", name := "<init>", desc := "([CIILjava/lang/Void;)V" } : Jvm.MethodName) jdk_42_method_149_code (6 : Nat) (Option.none : Option Jvm.ClassFile.FieldType)).before args0 about1 = true := code_word (m := ⟨7, 6⟩) (meth := k7m6) (c := k7c6) (by decide +kernel) rfl rfl rfl (by decide +kernel)
set_option maxRecDepth 65536 in
theorem w_c4 : (Jvm.Cond.code ({ cls := "java/lang/Object", name := "<init>", desc := "()V" } : Jvm.MethodName) object_method_1_code (1 : Nat) (Option.none : Option Jvm.ClassFile.FieldType)).before args0 about1 = true := code_word (m := ⟨0, 0⟩) (meth := k0m0) (c := k0c0) (by decide +kernel) rfl rfl rfl (by decide +kernel)
set_option maxRecDepth 65536 in
theorem w_c5 : (Jvm.Cond.code ({ cls := "java/lang/StringUTF16", name := "compress", desc := "([CII)[B" } : Jvm.MethodName) jdk_52_method_16_code (6 : Nat) (Option.some (Jvm.ClassFile.FieldType.array Jvm.ClassFile.FieldType.byte))).before args0 about1 = true := code_word (m := ⟨8, 2⟩) (meth := k8m2) (c := k8c2) (by decide +kernel) rfl rfl rfl (by decide +kernel)
set_option maxRecDepth 65536 in
theorem w_c6 : (Jvm.Cond.code ({ cls := "java/lang/StringUTF16", name := "compress", desc := "([CI[BII)I" } : Jvm.MethodName) jdk_52_method_21_code (7 : Nat) (Option.some Jvm.ClassFile.FieldType.int)).before args0 about1 = true := code_word (m := ⟨8, 3⟩) (meth := k8m3) (c := k8c3) (by decide +kernel) rfl rfl rfl (by decide +kernel)
set_option maxRecDepth 65536 in
theorem w_c7 : (Jvm.Cond.code ({ cls := "java/lang/StringUTF16", name := "coderFromArrayLen", desc := "([BI)B" } : Jvm.MethodName) jdk_52_method_15_code (2 : Nat) (Option.some Jvm.ClassFile.FieldType.byte)).before args0 about1 = true := code_word (m := ⟨8, 1⟩) (meth := k8m1) (c := k8c1) (by decide +kernel) rfl rfl rfl (by decide +kernel)
set_option maxRecDepth 65536 in
theorem w_c8 : (Jvm.Cond.code ({ cls := "com/example/research_api_client/researchapiclient/lotus/LineCheck$Status", name := "ofMember", desc := "(Ljava/lang/String;)Lcom/example/research_api_client/researchapiclient/lotus/LineCheck$Status;" } : Jvm.MethodName) prog_36_method_6_code (5 : Nat) (Option.some (Jvm.ClassFile.FieldType.object "com/example/research_api_client/researchapiclient/lotus/LineCheck$Status"))).before args0 about1 = true := code_word (m := ⟨10, 1⟩) (meth := k10m1) (c := k10c1) (by decide +kernel) rfl rfl rfl (by decide +kernel)
set_option maxRecDepth 65536 in
theorem w_c9 : (Jvm.Cond.code ({ cls := "com/example/research_api_client/researchapiclient/lotus/LineCheck$Status", name := "values", desc := "()[Lcom/example/research_api_client/researchapiclient/lotus/LineCheck$Status;" } : Jvm.MethodName) prog_36_method_1_code (0 : Nat) (Option.some (Jvm.ClassFile.FieldType.array (Jvm.ClassFile.FieldType.object "com/example/research_api_client/researchapiclient/lotus/LineCheck$Status")))).before args0 about1 = true := code_word (m := ⟨10, 0⟩) (meth := k10m0) (c := k10c0) (by decide +kernel) rfl rfl rfl (by decide +kernel)
set_option maxRecDepth 65536 in
theorem w_c10 : (Jvm.Cond.code ({ cls := "java/lang/StringBuilder", name := "<init>", desc := "()V" } : Jvm.MethodName) jdk_67_method_1_code (1 : Nat) (Option.none : Option Jvm.ClassFile.FieldType)).before args0 about1 = true := code_word (m := ⟨14, 0⟩) (meth := k14m0) (c := k14c0) (by decide +kernel) rfl rfl rfl (by decide +kernel)
set_option maxRecDepth 65536 in
theorem w_c11 : (Jvm.Cond.code ({ cls := "java/lang/AbstractStringBuilder", name := "<init>", desc := "(I)V" } : Jvm.MethodName) jdk_68_method_2_code (2 : Nat) (Option.none : Option Jvm.ClassFile.FieldType)).before args0 about1 = true := code_word (m := ⟨13, 1⟩) (meth := k13m1) (c := k13c1) (by decide +kernel) rfl rfl rfl (by decide +kernel)
set_option maxRecDepth 65536 in
theorem w_c12 : (Jvm.Cond.code ({ cls := "java/lang/StringBuilder", name := "append", desc := "(Ljava/lang/String;)Ljava/lang/StringBuilder;" } : Jvm.MethodName) jdk_67_method_7_code (2 : Nat) (Option.some (Jvm.ClassFile.FieldType.object "java/lang/StringBuilder"))).before args0 about1 = true := code_word (m := ⟨14, 1⟩) (meth := k14m1) (c := k14c1) (by decide +kernel) rfl rfl rfl (by decide +kernel)
set_option maxRecDepth 65536 in
theorem w_c13 : (Jvm.Cond.code ({ cls := "java/lang/AbstractStringBuilder", name := "append", desc := "(Ljava/lang/String;)Ljava/lang/AbstractStringBuilder;" } : Jvm.MethodName) jdk_68_method_22_code (3 : Nat) (Option.some (Jvm.ClassFile.FieldType.object "java/lang/AbstractStringBuilder"))).before args0 about1 = true := code_word (m := ⟨13, 4⟩) (meth := k13m4) (c := k13c4) (by decide +kernel) rfl rfl rfl (by decide +kernel)
set_option maxRecDepth 65536 in
theorem w_c14 : (Jvm.Cond.code ({ cls := "java/lang/String", name := "length", desc := "()I" } : Jvm.MethodName) jdk_42_method_54_code (1 : Nat) (Option.some Jvm.ClassFile.FieldType.int)).before args0 about1 = true := code_word (m := ⟨7, 3⟩) (meth := k7m3) (c := k7c3) (by decide +kernel) rfl rfl rfl (by decide +kernel)
set_option maxRecDepth 65536 in
theorem w_c15 : (Jvm.Cond.code ({ cls := "java/lang/String", name := "coder", desc := "()B" } : Jvm.MethodName) jdk_42_method_152_code (1 : Nat) (Option.some Jvm.ClassFile.FieldType.byte)).before args0 about1 = true := code_word (m := ⟨7, 8⟩) (meth := k7m8) (c := k7c8) (by decide +kernel) rfl rfl rfl (by decide +kernel)
set_option maxRecDepth 65536 in
theorem w_c16 : (Jvm.Cond.code ({ cls := "java/lang/AbstractStringBuilder", name := "ensureCapacityInternal", desc := "(I)V" } : Jvm.MethodName) jdk_68_method_9_code (3 : Nat) (Option.none : Option Jvm.ClassFile.FieldType)).before args0 about1 = true := code_word (m := ⟨13, 3⟩) (meth := k13m3) (c := k13c3) (by decide +kernel) rfl rfl rfl (by decide +kernel)
set_option maxRecDepth 65536 in
theorem w_c17 : (Jvm.Cond.code ({ cls := "java/lang/AbstractStringBuilder", name := "putStringAt", desc := "(ILjava/lang/String;)V" } : Jvm.MethodName) jdk_68_method_73_code (3 : Nat) (Option.none : Option Jvm.ClassFile.FieldType)).before args0 about1 = true := code_word (m := ⟨13, 8⟩) (meth := k13m8) (c := k13c8) (by decide +kernel) rfl rfl rfl (by decide +kernel)
set_option maxRecDepth 65536 in
theorem w_c18 : (Jvm.Cond.code ({ cls := "java/lang/AbstractStringBuilder", name := "inflateIfNeededFor", desc := "(Ljava/lang/String;)V" } : Jvm.MethodName) jdk_68_method_71_code (2 : Nat) (Option.none : Option Jvm.ClassFile.FieldType)).before args0 about1 = true := code_word (m := ⟨13, 7⟩) (meth := k13m7) (c := k13c7) (by decide +kernel) rfl rfl rfl (by decide +kernel)
set_option maxRecDepth 65536 in
theorem w_c19 : (Jvm.Cond.code ({ cls := "java/lang/String", name := "getBytes", desc := "([BIB)V" } : Jvm.MethodName) jdk_42_method_147_code (4 : Nat) (Option.none : Option Jvm.ClassFile.FieldType)).before args0 about1 = true := code_word (m := ⟨7, 5⟩) (meth := k7m5) (c := k7c5) (by decide +kernel) rfl rfl rfl (by decide +kernel)
set_option maxRecDepth 65536 in
theorem w_c20 : (Jvm.Cond.code ({ cls := "java/lang/StringBuilder", name := "toString", desc := "()Ljava/lang/String;" } : Jvm.MethodName) jdk_67_method_42_code (1 : Nat) (Option.some (Jvm.ClassFile.FieldType.object "java/lang/String"))).before args0 about1 = true := code_word (m := ⟨14, 2⟩) (meth := k14m2) (c := k14c2) (by decide +kernel) rfl rfl rfl (by decide +kernel)
set_option maxRecDepth 65536 in
theorem w_c21 : (Jvm.Cond.code ({ cls := "java/lang/String", name := "<init>", desc := "(Ljava/lang/StringBuilder;)V" } : Jvm.MethodName) jdk_42_method_53_code (2 : Nat) (Option.none : Option Jvm.ClassFile.FieldType)).before args0 about1 = true := code_word (m := ⟨7, 2⟩) (meth := k7m2) (c := k7c2) (by decide +kernel) rfl rfl rfl (by decide +kernel)
set_option maxRecDepth 65536 in
theorem w_c22 : (Jvm.Cond.code ({ cls := "java/lang/String", name := "<init>", desc := "(Ljava/lang/AbstractStringBuilder;Ljava/lang/Void;)V" } : Jvm.MethodName) jdk_42_method_150_code (5 : Nat) (Option.none : Option Jvm.ClassFile.FieldType)).before args0 about1 = true := code_word (m := ⟨7, 7⟩) (meth := k7m7) (c := k7c7) (by decide +kernel) rfl rfl rfl (by decide +kernel)
set_option maxRecDepth 65536 in
theorem w_c23 : (Jvm.Cond.code ({ cls := "java/lang/AbstractStringBuilder", name := "getValue", desc := "()[B" } : Jvm.MethodName) jdk_68_method_64_code (1 : Nat) (Option.some (Jvm.ClassFile.FieldType.array Jvm.ClassFile.FieldType.byte))).before args0 about1 = true := code_word (m := ⟨13, 5⟩) (meth := k13m5) (c := k13c5) (by decide +kernel) rfl rfl rfl (by decide +kernel)
set_option maxRecDepth 65536 in
theorem w_c24 : (Jvm.Cond.code ({ cls := "java/lang/StringBuilder", name := "length", desc := "()I" } : Jvm.MethodName) jdk_67_method_93_code (1 : Nat) (Option.some Jvm.ClassFile.FieldType.int)).before args0 about1 = true := code_word (m := ⟨14, 3⟩) (meth := k14m3) (c := k14c3) (by decide +kernel) rfl rfl rfl (by decide +kernel)
set_option maxRecDepth 65536 in
theorem w_c25 : (Jvm.Cond.code ({ cls := "java/lang/AbstractStringBuilder", name := "length", desc := "()I" } : Jvm.MethodName) jdk_68_method_6_code (1 : Nat) (Option.some Jvm.ClassFile.FieldType.int)).before args0 about1 = true := code_word (m := ⟨13, 2⟩) (meth := k13m2) (c := k13c2) (by decide +kernel) rfl rfl rfl (by decide +kernel)
set_option maxRecDepth 65536 in
theorem w_c26 : (Jvm.Cond.code ({ cls := "java/lang/AbstractStringBuilder", name := "isLatin1", desc := "()Z" } : Jvm.MethodName) jdk_68_method_68_code (1 : Nat) (Option.some Jvm.ClassFile.FieldType.boolean)).before args0 about1 = true := code_word (m := ⟨13, 6⟩) (meth := k13m6) (c := k13c6) (by decide +kernel) rfl rfl rfl (by decide +kernel)
set_option maxRecDepth 65536 in
theorem w_c27 : (Jvm.Cond.code ({ cls := "java/util/Arrays", name := "copyOfRange", desc := "([BII)[B" } : Jvm.MethodName) jdk_65_method_132_code (3 : Nat) (Option.some (Jvm.ClassFile.FieldType.array Jvm.ClassFile.FieldType.byte))).before args0 about1 = true := code_word (m := ⟨16, 2⟩) (meth := k16m2) (c := k16c2) (by decide +kernel) rfl rfl rfl (by decide +kernel)
set_option maxRecDepth 65536 in
theorem w_c28 : (Jvm.Cond.code ({ cls := "java/util/Arrays", name := "copyOfRangeByte", desc := "([BII)[B" } : Jvm.MethodName) jdk_65_method_133_code (5 : Nat) (Option.some (Jvm.ClassFile.FieldType.array Jvm.ClassFile.FieldType.byte))).before args0 about1 = true := code_word (m := ⟨16, 3⟩) (meth := k16m3) (c := k16c3) (by decide +kernel) rfl rfl rfl (by decide +kernel)
set_option maxRecDepth 65536 in
theorem w_c29 : (Jvm.Cond.code ({ cls := "java/util/Arrays", name := "checkLength", desc := "(II)V" } : Jvm.MethodName) jdk_65_method_131_code (2 : Nat) (Option.none : Option Jvm.ClassFile.FieldType)).before args0 about1 = true := code_word (m := ⟨16, 1⟩) (meth := k16m1) (c := k16c1) (by decide +kernel) rfl rfl rfl (by decide +kernel)
set_option maxRecDepth 65536 in
theorem w_c30 : (Jvm.Cond.code ({ cls := "java/lang/Math", name := "min", desc := "(II)I" } : Jvm.MethodName) jdk_29_method_69_code (2 : Nat) (Option.some Jvm.ClassFile.FieldType.int)).before args0 about1 = true := code_word (m := ⟨17, 1⟩) (meth := k17m1) (c := k17c1) (by decide +kernel) rfl rfl rfl (by decide +kernel)
set_option maxRecDepth 65536 in
theorem w_c31 : (Jvm.Cond.code ({ cls := "java/lang/String", name := "equals", desc := "(Ljava/lang/Object;)Z" } : Jvm.MethodName) jdk_42_method_66_code (3 : Nat) (Option.some Jvm.ClassFile.FieldType.boolean)).before args0 about1 = true := code_word (m := ⟨7, 4⟩) (meth := k7m4) (c := k7c4) (by decide +kernel) rfl rfl rfl (by decide +kernel)
set_option maxRecDepth 65536 in
theorem w_c32 : (Jvm.Cond.code ({ cls := "java/lang/StringLatin1", name := "equals", desc := "([B[B)Z" } : Jvm.MethodName) jdk_43_method_13_code (3 : Nat) (Option.some Jvm.ClassFile.FieldType.boolean)).before args0 about1 = true := code_word (m := ⟨18, 1⟩) (meth := k18m1) (c := k18c1) (by decide +kernel) rfl rfl rfl (by decide +kernel)
set_option maxRecDepth 65536 in
theorem w_c33 : (Jvm.Cond.code ({ cls := "com/example/research_api_client/researchapiclient/lotus/StatusOfMemberPinLaw", name := "expected", desc := "(Ljava/lang/String;)Lcom/example/research_api_client/researchapiclient/lotus/LineCheck$Status;" } : Jvm.MethodName) method_3_code (1 : Nat) (Option.some (Jvm.ClassFile.FieldType.object "com/example/research_api_client/researchapiclient/lotus/LineCheck$Status"))).before args0 about1 = true := code_word (m := ⟨1, 2⟩) (meth := k1m2) (c := k1c2) (by decide +kernel) rfl rfl rfl (by decide +kernel)
set_option maxRecDepth 65536 in
theorem w_c34 : (Jvm.Cond.code ({ cls := "com/example/research_api_client/researchapiclient/lotus/StatusOfMemberPinLaw", name := "full", desc := "(I)[C" } : Jvm.MethodName) method_4_code (1 : Nat) (Option.some (Jvm.ClassFile.FieldType.array Jvm.ClassFile.FieldType.char))).before args0 about1 = true := code_word (m := ⟨1, 3⟩) (meth := k1m3) (c := k1c3) (by decide +kernel) rfl rfl rfl (by decide +kernel)
set_option maxRecDepth 65536 in
theorem w_c35 : (Jvm.Cond.code ({ cls := "com/example/research_api_client/researchapiclient/lotus/StatusOfMemberPinLaw", name := "bare", desc := "(I)[C" } : Jvm.MethodName) method_7_code (1 : Nat) (Option.some (Jvm.ClassFile.FieldType.array Jvm.ClassFile.FieldType.char))).before args0 about1 = true := code_word (m := ⟨1, 6⟩) (meth := k1m6) (c := k1c6) (by decide +kernel) rfl rfl rfl (by decide +kernel)
set_option maxRecDepth 65536 in
theorem w_c36 : (Jvm.Cond.code ({ cls := "com/example/research_api_client/researchapiclient/lotus/StatusOfMemberPinLaw", name := "dropLast", desc := "(I)[C" } : Jvm.MethodName) method_5_code (1 : Nat) (Option.some (Jvm.ClassFile.FieldType.array Jvm.ClassFile.FieldType.char))).before args0 about1 = true := code_word (m := ⟨1, 4⟩) (meth := k1m4) (c := k1c4) (by decide +kernel) rfl rfl rfl (by decide +kernel)
set_option maxRecDepth 65536 in
theorem w_c37 : (Jvm.Cond.code ({ cls := "com/example/research_api_client/researchapiclient/lotus/StatusOfMemberPinLaw", name := "shortDrawn", desc := "(ICCC)[C" } : Jvm.MethodName) method_8_code (4 : Nat) (Option.some (Jvm.ClassFile.FieldType.array Jvm.ClassFile.FieldType.char))).before args0 about1 = true := code_word (m := ⟨1, 7⟩) (meth := k1m7) (c := k1c7) (by decide +kernel) rfl rfl rfl (by decide +kernel)
def codes1 : List Jvm.Cond := [Jvm.Cond.code x code maxLocals ret, Jvm.Cond.code ({ cls := "com/example/research_api_client/researchapiclient/lotus/StatusOfMemberPinLaw", name := "appended", desc := "(IC)[C" } : Jvm.MethodName) method_6_code (2 : Nat) (Option.some (Jvm.ClassFile.FieldType.array Jvm.ClassFile.FieldType.char)), Jvm.Cond.code ({ cls := "java/lang/String", name := "<init>", desc := "([C)V" } : Jvm.MethodName) jdk_42_method_3_code (2 : Nat) (Option.none : Option Jvm.ClassFile.FieldType), Jvm.Cond.code ({ cls := "java/lang/String", name := "<init>", desc := "([CIILjava/lang/Void;)V" } : Jvm.MethodName) jdk_42_method_149_code (6 : Nat) (Option.none : Option Jvm.ClassFile.FieldType), Jvm.Cond.code ({ cls := "java/lang/Object", name := "<init>", desc := "()V" } : Jvm.MethodName) object_method_1_code (1 : Nat) (Option.none : Option Jvm.ClassFile.FieldType), Jvm.Cond.code ({ cls := "java/lang/StringUTF16", name := "compress", desc := "([CII)[B" } : Jvm.MethodName) jdk_52_method_16_code (6 : Nat) (Option.some (Jvm.ClassFile.FieldType.array Jvm.ClassFile.FieldType.byte)), Jvm.Cond.code ({ cls := "java/lang/StringUTF16", name := "compress", desc := "([CI[BII)I" } : Jvm.MethodName) jdk_52_method_21_code (7 : Nat) (Option.some Jvm.ClassFile.FieldType.int), Jvm.Cond.code ({ cls := "java/lang/StringUTF16", name := "coderFromArrayLen", desc := "([BI)B" } : Jvm.MethodName) jdk_52_method_15_code (2 : Nat) (Option.some Jvm.ClassFile.FieldType.byte), Jvm.Cond.code ({ cls := "com/example/research_api_client/researchapiclient/lotus/LineCheck$Status", name := "ofMember", desc := "(Ljava/lang/String;)Lcom/example/research_api_client/researchapiclient/lotus/LineCheck$Status;" } : Jvm.MethodName) prog_36_method_6_code (5 : Nat) (Option.some (Jvm.ClassFile.FieldType.object "com/example/research_api_client/researchapiclient/lotus/LineCheck$Status")), Jvm.Cond.code ({ cls := "com/example/research_api_client/researchapiclient/lotus/LineCheck$Status", name := "values", desc := "()[Lcom/example/research_api_client/researchapiclient/lotus/LineCheck$Status;" } : Jvm.MethodName) prog_36_method_1_code (0 : Nat) (Option.some (Jvm.ClassFile.FieldType.array (Jvm.ClassFile.FieldType.object "com/example/research_api_client/researchapiclient/lotus/LineCheck$Status"))), Jvm.Cond.code ({ cls := "java/lang/StringBuilder", name := "<init>", desc := "()V" } : Jvm.MethodName) jdk_67_method_1_code (1 : Nat) (Option.none : Option Jvm.ClassFile.FieldType), Jvm.Cond.code ({ cls := "java/lang/AbstractStringBuilder", name := "<init>", desc := "(I)V" } : Jvm.MethodName) jdk_68_method_2_code (2 : Nat) (Option.none : Option Jvm.ClassFile.FieldType), Jvm.Cond.code ({ cls := "java/lang/StringBuilder", name := "append", desc := "(Ljava/lang/String;)Ljava/lang/StringBuilder;" } : Jvm.MethodName) jdk_67_method_7_code (2 : Nat) (Option.some (Jvm.ClassFile.FieldType.object "java/lang/StringBuilder")), Jvm.Cond.code ({ cls := "java/lang/AbstractStringBuilder", name := "append", desc := "(Ljava/lang/String;)Ljava/lang/AbstractStringBuilder;" } : Jvm.MethodName) jdk_68_method_22_code (3 : Nat) (Option.some (Jvm.ClassFile.FieldType.object "java/lang/AbstractStringBuilder")), Jvm.Cond.code ({ cls := "java/lang/String", name := "length", desc := "()I" } : Jvm.MethodName) jdk_42_method_54_code (1 : Nat) (Option.some Jvm.ClassFile.FieldType.int), Jvm.Cond.code ({ cls := "java/lang/String", name := "coder", desc := "()B" } : Jvm.MethodName) jdk_42_method_152_code (1 : Nat) (Option.some Jvm.ClassFile.FieldType.byte), Jvm.Cond.code ({ cls := "java/lang/AbstractStringBuilder", name := "ensureCapacityInternal", desc := "(I)V" } : Jvm.MethodName) jdk_68_method_9_code (3 : Nat) (Option.none : Option Jvm.ClassFile.FieldType), Jvm.Cond.code ({ cls := "java/lang/AbstractStringBuilder", name := "putStringAt", desc := "(ILjava/lang/String;)V" } : Jvm.MethodName) jdk_68_method_73_code (3 : Nat) (Option.none : Option Jvm.ClassFile.FieldType), Jvm.Cond.code ({ cls := "java/lang/AbstractStringBuilder", name := "inflateIfNeededFor", desc := "(Ljava/lang/String;)V" } : Jvm.MethodName) jdk_68_method_71_code (2 : Nat) (Option.none : Option Jvm.ClassFile.FieldType), Jvm.Cond.code ({ cls := "java/lang/String", name := "getBytes", desc := "([BIB)V" } : Jvm.MethodName) jdk_42_method_147_code (4 : Nat) (Option.none : Option Jvm.ClassFile.FieldType), Jvm.Cond.code ({ cls := "java/lang/StringBuilder", name := "toString", desc := "()Ljava/lang/String;" } : Jvm.MethodName) jdk_67_method_42_code (1 : Nat) (Option.some (Jvm.ClassFile.FieldType.object "java/lang/String")), Jvm.Cond.code ({ cls := "java/lang/String", name := "<init>", desc := "(Ljava/lang/StringBuilder;)V" } : Jvm.MethodName) jdk_42_method_53_code (2 : Nat) (Option.none : Option Jvm.ClassFile.FieldType), Jvm.Cond.code ({ cls := "java/lang/String", name := "<init>", desc := "(Ljava/lang/AbstractStringBuilder;Ljava/lang/Void;)V" } : Jvm.MethodName) jdk_42_method_150_code (5 : Nat) (Option.none : Option Jvm.ClassFile.FieldType), Jvm.Cond.code ({ cls := "java/lang/AbstractStringBuilder", name := "getValue", desc := "()[B" } : Jvm.MethodName) jdk_68_method_64_code (1 : Nat) (Option.some (Jvm.ClassFile.FieldType.array Jvm.ClassFile.FieldType.byte)), Jvm.Cond.code ({ cls := "java/lang/StringBuilder", name := "length", desc := "()I" } : Jvm.MethodName) jdk_67_method_93_code (1 : Nat) (Option.some Jvm.ClassFile.FieldType.int), Jvm.Cond.code ({ cls := "java/lang/AbstractStringBuilder", name := "length", desc := "()I" } : Jvm.MethodName) jdk_68_method_6_code (1 : Nat) (Option.some Jvm.ClassFile.FieldType.int), Jvm.Cond.code ({ cls := "java/lang/AbstractStringBuilder", name := "isLatin1", desc := "()Z" } : Jvm.MethodName) jdk_68_method_68_code (1 : Nat) (Option.some Jvm.ClassFile.FieldType.boolean), Jvm.Cond.code ({ cls := "java/util/Arrays", name := "copyOfRange", desc := "([BII)[B" } : Jvm.MethodName) jdk_65_method_132_code (3 : Nat) (Option.some (Jvm.ClassFile.FieldType.array Jvm.ClassFile.FieldType.byte)), Jvm.Cond.code ({ cls := "java/util/Arrays", name := "copyOfRangeByte", desc := "([BII)[B" } : Jvm.MethodName) jdk_65_method_133_code (5 : Nat) (Option.some (Jvm.ClassFile.FieldType.array Jvm.ClassFile.FieldType.byte)), Jvm.Cond.code ({ cls := "java/util/Arrays", name := "checkLength", desc := "(II)V" } : Jvm.MethodName) jdk_65_method_131_code (2 : Nat) (Option.none : Option Jvm.ClassFile.FieldType), Jvm.Cond.code ({ cls := "java/lang/Math", name := "min", desc := "(II)I" } : Jvm.MethodName) jdk_29_method_69_code (2 : Nat) (Option.some Jvm.ClassFile.FieldType.int), Jvm.Cond.code ({ cls := "java/lang/String", name := "equals", desc := "(Ljava/lang/Object;)Z" } : Jvm.MethodName) jdk_42_method_66_code (3 : Nat) (Option.some Jvm.ClassFile.FieldType.boolean), Jvm.Cond.code ({ cls := "java/lang/StringLatin1", name := "equals", desc := "([B[B)Z" } : Jvm.MethodName) jdk_43_method_13_code (3 : Nat) (Option.some Jvm.ClassFile.FieldType.boolean), Jvm.Cond.code ({ cls := "com/example/research_api_client/researchapiclient/lotus/StatusOfMemberPinLaw", name := "expected", desc := "(Ljava/lang/String;)Lcom/example/research_api_client/researchapiclient/lotus/LineCheck$Status;" } : Jvm.MethodName) method_3_code (1 : Nat) (Option.some (Jvm.ClassFile.FieldType.object "com/example/research_api_client/researchapiclient/lotus/LineCheck$Status")), Jvm.Cond.code ({ cls := "com/example/research_api_client/researchapiclient/lotus/StatusOfMemberPinLaw", name := "full", desc := "(I)[C" } : Jvm.MethodName) method_4_code (1 : Nat) (Option.some (Jvm.ClassFile.FieldType.array Jvm.ClassFile.FieldType.char)), Jvm.Cond.code ({ cls := "com/example/research_api_client/researchapiclient/lotus/StatusOfMemberPinLaw", name := "bare", desc := "(I)[C" } : Jvm.MethodName) method_7_code (1 : Nat) (Option.some (Jvm.ClassFile.FieldType.array Jvm.ClassFile.FieldType.char)), Jvm.Cond.code ({ cls := "com/example/research_api_client/researchapiclient/lotus/StatusOfMemberPinLaw", name := "dropLast", desc := "(I)[C" } : Jvm.MethodName) method_5_code (1 : Nat) (Option.some (Jvm.ClassFile.FieldType.array Jvm.ClassFile.FieldType.char)), Jvm.Cond.code ({ cls := "com/example/research_api_client/researchapiclient/lotus/StatusOfMemberPinLaw", name := "shortDrawn", desc := "(ICCC)[C" } : Jvm.MethodName) method_8_code (4 : Nat) (Option.some (Jvm.ClassFile.FieldType.array Jvm.ClassFile.FieldType.char))]
set_option maxRecDepth 65536 in
theorem codes_eq : words1.filter isCode = codes1 := rfl
theorem w_codes : ∀ c ∈ words1.filter isCode, c.before args0 about1 = true := by
  rw [codes_eq]
  intro c hc
  simp only [codes1, List.mem_cons, List.not_mem_nil, or_false] at hc
  rcases hc with rfl | rfl | rfl | rfl | rfl | rfl | rfl | rfl | rfl | rfl | rfl | rfl | rfl | rfl | rfl | rfl | rfl | rfl | rfl | rfl | rfl | rfl | rfl | rfl | rfl | rfl | rfl | rfl | rfl | rfl | rfl | rfl | rfl | rfl | rfl | rfl | rfl | rfl
  · exact w_c0
  · exact w_c1
  · exact w_c2
  · exact w_c3
  · exact w_c4
  · exact w_c5
  · exact w_c6
  · exact w_c7
  · exact w_c8
  · exact w_c9
  · exact w_c10
  · exact w_c11
  · exact w_c12
  · exact w_c13
  · exact w_c14
  · exact w_c15
  · exact w_c16
  · exact w_c17
  · exact w_c18
  · exact w_c19
  · exact w_c20
  · exact w_c21
  · exact w_c22
  · exact w_c23
  · exact w_c24
  · exact w_c25
  · exact w_c26
  · exact w_c27
  · exact w_c28
  · exact w_c29
  · exact w_c30
  · exact w_c31
  · exact w_c32
  · exact w_c33
  · exact w_c34
  · exact w_c35
  · exact w_c36
  · exact w_c37
set_option maxRecDepth 65536 in
theorem w_t1 : (words1.take 24).all (fun c => isCode c || c.before args0 about1) = true := by decide +kernel
set_option maxRecDepth 65536 in
theorem w_t2 : ((words1.drop 24).take 24).all (fun c => isCode c || c.before args0 about1) = true := by decide +kernel
set_option maxRecDepth 65536 in
theorem w_t3 : (((words1.drop 24).drop 24).take 24).all (fun c => isCode c || c.before args0 about1) = true := by decide +kernel
set_option maxRecDepth 65536 in
theorem w_t4 : ((((words1.drop 24).drop 24).drop 24).take 24).all (fun c => isCode c || c.before args0 about1) = true := by decide +kernel
set_option maxRecDepth 65536 in
theorem w_t5 : (((((words1.drop 24).drop 24).drop 24).drop 24).take 24).all (fun c => isCode c || c.before args0 about1) = true := by decide +kernel
set_option maxRecDepth 65536 in
theorem w_t6 : ((((((words1.drop 24).drop 24).drop 24).drop 24).drop 24).take 24).all (fun c => isCode c || c.before args0 about1) = true := by decide +kernel
set_option maxRecDepth 65536 in
theorem w_t7 : (((((((words1.drop 24).drop 24).drop 24).drop 24).drop 24).drop 24).take 24).all (fun c => isCode c || c.before args0 about1) = true := by decide +kernel
set_option maxRecDepth 65536 in
theorem w_t8 : ((((((((words1.drop 24).drop 24).drop 24).drop 24).drop 24).drop 24).drop 24).take 24).all (fun c => isCode c || c.before args0 about1) = true := by decide +kernel
set_option maxRecDepth 65536 in
theorem w_t9 : ((((((((words1.drop 24).drop 24).drop 24).drop 24).drop 24).drop 24).drop 24).drop 24).all (fun c => isCode c || c.before args0 about1) = true := by decide +kernel
theorem w_tables : (allAtoms (Jvm.Cond.code x code maxLocals ret :: tables_1)).before args0 about1 = true := by
  rw [allAtoms_all]
  show words1.all (fun c => c.before args0 about1) = true
  refine all_split ?_ w_codes
  rw [← List.take_append_drop 24 words1, List.all_append, w_t1, ← List.take_append_drop 24 (words1.drop 24), List.all_append, w_t2, ← List.take_append_drop 24 ((words1.drop 24).drop 24), List.all_append, w_t3, ← List.take_append_drop 24 (((words1.drop 24).drop 24).drop 24), List.all_append, w_t4, ← List.take_append_drop 24 ((((words1.drop 24).drop 24).drop 24).drop 24), List.all_append, w_t5, ← List.take_append_drop 24 (((((words1.drop 24).drop 24).drop 24).drop 24).drop 24), List.all_append, w_t6, ← List.take_append_drop 24 ((((((words1.drop 24).drop 24).drop 24).drop 24).drop 24).drop 24), List.all_append, w_t7, ← List.take_append_drop 24 (((((((words1.drop 24).drop 24).drop 24).drop 24).drop 24).drop 24).drop 24), List.all_append, w_t8, w_t9]
  rfl
set_option maxRecDepth 65536 in
theorem w_rest : rest_1_c.before args0 about1 = true := by decide +kernel
set_option maxRecDepth 65536 in
theorem w_case : (Jvm.Cond.and given_1 narrow_1).before args0 about1 = true := by decide +kernel
set_option maxRecDepth 65536 in
theorem w_consts : constsHeld consts_1 about1 := Jvm.Lit.constsHeldB_iff.mp (by decide +kernel)
theorem w_applies : (headSpec (Jvm.Cond.code x code maxLocals ret :: tables_1) room_1).applies x e0.platform about1 = true :=
  (Spec.applies_iff w_frames).mpr ⟨w_running, w_runnable, w_alone, w_named, w_hears, w_ripe, w_room, w_tables⟩
theorem atStart : AtStart classFile x code maxLocals ret World_1 tables_1 room_1 Calls_1 rest_1 Pre_1 launch0 p0 e0 about1 theMethod args0 below0 :=
  ⟨lists_1, trivial, launch0.admits_env _ _ _, launch0.least_env, fairChoices_fair.cas, fairChoices_fair.clock, w_frames, w_args, w_heap, w_applies, ⟨w_consts, trivial⟩, w_rest, w_case⟩
end start1
theorem witness_1 : WitnessClaimed_1 := ⟨start1.p0, start1.e0, start1.about1, start1.theMethod, start1.args0, start1.below0, start1.atStart⟩
end Jvm.Pilot.@@N@@
