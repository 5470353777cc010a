import JvmDerived
import JvmDerived.Pilot.@@N@@Statement
import JvmDerived.Pilot.@@N@@Code
set_option linter.unusedVariables false
set_option linter.unusedSimpArgs false
/- laws to paste: Road.backV (cut by pick.py; bodies as the Statement names them) -/
namespace Jvm.Pilot.@@N@@
namespace StrChars
open Jvm Sem ClassFile Op Lib Jvm.Stand Jvm.Free.XT Jvm.Free.ALB Jvm.Free.JM Jvm.Free
open Jvm.Lib.Cold (StaticIs)
/-- a char array whose places are chars -/
def Ch (a : Addr) (A : Cell) (U : State) : Prop := Arr .char a A U ∧ Typed .char A
theorem Ch.mv {a : Addr} {A : Cell} {U U' : State} (h : Ch a A U) (hal : U.vm.Alike U'.vm) (hh : U'.heap = U.heap) : Ch a A U' := ⟨h.1.mv hal hh, h.2⟩
theorem Ch.keep {a : Addr} {A : Cell} {U U' : State} (h : Ch a A U) (hal : U.vm.Alike U'.vm) (hk : U'.heap[a]? = some A) : Ch a A U' := ⟨h.1.keep hal hk, h.2⟩
/-- what place i of a char[]'s cell holds -/
def cv (A : Cell) (i : Nat) : Int32 := match A.slots[i]? with | some (.int x) => x | _ => 0
theorem Ch.get {a : Addr} {A : Cell} {U : State} (h : Ch a A U) {i : Nat} (hi : i < A.slots.size) : A.slots[i]? = some (.int (cv A i)) := by
  have e := Array.getElem?_eq_getElem hi
  have f := h.2 i _ e
  unfold cv; rw [e]
  generalize A.slots[i] = v at f
  cases v <;> simp [fits] at f ⊢
/-- the byte that i2b leaves of a char -/
def lo8 (x : Int32) : Int32 := x.toInt8.toInt32
theorem fits_lo8 (y : Int32) : fits .byte (.int (lo8 y)) = true := by
  have h1 := y.toInt8.le_toInt
  have h2 := y.toInt8.toInt_lt
  simp only [lo8, fits, Bool.and_eq_true, decide_eq_true_eq, Int32.le_iff_toInt_le, Int8.toInt_toInt32, show (-128 : Int32).toInt = -128 from by decide, show (127 : Int32).toInt = 127 from by decide]
  omega
/-- A' is A but that each place j of lo .. hi - 1 holds f j -/
def Laid (A A' : Cell) (lo hi : Nat) (f : Nat → Value) : Prop := A'.cls = A.cls ∧ A'.vm = A.vm ∧ A'.slots.size = A.slots.size ∧ ∀ i, A'.slots[i]? = if lo ≤ i ∧ i < hi then some (f i) else A.slots[i]?
theorem Laid.zero (A : Cell) (lo : Nat) (f : Nat → Value) : Laid A A lo (lo + 0) f := ⟨rfl, rfl, rfl, fun i => by rw [if_neg (by omega)]⟩
theorem Laid.step {A Ak : Cell} {lo k : Nat} {f : Nat → Value} {v : Value} (h : Laid A Ak lo k f) (hlo : lo ≤ k) (hk : k < Ak.slots.size) (hv : v = f k) : Laid A (Ak.setSlot k v) lo (k + 1) f := by
  refine ⟨h.1, h.2.1, by simpa [Cell.setSlot] using h.2.2.1, fun i => ?_⟩
  by_cases e : k = i
  · subst e; rw [Cell.slots_setSlot_self v hk, if_pos (by omega), hv]
  · rw [Cell.slots_setSlot_ne v e, h.2.2.2 i]
    by_cases q : lo ≤ i ∧ i < k
    · rw [if_pos q, if_pos (by omega)]
    · rw [if_neg q, if_neg (by omega)]
def U16 : String := "java/lang/StringUTF16"
namespace Cmp5
def yN : MethodName := ⟨"java/lang/StringUTF16", "compress", "([CI[BII)I"⟩
abbrev yB : ByteArray := jdk_52_method_21_code
theorem d0 : decode yB 0 = .ok (.iconst 0, 1) := by decide +kernel
theorem d1 : decode yB 1 = .ok (.istore 5, 2) := by decide +kernel
theorem d3 : decode yB 3 = .ok (.iload 5, 2) := by decide +kernel
theorem d5 : decode yB 5 = .ok (.iload 4, 2) := by decide +kernel
theorem d7 : decode yB 7 = .ok (.if_icmp (.ge) 37, 3) := by decide +kernel
theorem d10 : decode yB 10 = .ok (.aload_n 0, 1) := by decide +kernel
theorem d11 : decode yB 11 = .ok (.iload_n 1, 1) := by decide +kernel
theorem d12 : decode yB 12 = .ok (.caload, 1) := by decide +kernel
theorem d13 : decode yB 13 = .ok (.istore 6, 2) := by decide +kernel
theorem d15 : decode yB 15 = .ok (.iload 6, 2) := by decide +kernel
theorem d17 : decode yB 17 = .ok (.sipush 255, 3) := by decide +kernel
theorem d20 : decode yB 20 = .ok (.if_icmp (.le) 6, 3) := by decide +kernel
theorem d26 : decode yB 26 = .ok (.aload_n 2, 1) := by decide +kernel
theorem d27 : decode yB 27 = .ok (.iload_n 3, 1) := by decide +kernel
theorem d28 : decode yB 28 = .ok (.iload 6, 2) := by decide +kernel
theorem d30 : decode yB 30 = .ok (.i2b, 1) := by decide +kernel
theorem d31 : decode yB 31 = .ok (.bastore, 1) := by decide +kernel
theorem d32 : decode yB 32 = .ok (.iinc 1 1, 3) := by decide +kernel
theorem d35 : decode yB 35 = .ok (.iinc 3 1, 3) := by decide +kernel
theorem d38 : decode yB 38 = .ok (.iinc 5 1, 3) := by decide +kernel
theorem d41 : decode yB 41 = .ok (.goto (-38), 3) := by decide +kernel
theorem d44 : decode yB 44 = .ok (.iload 4, 2) := by decide +kernel
theorem d46 : decode yB 46 = .ok (.ireturn, 1) := by decide +kernel
def site : List Cond := []
def tab : Cond := tabOf yN yB 7 (some .int) site
def P (b : Addr) (A : Cell) (d : Addr) (B : Cell) (o q len : Nat) (args : Array Value) (s : State) : Prop := args = #[.ref b, .int (Int32.ofNat o), .ref d, .int (Int32.ofNat q), .int (Int32.ofNat len)] ∧ Ch b A s ∧ Arr .byte d B s ∧ b ≠ d ∧ o + len ≤ A.slots.size ∧ q + len ≤ B.slots.size ∧ ∀ i, i < len → ¬ 255 < cv A (o + i)
def E (b : Addr) (A : Cell) (d : Addr) (B : Cell) (o q len : Nat) (r : Option Value) (s u : State) : Prop := r = some (.int (Int32.ofNat len)) ∧ ∃ B', Put d B' s u ∧ Laid B B' q (q + len) (fun j => Value.int (lo8 (cv A (o + (j - q)))))
/-- no char of the range above 255: len; the places written hold each char's low byte -/
theorem law (l : Launch) (b : Addr) (A : Cell) (d : Addr) (B : Cell) (o q len : Nat) : Law l yN 5 5 0 0 yB 7 (some .int) site (P b A d B o q len) (E b A d B o q len) (copyLocs d q len) 0 0 := by
  refine Law.of_walk (plainFor_of_name (by decide +kernel)) (by decide +kernel) (by decide +kernel) (by decide) (fun _ _ h => by rw [h.1]; rfl) (fun _ U U' hal hh h => ⟨h.1, h.2.1.mv hal hh, h.2.2.1.mv hal hh, h.2.2.2⟩) (fun r U U' V V' h1 hal h2 h => ⟨h.1, h.2.elim fun B' q => ⟨B', q.1.mv h1 h2, q.2⟩⟩) ?_
  intro p e s m args below meth c s₁ X0 hexec hbytes hml hret hlk hnm hown hh0 W hP
  obtain ⟨rfl, hA, hB, hne, l1, l2, hp⟩ := hP
  have c1 : Steps p.tables e below (s₁.setTop (entryFrame m #[.ref b, .int (Int32.ofNat o), .ref d, .int (Int32.ofNat q), .int (Int32.ofNat len)] 7)) (s₁.setTop (mkF m 0 #[.val (.ref b), .val (.int (Int32.ofNat o)), .val (.ref d), .val (.int (Int32.ofNat q)), .val (.int (Int32.ofNat len)), .unset, .unset] [])) := entry rfl
  have hA0 := hA.1.mv X0.warmed.alike hh0
  have hB0 := hB.mv X0.warmed.alike hh0
  have a31 := hA.1.2.2.2
  have c2 : Steps p.tables e below (s₁.setTop (entryFrame m #[.ref b, .int (Int32.ofNat o), .ref d, .int (Int32.ofNat q), .int (Int32.ofNat len)] 7)) (s₁.setTop (mkF m 3 #[.val (.ref b), .val (.int (Int32.ofNat o)), .val (.ref d), .val (.int (Int32.ofNat q)), .val (.int (Int32.ofNat len)), .val (.int 0), .unset] [])) := c1.trans (by
    refine iconstV X0.here hexec rfl 0 (hb hbytes d0) (by decide) ?_
    refine XS.istore X0.here hexec rfl (hb hbytes d1) rfl rfl ?_
    exact Steps.refl _)
  have loop : ∀ (r i : Nat), i + r = len → ∀ (z : Slot), (z = .unset ∨ ∃ w, z = .val w ∧ w.category = 1) → ∀ (Tl : State) (Bk : Cell), Stand p l e { frames := 0, locals := 0, cells := 0, slots := 0 } s m #[.ref b, .int (Int32.ofNat o), .ref d, .int (Int32.ofNat q), .int (Int32.ofNat len)] below meth c Tl ([] ++ copyLocs d q i) 0 0 → Put d Bk s₁ Tl → Laid B Bk q (q + i) (fun j => Value.int (lo8 (cv A (o + (j - q))))) →
      Steps p.tables e below (s₁.setTop (entryFrame m #[.ref b, .int (Int32.ofNat o), .ref d, .int (Int32.ofNat q), .int (Int32.ofNat len)] 7)) (Tl.setTop (mkF m 3 #[.val (.ref b), .val (.int (Int32.ofNat (o + i))), .val (.ref d), .val (.int (Int32.ofNat (q + i))), .val (.int (Int32.ofNat len)), .val (.int (Int32.ofNat i)), z] [])) → ∃ (T' : State) (B' : Cell) (z' : Slot), Stand p l e { frames := 0, locals := 0, cells := 0, slots := 0 } s m #[.ref b, .int (Int32.ofNat o), .ref d, .int (Int32.ofNat q), .int (Int32.ofNat len)] below meth c T' ([] ++ copyLocs d q len) 0 0 ∧ Put d B' s₁ T' ∧ Laid B B' q (q + len) (fun j => Value.int (lo8 (cv A (o + (j - q))))) ∧
      Steps p.tables e below (s₁.setTop (entryFrame m #[.ref b, .int (Int32.ofNat o), .ref d, .int (Int32.ofNat q), .int (Int32.ofNat len)] 7)) (T'.setTop (mkF m 3 #[.val (.ref b), .val (.int (Int32.ofNat (o + len))), .val (.ref d), .val (.int (Int32.ofNat (q + len))), .val (.int (Int32.ofNat len)), .val (.int (Int32.ofNat len)), z'] [])) := by
    intro r
    induction r with
    | zero =>
      intro i hi z hz Tl Bk Xl pl fl cl
      have hil : i = len := by omega
      rw [hil] at Xl fl cl
      exact ⟨Tl, Bk, z, Xl, pl, fl, cl⟩
    | succ r ih =>
      intro i hi z hz Tl Bk Xl pl fl cl
      have all := X0.warmed.alike.symm.trans Xl.warmed.alike
      have hAl := hA0.keep all (pl.other hne hA0.1)
      have hBk := hB0.like all pl.1 fl.1 fl.2.1 fl.2.2.1
      have hlt : q + i < Bk.slots.size := by rw [fl.2.2.1]; omega
      have c3 : Steps p.tables e below (s₁.setTop (entryFrame m #[.ref b, .int (Int32.ofNat o), .ref d, .int (Int32.ofNat q), .int (Int32.ofNat len)] 7)) (Tl.setTop (mkF m 12 #[.val (.ref b), .val (.int (Int32.ofNat (o + i))), .val (.ref d), .val (.int (Int32.ofNat (q + i))), .val (.int (Int32.ofNat len)), .val (.int (Int32.ofNat i)), z] [.int (Int32.ofNat (o + i)), .ref b])) := cl.trans (by
        refine XS.iload Xl.here hexec rfl (hb hbytes d3) rfl ?_
        refine XS.iload Xl.here hexec rfl (hb hbytes d5) rfl ?_
        refine XS.icmpNo Xl.here hexec rfl (hb hbytes d7) rfl (ii_ge_f (lt32 (by omega) (by omega))) ?_
        refine XS.aloadN Xl.here hexec rfl (hb hbytes d10) rfl rfl ?_
        refine XS.iloadN Xl.here hexec rfl (hb hbytes d11) rfl ?_
        exact Steps.refl _)
      have c4 : Steps p.tables e below (s₁.setTop (entryFrame m #[.ref b, .int (Int32.ofNat o), .ref d, .int (Int32.ofNat q), .int (Int32.ofNat len)] 7)) (Tl.setTop (mkF m 13 #[.val (.ref b), .val (.int (Int32.ofNat (o + i))), .val (.ref d), .val (.int (Int32.ofNat (q + i))), .val (.int (Int32.ofNat len)), .val (.int (Int32.ofNat i)), z] [.int (cv A (o + i))])) := c3.trans (by
        refine Xl.aget hexec hAl rfl (hA.get (i := o + i) (by omega)) rfl rfl (hb hbytes d12) ?_
        exact Steps.refl _)
      have c5 : Steps p.tables e below (s₁.setTop (entryFrame m #[.ref b, .int (Int32.ofNat o), .ref d, .int (Int32.ofNat q), .int (Int32.ofNat len)] 7)) (Tl.setTop (mkF m 15 #[.val (.ref b), .val (.int (Int32.ofNat (o + i))), .val (.ref d), .val (.int (Int32.ofNat (q + i))), .val (.int (Int32.ofNat len)), .val (.int (Int32.ofNat i)), .val (.int (cv A (o + i)))] [])) := c4.trans (by
        refine XS.istoreS Xl.here hexec rfl (hb hbytes d13) rfl rfl hz ?_
        exact Steps.refl _)
      have c6 : Steps p.tables e below (s₁.setTop (entryFrame m #[.ref b, .int (Int32.ofNat o), .ref d, .int (Int32.ofNat q), .int (Int32.ofNat len)] 7)) (Tl.setTop (mkF m 31 #[.val (.ref b), .val (.int (Int32.ofNat (o + i))), .val (.ref d), .val (.int (Int32.ofNat (q + i))), .val (.int (Int32.ofNat len)), .val (.int (Int32.ofNat i)), .val (.int (cv A (o + i)))] [.int (lo8 (cv A (o + i))), .int (Int32.ofNat (q + i)), .ref d])) := c5.trans (by
        refine XS.iload Xl.here hexec rfl (hb hbytes d15) rfl ?_
        refine sipushV Xl.here hexec rfl 255 (hb hbytes d17) (by decide) ?_
        refine XS.icmpYes Xl.here hexec rfl (pc0 := 20) rfl (hb hbytes d20) rfl (ii_le_t (hp i (by omega))) (by decide) rfl ?_
        refine XS.aloadN Xl.here hexec rfl (hb hbytes d26) rfl rfl ?_
        refine XS.iloadN Xl.here hexec rfl (hb hbytes d27) rfl ?_
        refine XS.iload Xl.here hexec rfl (hb hbytes d28) rfl ?_
        refine i2b Xl.here hexec rfl (hb hbytes d30) rfl ?_
        exact Steps.refl _)
      obtain ⟨T7, X7, p7, st7⟩ := Xl.aput hexec hBk rfl hlt rfl (fits_lo8 (cv A (o + i))) (g := (mkF m 31 #[.val (.ref b), .val (.int (Int32.ofNat (o + i))), .val (.ref d), .val (.int (Int32.ofNat (q + i))), .val (.int (Int32.ofNat len)), .val (.int (Int32.ofNat i)), .val (.int (cv A (o + i)))] [.int (lo8 (cv A (o + i))), .int (Int32.ofNat (q + i)), .ref d])) rfl (rest := []) rfl (hb hbytes d31)
      have c8 : Steps p.tables e below (s₁.setTop (entryFrame m #[.ref b, .int (Int32.ofNat o), .ref d, .int (Int32.ofNat q), .int (Int32.ofNat len)] 7)) (T7.setTop (mkF m 32 #[.val (.ref b), .val (.int (Int32.ofNat (o + i))), .val (.ref d), .val (.int (Int32.ofNat (q + i))), .val (.int (Int32.ofNat len)), .val (.int (Int32.ofNat i)), .val (.int (cv A (o + i)))] [])) := c6.trans (st7 _ (Steps.refl _))
      have c9 : Steps p.tables e below (s₁.setTop (entryFrame m #[.ref b, .int (Int32.ofNat o), .ref d, .int (Int32.ofNat q), .int (Int32.ofNat len)] 7)) (T7.setTop (mkF m 3 #[.val (.ref b), .val (.int (Int32.ofNat (o + i) + 1)), .val (.ref d), .val (.int (Int32.ofNat (q + i) + 1)), .val (.int (Int32.ofNat len)), .val (.int (Int32.ofNat i + 1)), .val (.int (cv A (o + i)))] [])) := c8.trans (by
        refine iincV X7.here hexec rfl 1 (hb hbytes d32) (by decide) rfl rfl ?_
        refine iincV X7.here hexec rfl 1 (hb hbytes d35) (by decide) rfl rfl ?_
        refine iincV X7.here hexec rfl 1 (hb hbytes d38) (by decide) rfl rfl ?_
        refine XS.goto X7.here hexec rfl (pc0 := 41) rfl (hb hbytes d41) (by decide) rfl ?_
        exact Steps.refl _)
      have c10 : Steps p.tables e below (s₁.setTop (entryFrame m #[.ref b, .int (Int32.ofNat o), .ref d, .int (Int32.ofNat q), .int (Int32.ofNat len)] 7)) (T7.setTop (mkF m 3 #[.val (.ref b), .val (.int (Int32.ofNat (o + (i + 1)))), .val (.ref d), .val (.int (Int32.ofNat (q + (i + 1)))), .val (.int (Int32.ofNat len)), .val (.int (Int32.ofNat (i + 1))), .val (.int (cv A (o + i)))] [])) := by
        have := c9
        rw [succ32, succ32, succ32] at this
        exact this
      exact ih (i + 1) (by omega) _ (Or.inr ⟨_, rfl, rfl⟩) T7 _ (by rw [copyLocs_step, ← List.append_assoc]; exact X7) (pl.trans p7) (fl.step (by omega) hlt (by simp)) c10
  obtain ⟨T9, B9, z9, X9, p9, f9, g9⟩ := loop len 0 (by omega) .unset (Or.inl rfl) s₁ B (by simpa [copyLocs] using X0) ⟨hB0.1, fun _ _ => rfl, rfl⟩ (Laid.zero _ _ _) c2
  have c11 : Steps p.tables e below (s₁.setTop (entryFrame m #[.ref b, .int (Int32.ofNat o), .ref d, .int (Int32.ofNat q), .int (Int32.ofNat len)] 7)) (T9.setTop (mkF m 46 #[.val (.ref b), .val (.int (Int32.ofNat (o + len))), .val (.ref d), .val (.int (Int32.ofNat (q + len))), .val (.int (Int32.ofNat len)), .val (.int (Int32.ofNat len)), z9] [.int (Int32.ofNat len)])) := g9.trans (by
    refine XS.iload X9.here hexec rfl (hb hbytes d3) rfl ?_
    refine XS.iload X9.here hexec rfl (hb hbytes d5) rfl ?_
    refine XS.icmpYes X9.here hexec rfl (pc0 := 7) rfl (hb hbytes d7) rfl (ii_ge_t (nlt32 (by omega) (Nat.le_refl _))) (by decide) rfl ?_
    refine XS.iload X9.here hexec rfl (hb hbytes d44) rfl ?_
    exact Steps.refl _)
  exact ⟨T9, some (.int (Int32.ofNat len)), _, _, _, X9, by simp, rfl, rfl, (fun h => by cases h), ⟨rfl, B9, p9.from hh0, f9⟩, fun fs hl => c11.trans (X9.ireturnOut hexec hret rfl (Or.inl rfl) (hb hbytes d46) hl)⟩
end Cmp5
namespace Cmp3
def yN : MethodName := ⟨"java/lang/StringUTF16", "compress", "([CII)[B"⟩
abbrev yB : ByteArray := jdk_52_method_16_code
theorem d0 : decode yB 0 = .ok (.iload_n 2, 1) := by decide +kernel
theorem d1 : decode yB 1 = .ok (.newarray .byte, 2) := by decide +kernel
theorem d3 : decode yB 3 = .ok (.astore_n 3, 1) := by decide +kernel
theorem d4 : decode yB 4 = .ok (.aload_n 0, 1) := by decide +kernel
theorem d5 : decode yB 5 = .ok (.iload_n 1, 1) := by decide +kernel
theorem d6 : decode yB 6 = .ok (.aload_n 3, 1) := by decide +kernel
theorem d7 : decode yB 7 = .ok (.iconst 0, 1) := by decide +kernel
theorem d8 : decode yB 8 = .ok (.iload_n 2, 1) := by decide +kernel
theorem d9 : decode yB 9 = .ok (.invokestatic 115, 3) := by decide +kernel
theorem d12 : decode yB 12 = .ok (.istore 4, 2) := by decide +kernel
theorem d14 : decode yB 14 = .ok (.iload 4, 2) := by decide +kernel
theorem d16 : decode yB 16 = .ok (.iload_n 2, 1) := by decide +kernel
theorem d17 : decode yB 17 = .ok (.if_icmp (.eq) 40, 3) := by decide +kernel
theorem d57 : decode yB 57 = .ok (.aload_n 3, 1) := by decide +kernel
theorem d58 : decode yB 58 = .ok (.areturn, 1) := by decide +kernel
def site : List Cond := [.arrayClass .byte, Cmp5.tab] ++ staticW U16 115 Cmp5.yN
def tab : Cond := tabOf yN yB 6 (some (.array .byte)) site
def P (b : Addr) (A : Cell) (o len : Nat) (args : Array Value) (s : State) : Prop := args = #[.ref b, .int (Int32.ofNat o), .int (Int32.ofNat len)] ∧ Ch b A s ∧ o + len ≤ A.slots.size ∧ len ≤ 536870912 ∧ ∀ i, i < len → ¬ 255 < cv A (o + i)
def E (b : Addr) (A : Cell) (o len : Nat) (r : Option Value) (s u : State) : Prop := NewArr .byte "[B" len (fun j => .int (lo8 (cv A (o + j)))) r s u ∧ u.heap.size = s.heap.size + 1
/-- no char of the range above 255: a new byte[] of their low bytes -/
theorem law (l : Launch) (b : Addr) (A : Cell) (o len : Nat) : Law l yN 3 3 1 18 yB 6 (some (.array .byte)) site (P b A o len) (E b A o len) [] 1 len := by
  refine Law.of_walk (plainFor_of_name (by decide +kernel)) (by decide +kernel) (by decide +kernel) (by decide) (fun _ _ h => by rw [h.1]; rfl) (fun _ U U' hal hh h => ⟨h.1, h.2.1.mv hal hh, h.2.2⟩) (fun r U U' V V' h1 hal h2 h => ⟨NewArr.mv r U U' V V' h1 hal h2 h.1, by rw [h1, h2]; exact h.2⟩) ?_
  intro p e s m args below meth c s₁ X0 hexec hbytes hml hret hlk hnm hown hh0 W hP
  obtain ⟨rfl, hA, l1, l2, hp⟩ := hP
  have a31 := hA.1.2.2.2
  have c1 : Steps p.tables e below (s₁.setTop (entryFrame m #[.ref b, .int (Int32.ofNat o), .int (Int32.ofNat len)] 6)) (s₁.setTop (mkF m 0 #[.val (.ref b), .val (.int (Int32.ofNat o)), .val (.int (Int32.ofNat len)), .unset, .unset, .unset] [])) := entry rfl
  have c2 : Steps p.tables e below (s₁.setTop (entryFrame m #[.ref b, .int (Int32.ofNat o), .int (Int32.ofNat len)] 6)) (s₁.setTop (mkF m 1 #[.val (.ref b), .val (.int (Int32.ofNat o)), .val (.int (Int32.ofNat len)), .unset, .unset, .unset] [.int (Int32.ofNat len)])) := c1.trans (by
    refine XS.iloadN X0.here hexec rfl (hb hbytes d0) rfl ?_
    exact Steps.refl _)
  obtain ⟨T3, B3, X3, ba3, bs3, bv3, bh3, bf3, st3⟩ := X0.anew hexec (atype := .byte) (wk W (.arrayClass .byte)) rfl (by show len * 1 ≤ _; omega) (by omega) (g := (mkF m 1 #[.val (.ref b), .val (.int (Int32.ofNat o)), .val (.int (Int32.ofNat len)), .unset, .unset, .unset] [.int (Int32.ofNat len)])) rfl (hb hbytes d1) (rest := []) rfl (Nat.le_refl _) (by show 0 + len ≤ len; omega)
  rw [hh0] at ba3 st3
  have kp3 : XT.Kept s T3 := (XT.Kept.of_eq hh0).push bh3
  have hA3 := hA.keep X3.warmed.alike (kp3 _ _ hA.1.1)
  have hne : b ≠ s.heap.size := hA.1.ne
  have c4 : Steps p.tables e below (s₁.setTop (entryFrame m #[.ref b, .int (Int32.ofNat o), .int (Int32.ofNat len)] 6)) (T3.setTop (mkF m 3 #[.val (.ref b), .val (.int (Int32.ofNat o)), .val (.int (Int32.ofNat len)), .unset, .unset, .unset] [.ref s.heap.size])) := c2.trans (st3 _ (Steps.refl _))
  have c5 : Steps p.tables e below (s₁.setTop (entryFrame m #[.ref b, .int (Int32.ofNat o), .int (Int32.ofNat len)] 6)) (T3.setTop (mkF m 9 #[.val (.ref b), .val (.int (Int32.ofNat o)), .val (.int (Int32.ofNat len)), .val (.ref s.heap.size), .unset, .unset] [.int (Int32.ofNat len), .int 0, .ref s.heap.size, .int (Int32.ofNat o), .ref b])) := c4.trans (by
    refine XS.astoreN X3.here hexec rfl (hb hbytes d3) rfl rfl rfl ?_
    refine XS.aloadN X3.here hexec rfl (hb hbytes d4) rfl rfl ?_
    refine XS.iloadN X3.here hexec rfl (hb hbytes d5) rfl ?_
    refine XS.aloadN X3.here hexec rfl (hb hbytes d6) rfl rfl ?_
    refine iconstV X3.here hexec rfl 0 (hb hbytes d7) (by decide) ?_
    refine XS.iloadN X3.here hexec rfl (hb hbytes d8) rfl ?_
    exact Steps.refl _)
  obtain ⟨v6, T6, X6, E6, g6⟩ := X3.callS hexec (Cmp5.law l b A s.heap.size B3 o 0 len) hown (wks W (staticW U16 115 Cmp5.yN)) (wk W Cmp5.tab) (W := 0) (Nat.le_of_ble_eq_true rfl) (Nat.le_of_ble_eq_true rfl) (Nat.le_refl _) (by show 0 + len + 0 ≤ len; omega) (g := (mkF m 9 #[.val (.ref b), .val (.int (Int32.ofNat o)), .val (.int (Int32.ofNat len)), .val (.ref s.heap.size), .unset, .unset] [.int (Int32.ofNat len), .int (Int32.ofNat 0), .ref s.heap.size, .int (Int32.ofNat o), .ref b])) rfl (by rw [hml]; rfl) c5 (argsL := [.ref b, .int (Int32.ofNat o), .ref s.heap.size, .int (Int32.ofNat 0), .int (Int32.ofNat len)]) (rest := []) rfl rfl (by show 2 * 0 + 0 ≤ _; decide) (hb hbytes d9) (⟨rfl, hA3, ba3, hne, l1, by rw [bs3]; simp, hp⟩)
  obtain ⟨rfl, B6, p6, f6⟩ := E6
  have c7 : Steps p.tables e below (s₁.setTop (entryFrame m #[.ref b, .int (Int32.ofNat o), .int (Int32.ofNat len)] 6)) (T6.setTop (mkF m 12 #[.val (.ref b), .val (.int (Int32.ofNat o)), .val (.int (Int32.ofNat len)), .val (.ref s.heap.size), .unset, .unset] [.int (Int32.ofNat len)])) := g6
  have c8 : Steps p.tables e below (s₁.setTop (entryFrame m #[.ref b, .int (Int32.ofNat o), .int (Int32.ofNat len)] 6)) (T6.setTop (mkF m 58 #[.val (.ref b), .val (.int (Int32.ofNat o)), .val (.int (Int32.ofNat len)), .val (.ref s.heap.size), .val (.int (Int32.ofNat len)), .unset] [.ref s.heap.size])) := c7.trans (by
    refine XS.istore X6.here hexec rfl (hb hbytes d12) rfl rfl ?_
    refine XS.iload X6.here hexec rfl (hb hbytes d14) rfl ?_
    refine XS.iloadN X6.here hexec rfl (hb hbytes d16) rfl ?_
    refine XS.icmpYes X6.here hexec rfl (pc0 := 17) rfl (hb hbytes d17) rfl (ii_eq_t rfl) (by decide) rfl ?_
    refine XS.aloadN X6.here hexec rfl (hb hbytes d57) rfl rfl ?_
    exact Steps.refl _)
  have X8 := X6.wide (L' := []) (cells' := 1) (slots' := len) (fun x hx hlt => by
    simp only [List.nil_append, copyLocs, List.mem_map, List.mem_range] at hx
    obtain ⟨i, -, rfl⟩ := hx
    exact absurd hlt (Nat.lt_irrefl _)) (Nat.le_refl _) (by omega)
  exact ⟨T6, some (.ref s.heap.size), _, _, _, X8, rfl, rfl, rfl, (fun h => by cases h), ⟨⟨rfl, B6, ba3.like (X3.warmed.alike.symm.trans X6.warmed.alike) p6.1 f6.1 f6.2.1 f6.2.2.1, f6.2.1.trans bv3, by rw [X6.warmed.alike.findClass, f6.1]; exact bf3, by rw [f6.2.2.1, bs3]; simp, fun j hj => by rw [f6.2.2.2 j, if_pos (by omega)]; rfl, kp3.put p6 (Nat.le_refl _)⟩, by rw [p6.2.2, bh3, hh0]; simp⟩, fun fs hl => c8.trans (X8.areturnOut hexec rfl hret rfl (hb hbytes d58) hl)⟩
end Cmp3
namespace CodL
def yN : MethodName := ⟨"java/lang/StringUTF16", "coderFromArrayLen", "([BI)B"⟩
abbrev yB : ByteArray := jdk_52_method_15_code
theorem d0 : decode yB 0 = .ok (.iload_n 1, 1) := by decide +kernel
theorem d1 : decode yB 1 = .ok (.aload_n 0, 1) := by decide +kernel
theorem d2 : decode yB 2 = .ok (.arraylength, 1) := by decide +kernel
theorem d3 : decode yB 3 = .ok (.isub, 1) := by decide +kernel
theorem d4 : decode yB 4 = .ok (.bipush 31, 2) := by decide +kernel
theorem d6 : decode yB 6 = .ok (.iushr, 1) := by decide +kernel
theorem d7 : decode yB 7 = .ok (.i2b, 1) := by decide +kernel
theorem d8 : decode yB 8 = .ok (.ireturn, 1) := by decide +kernel
def site : List Cond := []
def tab : Cond := tabOf yN yB 2 (some .byte) site
def P (d : Addr) (B : Cell) (args : Array Value) (s : State) : Prop := args = #[.ref d, .int (Int32.ofNat B.slots.size)] ∧ Arr .byte d B s
def E (r : Option Value) (s u : State) : Prop := XT.PureE (some (.int 0)) r s u
/-- an array as long as the number of chars: LATIN1 -/
theorem law (l : Launch) (d : Addr) (B : Cell) : Law l yN 2 2 0 0 yB 2 (some .byte) site (P d B) E [] 0 0 := by
  refine Law.of_walk (plainFor_of_name (by decide +kernel)) (by decide +kernel) (by decide +kernel) (by decide) (fun _ _ h => by rw [h.1]; rfl) (fun _ U U' hal hh h => ⟨h.1, h.2.mv hal hh⟩) (fun r U U' V V' h1 hal h2 h => XT.PureE.mv r U U' V V' h1 hal h2 h) ?_
  intro p e s m args below meth c s₁ X0 hexec hbytes hml hret hlk hnm hown hh0 W hP
  obtain ⟨rfl, hB⟩ := hP
  have hB0 := hB.mv X0.warmed.alike hh0
  have c1 : Steps p.tables e below (s₁.setTop (entryFrame m #[.ref d, .int (Int32.ofNat B.slots.size)] 2)) (s₁.setTop (mkF m 0 #[.val (.ref d), .val (.int (Int32.ofNat B.slots.size))] [])) := entry rfl
  have c2 : Steps p.tables e below (s₁.setTop (entryFrame m #[.ref d, .int (Int32.ofNat B.slots.size)] 2)) (s₁.setTop (mkF m 2 #[.val (.ref d), .val (.int (Int32.ofNat B.slots.size))] [.ref d, .int (Int32.ofNat B.slots.size)])) := c1.trans (by
    refine XS.iloadN X0.here hexec rfl (hb hbytes d0) rfl ?_
    refine XS.aloadN X0.here hexec rfl (hb hbytes d1) rfl rfl ?_
    exact Steps.refl _)
  have c3 : Steps p.tables e below (s₁.setTop (entryFrame m #[.ref d, .int (Int32.ofNat B.slots.size)] 2)) (s₁.setTop (mkF m 8 #[.val (.ref d), .val (.int (Int32.ofNat B.slots.size))] [.int (lo8 (ushr (Int32.ofNat B.slots.size - Int32.ofNat B.slots.size) 31))])) := c2.trans (by
    refine X0.alen hexec hB0 rfl rfl (hb hbytes d2) ?_
    refine XS.isub X0.here hexec rfl (hb hbytes d3) rfl ?_
    refine bipushV X0.here hexec rfl 31 (hb hbytes d4) (by decide) ?_
    refine iushr X0.here hexec rfl (hb hbytes d6) rfl ?_
    refine i2b X0.here hexec rfl (hb hbytes d7) rfl ?_
    exact Steps.refl _)
  have e0 : lo8 (ushr (Int32.ofNat B.slots.size - Int32.ofNat B.slots.size) 31) = 0 := by rw [Int32.sub_self]; decide
  rw [e0] at c3
  exact ⟨s₁, some (.int 0), _, _, _, X0, rfl, rfl, rfl, (fun h => by cases h), ⟨rfl, hh0⟩, fun fs hl => c3.trans (X0.ireturnOut hexec hret rfl (Or.inr (Or.inr (Or.inl rfl))) (hb hbytes d8) hl)⟩
end CodL
/-- the String at a is Latin-1 over a new byte[] (the heap's one new cell): the low bytes of the len chars of A from o on; every cell but a is kept -/
def Got (a : Addr) (D : Cell) (fV fC : Field) (A : Cell) (o len : Nat) (r : Option Value) (s u : State) : Prop := r = none ∧ ∃ D' V : Cell, Blank "java/lang/String" a D' u ∧ Same D D' [fV.slot, fC.slot] ∧ D'.slots[fV.slot]? = some (.ref s.heap.size) ∧ D'.slots[fC.slot]? = some (.int 0) ∧ Arr .byte s.heap.size V u ∧ V.vm = .none ∧ u.vm.findClass "[B" = some V.cls ∧ V.slots.size = len ∧ (∀ j, j < len → V.slots[j]? = some (.int (lo8 (cv A (o + j))))) ∧ (∀ (y : Addr) (c : Cell), y ≠ a → s.heap[y]? = some c → u.heap[y]? = some c) ∧ u.heap.size = s.heap.size + 1
theorem Got.mv {a : Addr} {D A : Cell} {fV fC : Field} {o len : Nat} : ∀ r (U U' V V' : State), U'.heap = U.heap → V.vm.Alike V'.vm → V'.heap = V.heap → Got a D fV fC A o len r U V → Got a D fV fC A o len r U' V' :=
  fun r U U' V V' h1 hal h2 ⟨e0, D', X, a1, a2, a3, a4, a5, a6, a7, a8, a9, a10, a11⟩ => ⟨e0, D', X, a1.mv hal h2, a2, by rw [h1]; exact a3, a4, by rw [h1]; exact a5.mv hal h2, a6, by rw [hal.findClass]; exact a7, a8, a9, by rw [h1, h2]; exact a10, by rw [h1, h2]; exact a11⟩
namespace New4
def yN : MethodName := ⟨"java/lang/String", "<init>", "([CIILjava/lang/Void;)V"⟩
abbrev yB : ByteArray := jdk_42_method_149_code
theorem d0 : decode yB 0 = .ok (.aload_n 0, 1) := by decide +kernel
theorem d1 : decode yB 1 = .ok (.invokespecial 1, 3) := by decide +kernel
theorem d4 : decode yB 4 = .ok (.iload_n 3, 1) := by decide +kernel
theorem d5 : decode yB 5 = .ok (.ifCond (.ne) 22, 3) := by decide +kernel
theorem d27 : decode yB 27 = .ok (.getstatic 38, 3) := by decide +kernel
theorem d30 : decode yB 30 = .ok (.ifCond (.eq) 28, 3) := by decide +kernel
theorem d33 : decode yB 33 = .ok (.aload_n 1, 1) := by decide +kernel
theorem d34 : decode yB 34 = .ok (.iload_n 2, 1) := by decide +kernel
theorem d35 : decode yB 35 = .ok (.iload_n 3, 1) := by decide +kernel
theorem d36 : decode yB 36 = .ok (.invokestatic 177, 3) := by decide +kernel
theorem d39 : decode yB 39 = .ok (.astore 5, 2) := by decide +kernel
theorem d41 : decode yB 41 = .ok (.aload_n 0, 1) := by decide +kernel
theorem d42 : decode yB 42 = .ok (.aload 5, 2) := by decide +kernel
theorem d44 : decode yB 44 = .ok (.iload_n 3, 1) := by decide +kernel
theorem d45 : decode yB 45 = .ok (.invokestatic 47, 3) := by decide +kernel
theorem d48 : decode yB 48 = .ok (.putfield 15, 3) := by decide +kernel
theorem d51 : decode yB 51 = .ok (.aload_n 0, 1) := by decide +kernel
theorem d52 : decode yB 52 = .ok (.aload 5, 2) := by decide +kernel
theorem d54 : decode yB 54 = .ok (.putfield 9, 3) := by decide +kernel
theorem d57 : decode yB 57 = .ok (.return_, 1) := by decide +kernel
def site : List Cond := [.fieldLink "java/lang/String" 38 "java/lang/String" "COMPACT_STRINGS" "Z", Cmp3.tab, CodL.tab, .laysFinal "java/lang/String" "java/lang/String" "value" "[B", .fieldLink "java/lang/String" 9 "java/lang/String" "value" "[B", .laysFinal "java/lang/String" "java/lang/String" "coder" "B", .fieldLink "java/lang/String" 15 "java/lang/String" "coder" "B"] ++ objW "java/lang/String" 1 ++ staticW "java/lang/String" 177 Cmp3.yN ++ staticW "java/lang/String" 47 CodL.yN
def tab : Cond := tabOf yN yB 6 none site
def P (a : Addr) (D : Cell) (fV fC : Field) (b : Addr) (A : Cell) (z : Int32) (o len : Nat) (args : Array Value) (s : State) : Prop := args = #[.ref a, .ref b, .int (Int32.ofNat o), .int (Int32.ofNat len), .null] ∧ Blank "java/lang/String" a D s ∧ Found "java/lang/String" "value" "[B" fV s ∧ Found "java/lang/String" "coder" "B" fC s ∧ Ch b A s ∧ StaticIs s "java/lang/String" "COMPACT_STRINGS" "Z" (.int z) ∧ ¬ z = 0 ∧ 0 < len ∧ o + len ≤ A.slots.size ∧ len ≤ 536870912 ∧ ∀ i, i < len → ¬ 255 < cv A (o + i)
def E (a : Addr) (D : Cell) (fV fC : Field) (A : Cell) (o len : Nat) (r : Option Value) (s u : State) : Prop := Got a D fV fC A o len r s u
/-- len > 0, no char of the range above 255: a Latin-1 String of their low bytes -/
theorem law (l : Launch) (a : Addr) (D : Cell) (fV fC : Field) (b : Addr) (A : Cell) (z : Int32) (o len : Nat) : Law l yN 5 4 2 35 yB 6 none site (P a D fV fC b A z o len) (E a D fV fC A o len) [⟨a, fC.slot⟩, ⟨a, fV.slot⟩] 1 len := by
  refine Law.of_walk (plainFor_of_name (by decide +kernel)) (by decide +kernel) (by decide +kernel) (by decide) (fun _ _ h => by rw [h.1]; rfl) (fun _ U U' hal hh h => ⟨h.1, h.2.1.mv hal hh, h.2.2.1.al hal, h.2.2.2.1.al hal, h.2.2.2.2.1.mv hal hh, h.2.2.2.2.2.1.there hal hh, h.2.2.2.2.2.2⟩) (fun r U U' V V' h1 hal h2 h => Got.mv r U U' V V' h1 hal h2 h) ?_
  intro p e s m args below meth c s₁ X0 hexec hbytes hml hret hlk hnm hown hh0 W hP
  obtain ⟨rfl, hB, f1, f2, hA, s1, hz, l0, l1, l2, hp⟩ := hP
  have a31 := hA.1.2.2.2
  have c1 : Steps p.tables e below (s₁.setTop (entryFrame m #[.ref a, .ref b, .int (Int32.ofNat o), .int (Int32.ofNat len), .null] 6)) (s₁.setTop (mkF m 0 #[.val (.ref a), .val (.ref b), .val (.int (Int32.ofNat o)), .val (.int (Int32.ofNat len)), .val .null, .unset] [])) := entry rfl
  have c2 : Steps p.tables e below (s₁.setTop (entryFrame m #[.ref a, .ref b, .int (Int32.ofNat o), .int (Int32.ofNat len), .null] 6)) (s₁.setTop (mkF m 1 #[.val (.ref a), .val (.ref b), .val (.int (Int32.ofNat o)), .val (.int (Int32.ofNat len)), .val .null, .unset] [.ref a])) := c1.trans (by
    refine XS.aloadN X0.here hexec rfl (hb hbytes d0) rfl rfl ?_
    exact Steps.refl _)
  obtain ⟨T3, X3, q3, st3⟩ := X0.oinit hexec hown (wks W (objW "java/lang/String" 1)) (g := (mkF m 1 #[.val (.ref a), .val (.ref b), .val (.int (Int32.ofNat o)), .val (.int (Int32.ofNat len)), .val .null, .unset] [.ref a])) rfl (by rw [hml]; rfl) (rest := []) rfl (hb hbytes d1) (W := 0) (by show 2 * 0 + 0 ≤ _; decide) (Nat.le_of_ble_eq_true rfl) (Nat.le_of_ble_eq_true rfl)
  have hh3 := q3.trans hh0
  have c4 : Steps p.tables e below (s₁.setTop (entryFrame m #[.ref a, .ref b, .int (Int32.ofNat o), .int (Int32.ofNat len), .null] 6)) (T3.setTop (mkF m 27 #[.val (.ref a), .val (.ref b), .val (.int (Int32.ofNat o)), .val (.int (Int32.ofNat len)), .val .null, .unset] [])) := (c2.trans (st3 _ (Steps.refl _))).trans (by
    refine XS.iloadN X3.here hexec rfl (hb hbytes d4) rfl ?_
    refine XS.ifYes X3.here hexec rfl (pc0 := 5) rfl (hb hbytes d5) rfl (i0_ne_t (nz32 (by omega) l0)) (by decide) rfl ?_
    exact Steps.refl _)
  obtain ⟨T5, X5, q5, st5⟩ := X3.sget hexec hown (wk W (.fieldLink "java/lang/String" 38 "java/lang/String" "COMPACT_STRINGS" "Z")) s1 (fun _ _ h => by rw [hh3]; exact h) (g := (mkF m 27 #[.val (.ref a), .val (.ref b), .val (.int (Int32.ofNat o)), .val (.int (Int32.ofNat len)), .val .null, .unset] [])) rfl (hb hbytes d27)
  have hh5 := q5.trans hh3
  have c6 : Steps p.tables e below (s₁.setTop (entryFrame m #[.ref a, .ref b, .int (Int32.ofNat o), .int (Int32.ofNat len), .null] 6)) (T5.setTop (mkF m 30 #[.val (.ref a), .val (.ref b), .val (.int (Int32.ofNat o)), .val (.int (Int32.ofNat len)), .val .null, .unset] [.int z])) := c4.trans (st5 _ (Steps.refl _))
  have c7 : Steps p.tables e below (s₁.setTop (entryFrame m #[.ref a, .ref b, .int (Int32.ofNat o), .int (Int32.ofNat len), .null] 6)) (T5.setTop (mkF m 36 #[.val (.ref a), .val (.ref b), .val (.int (Int32.ofNat o)), .val (.int (Int32.ofNat len)), .val .null, .unset] [.int (Int32.ofNat len), .int (Int32.ofNat o), .ref b])) := c6.trans (by
    refine XS.ifNo X5.here hexec rfl (hb hbytes d30) rfl (i0_eq_f hz) ?_
    refine XS.aloadN X5.here hexec rfl (hb hbytes d33) rfl rfl ?_
    refine XS.iloadN X5.here hexec rfl (hb hbytes d34) rfl ?_
    refine XS.iloadN X5.here hexec rfl (hb hbytes d35) rfl ?_
    exact Steps.refl _)
  obtain ⟨v8, T8, X8, E8, g8⟩ := X5.callS hexec (Cmp3.law l b A o len) hown (wks W (staticW "java/lang/String" 177 Cmp3.yN)) (wk W Cmp3.tab) (W := 0) (Nat.le_of_ble_eq_true rfl) (Nat.le_of_ble_eq_true rfl) (Nat.le_refl _) (by show 0 + len ≤ len; omega) (g := (mkF m 36 #[.val (.ref a), .val (.ref b), .val (.int (Int32.ofNat o)), .val (.int (Int32.ofNat len)), .val .null, .unset] [.int (Int32.ofNat len), .int (Int32.ofNat o), .ref b])) rfl (by rw [hml]; rfl) c7 (argsL := [.ref b, .int (Int32.ofNat o), .int (Int32.ofNat len)]) (rest := []) rfl rfl (by show 2 * 0 + 0 ≤ _; decide) (hb hbytes d36) (⟨rfl, hA.mv X5.warmed.alike hh5, l1, l2, hp⟩)
  obtain ⟨e8, z8⟩ := E8
  obtain ⟨rfl, N, n1, n2, n3, n4, n5, n6⟩ := NewArr.mv _ T5 s _ _ hh5.symm (Vm.Alike.refl _) rfl e8
  rw [hh5] at z8
  have hB1 := hB.keep X8.warmed.alike (n6 _ _ hB.1)
  have hne : s.heap.size ≠ a := (Nat.ne_of_lt (Array.getElem?_eq_some_iff.mp hB.1).1).symm
  have c9 : Steps p.tables e below (s₁.setTop (entryFrame m #[.ref a, .ref b, .int (Int32.ofNat o), .int (Int32.ofNat len), .null] 6)) (T8.setTop (mkF m 39 #[.val (.ref a), .val (.ref b), .val (.int (Int32.ofNat o)), .val (.int (Int32.ofNat len)), .val .null, .unset] [.ref s.heap.size])) := g8
  have c10 : Steps p.tables e below (s₁.setTop (entryFrame m #[.ref a, .ref b, .int (Int32.ofNat o), .int (Int32.ofNat len), .null] 6)) (T8.setTop (mkF m 45 #[.val (.ref a), .val (.ref b), .val (.int (Int32.ofNat o)), .val (.int (Int32.ofNat len)), .val .null, .val (.ref s.heap.size)] [.int (Int32.ofNat N.slots.size), .ref s.heap.size, .ref a])) := by
    have hc : Steps p.tables e below (s₁.setTop (entryFrame m #[.ref a, .ref b, .int (Int32.ofNat o), .int (Int32.ofNat len), .null] 6)) (T8.setTop (mkF m 45 #[.val (.ref a), .val (.ref b), .val (.int (Int32.ofNat o)), .val (.int (Int32.ofNat len)), .val .null, .val (.ref s.heap.size)] [.int (Int32.ofNat len), .ref s.heap.size, .ref a])) := c9.trans (by
      refine XS.astore X8.here hexec rfl (hb hbytes d39) rfl rfl rfl ?_
      refine XS.aloadN X8.here hexec rfl (hb hbytes d41) rfl rfl ?_
      refine XS.aload X8.here hexec rfl (hb hbytes d42) rfl rfl ?_
      refine XS.iloadN X8.here hexec rfl (hb hbytes d44) rfl ?_
      exact Steps.refl _)
    rw [n4]; exact hc
  obtain ⟨v11, T11, X11, E11, g11⟩ := X8.callS hexec (CodL.law l s.heap.size N) hown (wks W (staticW "java/lang/String" 47 CodL.yN)) (wk W CodL.tab) (W := 1) (Nat.le_of_ble_eq_true rfl) (Nat.le_of_ble_eq_true rfl) (Nat.le_refl _) (by show 0 + len + 0 ≤ len; omega) (g := (mkF m 45 #[.val (.ref a), .val (.ref b), .val (.int (Int32.ofNat o)), .val (.int (Int32.ofNat len)), .val .null, .val (.ref s.heap.size)] [.int (Int32.ofNat N.slots.size), .ref s.heap.size, .ref a])) rfl (by rw [hml]; rfl) c10 (argsL := [.ref s.heap.size, .int (Int32.ofNat N.slots.size)]) (rest := [.ref a]) rfl rfl (by show 2 * 0 + (1 + 0) ≤ _; decide) (hb hbytes d45) (⟨rfl, n1⟩)
  obtain ⟨rfl, q11⟩ := E11
  have hB11 := hB1.mv (X8.warmed.alike.symm.trans X11.warmed.alike) q11
  have c12 : Steps p.tables e below (s₁.setTop (entryFrame m #[.ref a, .ref b, .int (Int32.ofNat o), .int (Int32.ofNat len), .null] 6)) (T11.setTop (mkF m 48 #[.val (.ref a), .val (.ref b), .val (.int (Int32.ofNat o)), .val (.int (Int32.ofNat len)), .val .null, .val (.ref s.heap.size)] [.int 0, .ref a])) := g11
  obtain ⟨T13, X13, p13, bl13, sl13, st13⟩ := X11.finit hexec hown (wk W (.fieldLink "java/lang/String" 15 "java/lang/String" "coder" "B")) (Or.inr ⟨_, (wk W (.laysFinal "java/lang/String" "java/lang/String" "coder" "B"))⟩) (Or.inl ⟨rfl, hnm⟩) f2 (Or.inl rfl) hB11 (t := .byte) (by decide +kernel) rfl (g := (mkF m 48 #[.val (.ref a), .val (.ref b), .val (.int (Int32.ofNat o)), .val (.int (Int32.ofNat len)), .val .null, .val (.ref s.heap.size)] [.int 0, .ref a])) rfl (rest := []) rfl (hb hbytes d48)
  have c14 : Steps p.tables e below (s₁.setTop (entryFrame m #[.ref a, .ref b, .int (Int32.ofNat o), .int (Int32.ofNat len), .null] 6)) (T13.setTop (mkF m 54 #[.val (.ref a), .val (.ref b), .val (.int (Int32.ofNat o)), .val (.int (Int32.ofNat len)), .val .null, .val (.ref s.heap.size)] [.ref s.heap.size, .ref a])) := (c12.trans (st13 _ (Steps.refl _))).trans (by
    refine XS.aloadN X13.here hexec rfl (hb hbytes d51) rfl rfl ?_
    refine XS.aload X13.here hexec rfl (hb hbytes d52) rfl rfl ?_
    exact Steps.refl _)
  obtain ⟨T15, X15, p15, bl15, sl15, st15⟩ := X13.finit hexec hown (wk W (.fieldLink "java/lang/String" 9 "java/lang/String" "value" "[B")) (Or.inr ⟨_, (wk W (.laysFinal "java/lang/String" "java/lang/String" "value" "[B"))⟩) (Or.inl ⟨rfl, hnm⟩) f1 (Or.inl rfl) bl13 (t := (.array .byte)) (by decide +kernel) rfl (g := (mkF m 54 #[.val (.ref a), .val (.ref b), .val (.int (Int32.ofNat o)), .val (.int (Int32.ofNat len)), .val .null, .val (.ref s.heap.size)] [.ref s.heap.size, .ref a])) rfl (rest := []) rfl (hb hbytes d54)
  have c16 : Steps p.tables e below (s₁.setTop (entryFrame m #[.ref a, .ref b, .int (Int32.ofNat o), .int (Int32.ofNat len), .null] 6)) (T15.setTop (mkF m 57 #[.val (.ref a), .val (.ref b), .val (.int (Int32.ofNat o)), .val (.int (Int32.ofNat len)), .val .null, .val (.ref s.heap.size)] [])) := c14.trans (st15 _ (Steps.refl _))
  have ap := apart (Or.inr ⟨_, (wk W (.laysFinal "java/lang/String" "java/lang/String" "value" "[B"))⟩) (Or.inr ⟨_, (wk W (.laysFinal "java/lang/String" "java/lang/String" "coder" "B"))⟩) f1 f2 (t₁ := .array .byte) (t₂ := .byte) (by decide +kernel) (by decide +kernel) (by decide)
  have al := X8.warmed.alike.symm.trans X15.warmed.alike
  have n7 : T11.heap[s.heap.size]? = some N := by rw [q11]; exact n1.1
  exact ⟨T15, none, _, _, _, X15, by simp, rfl, by omega, (fun _ => rfl), ⟨rfl, _, N, bl15, ((Same.refl D _).set _ (by simp)).set _ (by simp), sl15, (Cell.slots_setSlot_ne _ ap).trans sl13, n1.keep al (p15.other hne (p13.other hne n7)), n2, by rw [al.findClass]; exact n3, n4, n5, fun y c h1 h2 => p15.other h1 (p13.other h1 (by rw [q11]; exact n6 y c h2)), by rw [p15.2.2, p13.2.2, q11]; exact z8⟩, fun fs hl => c16.trans (X15.returnOut hexec hret (hb hbytes d57) hl)⟩
end New4
namespace New1
def yN : MethodName := ⟨"java/lang/String", "<init>", "([C)V"⟩
abbrev yB : ByteArray := jdk_42_method_3_code
theorem d0 : decode yB 0 = .ok (.aload_n 0, 1) := by decide +kernel
theorem d1 : decode yB 1 = .ok (.aload_n 1, 1) := by decide +kernel
theorem d2 : decode yB 2 = .ok (.iconst 0, 1) := by decide +kernel
theorem d3 : decode yB 3 = .ok (.aload_n 1, 1) := by decide +kernel
theorem d4 : decode yB 4 = .ok (.arraylength, 1) := by decide +kernel
theorem d5 : decode yB 5 = .ok (.aconst_null, 1) := by decide +kernel
theorem d6 : decode yB 6 = .ok (.invokespecial 27, 3) := by decide +kernel
theorem d9 : decode yB 9 = .ok (.return_, 1) := by decide +kernel
def site : List Cond := [New4.tab] ++ initW "java/lang/String" 27 New4.yN
def tab : Cond := tabOf yN yB 2 none site
def P (a : Addr) (D : Cell) (fV fC : Field) (b : Addr) (A : Cell) (z : Int32) (args : Array Value) (s : State) : Prop := args = #[.ref a, .ref b] ∧ Blank "java/lang/String" a D s ∧ Found "java/lang/String" "value" "[B" fV s ∧ Found "java/lang/String" "coder" "B" fC s ∧ Ch b A s ∧ StaticIs s "java/lang/String" "COMPACT_STRINGS" "Z" (.int z) ∧ ¬ z = 0 ∧ 0 < A.slots.size ∧ A.slots.size ≤ 536870912 ∧ ∀ i, i < A.slots.size → ¬ 255 < cv A i
def E (a : Addr) (D : Cell) (fV fC : Field) (A : Cell) (r : Option Value) (s u : State) : Prop := Got a D fV fC A 0 A.slots.size r s u
/-- new String(chars), not empty, no char above 255: a Latin-1 String of their low bytes -/
theorem law (l : Launch) (a : Addr) (D : Cell) (fV fC : Field) (b : Addr) (A : Cell) (z : Int32) : Law l yN 2 1 3 52 yB 2 none site (P a D fV fC b A z) (E a D fV fC A) [⟨a, fC.slot⟩, ⟨a, fV.slot⟩] 1 A.slots.size := by
  refine Law.of_walk (plainFor_of_name (by decide +kernel)) (by decide +kernel) (by decide +kernel) (by decide) (fun _ _ h => by rw [h.1]; rfl) (fun _ U U' hal hh h => ⟨h.1, h.2.1.mv hal hh, h.2.2.1.al hal, h.2.2.2.1.al hal, h.2.2.2.2.1.mv hal hh, h.2.2.2.2.2.1.there hal hh, h.2.2.2.2.2.2⟩) (fun r U U' V V' h1 hal h2 h => Got.mv r U U' V V' h1 hal h2 h) ?_
  intro p e s m args below meth c s₁ X0 hexec hbytes hml hret hlk hnm hown hh0 W hP
  obtain ⟨rfl, hB, f1, f2, hA, s1, hz, l0, l2, hp⟩ := hP
  have c1 : Steps p.tables e below (s₁.setTop (entryFrame m #[.ref a, .ref b] 2)) (s₁.setTop (mkF m 0 #[.val (.ref a), .val (.ref b)] [])) := entry rfl
  have c2 : Steps p.tables e below (s₁.setTop (entryFrame m #[.ref a, .ref b] 2)) (s₁.setTop (mkF m 6 #[.val (.ref a), .val (.ref b)] [.null, .int (Int32.ofNat A.slots.size), .int 0, .ref b, .ref a])) := c1.trans (by
    refine XS.aloadN X0.here hexec rfl (hb hbytes d0) rfl rfl ?_
    refine XS.aloadN X0.here hexec rfl (hb hbytes d1) rfl rfl ?_
    refine iconstV X0.here hexec rfl 0 (hb hbytes d2) (by decide) ?_
    refine XS.aloadN X0.here hexec rfl (hb hbytes d3) rfl rfl ?_
    refine X0.alen hexec (hA.1.mv X0.warmed.alike hh0) rfl rfl (hb hbytes d4) ?_
    refine XS.aconstNull X0.here hexec rfl (hb hbytes d5) ?_
    exact Steps.refl _)
  obtain ⟨v3, T3, X3, E3, g3⟩ := X0.callN hexec (New4.law l a D fV fC b A z 0 A.slots.size) rfl hown (wks W (initW "java/lang/String" 27 New4.yN)) (W New4.tab (by simp only [site, List.mem_cons, List.mem_append, true_or, or_true])) (W := 0) (Nat.le_of_ble_eq_true rfl) (Nat.le_of_ble_eq_true rfl) (Nat.le_refl _) (by show 0 + A.slots.size ≤ A.slots.size; omega) (g := (mkF m 6 #[.val (.ref a), .val (.ref b)] [.null, .int (Int32.ofNat A.slots.size), .int (Int32.ofNat 0), .ref b, .ref a])) rfl (by rw [hml]; rfl) c2 (argsL := [.ref b, .int (Int32.ofNat 0), .int (Int32.ofNat A.slots.size), .null]) (rest := []) rfl rfl (by show 2 * 0 + 0 ≤ _; decide) (hb hbytes d6) (⟨rfl, hB.mv X0.warmed.alike hh0, f1.al X0.warmed.alike, f2.al X0.warmed.alike, hA.mv X0.warmed.alike hh0, s1.there X0.warmed.alike hh0, hz, l0, by omega, l2, fun i hi => by rw [Nat.zero_add]; exact hp i hi⟩)
  have e0 := Got.mv _ s₁ s _ _ hh0.symm (Vm.Alike.refl _) rfl E3
  obtain rfl := e0.1
  have c4 : Steps p.tables e below (s₁.setTop (entryFrame m #[.ref a, .ref b] 2)) (T3.setTop (mkF m 9 #[.val (.ref a), .val (.ref b)] [])) := g3
  exact ⟨T3, none, _, _, _, X3, by simp, rfl, by omega, (fun _ => rfl), e0, fun fs hl => c4.trans (X3.returnOut hexec hret (hb hbytes d9) hl)⟩
theorem pays {l : Launch} {R : Room} {p : Program} {e : Env} {below : List Frame} {s : State} {sargs : Array Value} {len W : Nat} (a : Addr) (D : Cell) (fV fC : Field) (b : Addr) (A : Cell) (z : Int32) (htab : tab.before sargs s = true) (hfr : 4 ≤ R.frames) (hlo : W + 65 ≤ R.locals) :
    Back l R p e below s sargs yN len W (fun A₁ a₁ => A₁.cells + 1 ≤ R.cells ∧ A₁.slots + A.slots.size ≤ R.slots ∧ P a D fV fC b A z a₁ A₁.U) (fun A₁ _ v₁ B₁ => E a D fV fC A v₁ A₁.U B₁.U ∧ B₁.locs = A₁.locs ++ [⟨a, fC.slot⟩, ⟨a, fV.slot⟩] ∧ B₁.cells = A₁.cells + 1 ∧ B₁.slots = A₁.slots + A.slots.size) :=
  (law l a D fV fC b A z).pays htab hfr (by omega)
end New1
end StrChars
namespace StrChars.Road
open Jvm Sem ClassFile Op Lib Jvm.Stand Jvm.Free Jvm.Free.XT
open Jvm.Lib.Cold (StaticIs)
abbrev ST : String := "java/lang/String"
/-- every table word that New1's law asks, flat -/
abbrev words : List Jvm.Cond := [.code New1.yN New1.yB 2 none, .initialized ST, .methodLink ST 27 New4.yN, .instanceMethod New4.yN,
  .code New4.yN New4.yB 6 none, .fieldLink ST 38 ST "COMPACT_STRINGS" "Z", .laysFinal ST ST "value" "[B", .fieldLink ST 9 ST "value" "[B", .laysFinal ST ST "coder" "B", .fieldLink ST 15 ST "coder" "B",
  .methodLink ST 1 Lib.objectInit, .instanceMethod Lib.objectInit, .code Lib.objectInit ⟨#[0xb1]⟩ 1 none, .methodLink ST 177 Cmp3.yN, .static Cmp3.yN, .methodLink ST 47 CodL.yN, .static CodL.yN,
  .code Cmp3.yN Cmp3.yB 6 (some (.array .byte)), .initialized U16, .arrayClass .byte, .methodLink U16 115 Cmp5.yN, .static Cmp5.yN, .code Cmp5.yN Cmp5.yB 7 (some .int), .code CodL.yN CodL.yB 2 (some .byte)]
theorem tab_of {a : Array Value} {s : State} (h : ∀ w ∈ words, w.before a s = true) : New1.tab.before a s = true := by
  have h5 : Cmp5.tab.before a s = true := unparts (wk h (.code Cmp5.yN Cmp5.yB 7 (some .int))) (wks h (.initialized Cmp5.yN.cls :: Cmp5.site))
  have hc : CodL.tab.before a s = true := unparts (wk h (.code CodL.yN CodL.yB 2 (some .byte))) (wks h (.initialized CodL.yN.cls :: CodL.site))
  have q5 : ∀ w ∈ Cmp5.tab :: words, w.before a s = true := fun w hw => (List.mem_cons.mp hw).elim (fun e => e ▸ h5) (h w)
  have h3 : Cmp3.tab.before a s = true := unparts (wk q5 (.code Cmp3.yN Cmp3.yB 6 (some (.array .byte)))) (wks q5 (.initialized Cmp3.yN.cls :: Cmp3.site))
  have q3 : ∀ w ∈ Cmp3.tab :: CodL.tab :: words, w.before a s = true := fun w hw => (List.mem_cons.mp hw).elim (fun e => e ▸ h3) fun hw => (List.mem_cons.mp hw).elim (fun e => e ▸ hc) (h w)
  have h4 : New4.tab.before a s = true := unparts (wk q3 (.code New4.yN New4.yB 6 none)) (wks q3 (.initialized New4.yN.cls :: New4.site))
  have q4 : ∀ w ∈ New4.tab :: words, w.before a s = true := fun w hw => (List.mem_cons.mp hw).elim (fun e => e ▸ h4) (h w)
  exact unparts (wk q4 (.code New1.yN New1.yB 2 none)) (wks q4 (.initialized New1.yN.cls :: New1.site))
/-- the words ride from the start Z to the walk's own state -/
theorem moved {Z s : State} {a0 args : Array Value} (hZ : Z.Warmed39 s.vm) (hw : ∀ d ∈ words, d.before a0 Z = true) : ∀ d ∈ words, d.before args s = true := fun d hd => by
  have q := hw d hd
  have t : ∀ d ∈ words, d = .arrayClass .byte ∨ (d.onTables && d.keepsFace) = true := by decide +kernel
  rcases t d hd with rfl | t
  · exact RoadKit.mvA hZ q
  · exact RoadKit.mv hZ q t
/-- WHAT COMES BACK, over the tables of the start Z: h the heap at the call, h' behind it -/
def Q (Z : State) (x : Addr) (A : Cell) (h : Heap) (v : Option Value) (h' : Heap) (L : List Loc) : Prop := v = none ∧ (∀ y ∈ L, y.base = x) ∧ RoadKit.Keep h h' [x] ∧ h'.size = h.size + 1 ∧ RoadKit.Exa Z h' x ST ∧ RoadKit.Fld Z h' x ST "value" "[B" (.ref h.size) ∧ RoadKit.Fld Z h' x ST "coder" "B" (.int 0) ∧
  (∃ V : Cell, RoadKit.Arr Z h' h.size V .byte ∧ V.vm = .none ∧ Z.vm.findClass "[B" = some V.cls ∧ V.slots.size = A.slots.size ∧ ∀ j, j < A.slots.size → V.slots[j]? = some (.int (lo8 (cv A j)))) ∧
  ∀ (O n d : String) (w : Value), RoadKit.Fld Z h x O n d w → RoadKit.slotOf Z O n d ≠ RoadKit.slotOf Z ST "value" "[B" → RoadKit.slotOf Z O n d ≠ RoadKit.slotOf Z ST "coder" "B" → RoadKit.Fld Z h' x O n d w
/-- **new String(chars) AT A CALL, IN THE ROAD'S FORM**: for specialBack behind newO: x the fresh String, b the char[] with the cell A -/
theorem back {p : Program} {l : Launch} {e : Env} {R : Room} {s : State} {args : Array Value} {below : List Frame} {len W : Nat} {Z : State} {a0 : Array Value} {h : Heap} (hZ : Z.Warmed39 s.vm) (hw : ∀ d ∈ words, d.before a0 Z = true) {kI : Nat} (wi : (Jvm.Cond.instantiable ST kI).before a0 Z = true)
    {x b : Addr} {A : Cell} {z : Int32} {v0 c0 : Value} (E : RoadKit.Exa Z h x ST) (V : RoadKit.Fld Z h x ST "value" "[B" v0) (C : RoadKit.Fld Z h x ST "coder" "B" c0) (K : RoadKit.Arr Z h b A .char) (hty : Typed .char A) (S : RoadKit.Sta Z h ST "COMPACT_STRINGS" "Z" (.int z)) (hz : ¬ z = 0)
    (l0 : 0 < A.slots.size) (l2 : A.slots.size ≤ 536870912) (hp : ∀ i, i < A.slots.size → ¬ 255 < cv A i) (hfr : 4 ≤ R.frames) (hlo : W + 65 ≤ R.locals) :
    Back l R p e below s args New1.yN len W (fun P a => a = #[.ref x, .ref b] ∧ P.U.heap = h ∧ P.cells + 1 ≤ R.cells ∧ P.slots + A.slots.size ≤ R.slots)
      (fun P _ v B => ∃ L, Q Z x A h v B.U.heap L ∧ B.locs = P.locs ++ L ∧ B.cells = P.cells + 1 ∧ B.slots = P.slots + A.slots.size) := by
  intro m meth c P g ig mk a X hg hsize hdg hW hn hp'
  obtain ⟨rfl, rfl, r1, r2⟩ := hp'
  have al : Z.vm.Alike P.U.vm := hZ.alike.trans X.warmed.alike
  obtain ⟨D, cfV, kV, iV, fV, hD, gV, stV, knV, obV, asV, slV⟩ := id V
  obtain ⟨D', cfC, kC, iC, fC, hD', gC, stC, -, -, asC, slC⟩ := id C
  cases hD.symm.trans hD'
  obtain ⟨D2, kD, e1, e2, e3, e4, e5⟩ := id E
  cases hD.symm.trans e1
  obtain ⟨c2, k2, i1, i2, i3, -⟩ := Cond.instantiable_spec wi
  cases e2.symm.trans i1
  cases e3.symm.trans i2
  obtain ⟨kU, u1, u2⟩ := al.2.2 _ _ e3
  have hB : Blank ST x D P.U := ⟨hD, ⟨knV, fun q hq => by rw [hq] at obV; cases obV⟩, by rw [al.findClass]; exact e2, kU, u1, by rw [u2]; exact i3, by rw [u2]; exact e5 i3⟩
  have F1 : Found ST "value" "[B" fV P.U := ⟨SBG.found_only al ⟨cfV, kV, iV, gV⟩, stV⟩
  have F2 : Found ST "coder" "B" fC P.U := ⟨SBG.found_only al ⟨cfC, kC, iC, gC⟩, stC⟩
  have hA : Ch b A P.U := ⟨⟨K.1, State.isArrayOf_alike al K.2.1, K.2.2, by omega⟩, hty⟩
  have hS : StaticIs P.U ST "COMPACT_STRINGS" "Z" (.int z) := by
    obtain ⟨cfS, iS, kS, fS, st, cS, t1, t2, t3, t4, t5, t6, t7⟩ := S
    exact StaticIs.there (s := { Z with heap := P.U.heap }) ⟨cfS, iS, kS, fS, st, cS, t1, t2, t3, t4, t5, (fun q => by rw [q] at t6; cases t6), t7⟩ al rfl
  obtain ⟨v, B, X', ⟨⟨hv, E', V', q1, q2, q3, q4, q5, q6, q7, q8, q9, q10, q11⟩, hl, hc, hs⟩, st⟩ := New1.pays x D fV fC b A z (tab_of (moved hZ hw)) hfr hlo m meth c P g ig mk _ X hg hsize hdg hW hn ⟨r1, r2, rfl, hB, F1, F2, hA, hS, hz, l0, l2, hp⟩
  have al' : Z.vm.Alike B.U.vm := hZ.alike.trans X'.warmed.alike
  have hsz : E'.slots.size = D.slots.size := by
    obtain ⟨-, -, -, kB, w1, w2, w3⟩ := q1
    obtain ⟨kB', y1, y2⟩ := al'.2.2 _ _ e3
    rw [q2.2.1] at w1
    cases w1.symm.trans y1
    rw [w3, e5 i3, y2]
  refine ⟨v, B, X', ⟨_, ⟨hv, ?_, ⟨by omega, fun y cy hy hn' => q10 y cy (by simpa using hn') hy, fun y cy hy => ?_⟩, q11, ⟨E', _, q1.1, by rw [q2.2.1]; exact e2, by rw [q2.2.1]; exact e3, by rw [q2.1]; exact obV, fun _ => by rw [hsz]; exact e5 i3⟩,
    ⟨E', cfV, kV, iV, fV, q1.1, gV, stV, by rw [q2.1]; exact knV, by rw [q2.1]; exact obV, by rw [q2.2.1]; exact asV, q3⟩, ⟨E', cfC, kC, iC, fC, q1.1, gC, stC, by rw [q2.1]; exact knV, by rw [q2.1]; exact obV, by rw [q2.2.1]; exact asC, q4⟩,
    ⟨V', ⟨q5.1, State.isArrayOf_alike al'.symm q5.2.1, q5.2.2.1⟩, q6, by rw [← al'.findClass]; exact q7, q8, fun j hj => by have := q9 j hj; rwa [Nat.zero_add] at this⟩, fun O n d w F n1 n2 => ?_⟩, hl, hc, hs⟩, st⟩
  · intro y hy
    simp only [List.mem_cons, List.not_mem_nil, or_false] at hy
    rcases hy with rfl | rfl <;> rfl
  · by_cases q : y = x
    · subst q
      cases hD.symm.trans hy
      exact ⟨E', q1.1, q2.2.1, q2.1, hsz⟩
    · exact ⟨cy, q10 y cy q hy, rfl, rfl, rfl⟩
  · obtain ⟨D3, cf, k, i, f, g1, g2, g3, g4, g5, g6, g7⟩ := F
    cases hD.symm.trans g1
    simp only [RoadKit.slotOf, g2, gV, gC, Option.map_some, Option.getD_some] at n1 n2
    exact ⟨E', cf, k, i, f, q1.1, g2, g3, by rw [q2.1]; exact g4, by rw [q2.1]; exact g5, by rw [q2.2.1]; exact g6, by rw [q2.2.2 f.slot (by simp [n1, n2])]; exact g7⟩
end StrChars.Road
namespace StrChars.Road
open Jvm Sem ClassFile Op Lib Jvm.Stand Jvm.Free Jvm.Free.XT
/-- WHAT COMES BACK, the byte[] as a list of values -/
def QA (Z : State) (x : Addr) (zn : Int32) (cs : List Int32) (h : Heap) (v : Option Value) (h' : Heap) (L : List Loc) : Prop := v = none ∧ (∀ y ∈ L, y.base = x) ∧ RoadKit.Keep h h' [x] ∧ h'.size = h.size + 1 ∧ RoadKit.Exa Z h' x ST ∧ RoadKit.Fld Z h' x ST "value" "[B" (.ref h.size) ∧ RoadKit.Fld Z h' x ST "coder" "B" (.int 0) ∧
  (∃ kb, Z.vm.findClass "[B" = some kb ∧ RoadKit.Arv Z h' h.size kb .byte zn (cs.map fun c => .int (lo8 c)) (.int 0)) ∧
  ∀ (O n d : String) (w : Value), RoadKit.Fld Z h x O n d w → RoadKit.slotOf Z O n d ≠ RoadKit.slotOf Z ST "value" "[B" → RoadKit.slotOf Z O n d ≠ RoadKit.slotOf Z ST "coder" "B" → RoadKit.Fld Z h' x O n d w
/-- **new String(chars) AT A CALL, THE ARRAYS AS LISTS**: the char[] at b holds cs, not empty, no char above 255 -/
theorem backArv {p : Program} {l : Launch} {e : Env} {R : Room} {s : State} {args : Array Value} {below : List Frame} {len W : Nat} {Z : State} {a0 : Array Value} {h : Heap} (hZ : Z.Warmed39 s.vm) (hw : ∀ d ∈ words, d.before a0 Z = true) {kI : Nat} (wi : (Jvm.Cond.instantiable ST kI).before a0 Z = true)
    {x b : Addr} {k : ClassId} {zn z : Int32} {cs : List Int32} {dv v0 c0 : Value} (E : RoadKit.Exa Z h x ST) (V : RoadKit.Fld Z h x ST "value" "[B" v0) (C : RoadKit.Fld Z h x ST "coder" "B" c0) (K : RoadKit.Arv Z h b k .char zn (cs.map Value.int) dv) (S : RoadKit.Sta Z h ST "COMPACT_STRINGS" "Z" (.int z)) (hz : ¬ z = 0)
    (hlen : zn.toNatClampNeg = cs.length) (h0 : 0 < cs.length) (hbig : cs.length ≤ 536870912) (hall : ∀ c ∈ cs, ¬ 255 < c) (hfr : 4 ≤ R.frames) (hlo : W + 65 ≤ R.locals) :
    Back l R p e below s args New1.yN len W (fun P a => a = #[.ref x, .ref b] ∧ P.U.heap = h ∧ P.cells + 1 ≤ R.cells ∧ P.slots + cs.length ≤ R.slots)
      (fun P _ v B => ∃ L, QA Z x zn cs h v B.U.heap L ∧ B.locs = P.locs ++ L ∧ B.cells = P.cells + 1 ∧ B.slots = P.slots + cs.length) := by
  obtain ⟨A, K1, K2, K3, K4, K5, K6⟩ := K
  have e : A.slots.size = cs.length := K3.trans hlen
  have hat : ∀ (i : Nat) (hi : i < cs.length), A.slots[i]? = some (.int cs[i]) := fun i hi => by rw [K5 i (by omega)]; simp [List.getD_eq_getElem?_getD, hi]
  have hcv : ∀ (i : Nat) (hi : i < cs.length), cv A i = cs[i] := fun i hi => by unfold cv; rw [hat i hi]
  have hty : Typed .char A := fun i v hv => by
    have hi : i < A.slots.size := (Array.getElem?_eq_some_iff.mp hv).1
    have q := K5 i hi
    rw [hv] at q
    rw [Option.some.inj q]
    exact K6 i hi
  refine Back.mono (back hZ hw wi E V C K1 hty S hz (by omega) (by omega) (fun i hi => by rw [hcv i (by omega)]; exact hall _ (List.getElem_mem _)) hfr hlo) (fun P a hp => ⟨hp.1, hp.2.1, hp.2.2.1, by rw [e]; exact hp.2.2.2⟩) (fun P a v B hp hq => ?_)
  obtain ⟨L, ⟨q1, q2, q3, q4, q5, q6, q7, ⟨V', v1, v2, v3, v4, v5⟩, q9⟩, hl, hc, hs⟩ := hq
  refine ⟨L, ⟨q1, q2, q3, q4, q5, q6, q7, ⟨V'.cls, v3, V', v1, rfl, by rw [v4, e, hlen], K4, fun i hi => ?_, fun i hi => ?_⟩, q9⟩, hl, hc, by rw [hs, e]⟩
  · have hi' : i < cs.length := by omega
    rw [v5 i (by omega), hcv i hi']; simp [List.getD_eq_getElem?_getD, hi']
  · have hi' : i < cs.length := by omega
    simp only [List.getD_eq_getElem?_getD, List.getElem?_map, List.getElem?_eq_getElem hi', Option.map_some, Option.getD_some]
    exact fits_lo8 _
end StrChars.Road
namespace StrChars.Road
open Jvm Sem ClassFile Op Lib Jvm.Stand Jvm.Free Jvm.Free.XT
/-- WHAT COMES BACK, in the writer's own shape -/
def QV (Z : State) (x : Addr) (N : Int32) (bs : List Int32) (h : Heap) (n0 : Nat) (v : Option Value) (h' : Heap) (L : List Loc) : Prop := v = none ∧ RoadKit.Fr n0 L ∧ RoadKit.Keep h h' [x] ∧ RoadKit.Exa Z h' x ST ∧ RoadKit.Fld Z h' x ST "coder" "B" (.int 0) ∧
  ∃ (t : Addr) (kb : ClassId), n0 ≤ t ∧ h.size ≤ t ∧ ¬ t = x ∧ RoadKit.Fld Z h' x ST "value" "[B" (.ref t) ∧ RoadKit.Arv Z h' t kb .byte N (bs.map Value.int) (.int 0)
/-- **new String(chars) AT A CALL, FOR THE WRITER**: a char[] of n known ints, each 0 to 255 -/
theorem backV {p : Program} {l : Launch} {e : Env} {R : Room} {s : State} {args : Array Value} {below : List Frame} {len W : Nat} {Z : State} {a0 : Array Value} {h : Heap} (hZ : Z.Warmed39 s.vm) (hw : ∀ d ∈ words, d.before a0 Z = true) {kI : Nat} (wi : (Jvm.Cond.instantiable ST kI).before a0 Z = true)
    {x b : Addr} {kC : ClassId} {cs bs : List Int32} {d v0 c0 : Value} {z N : Int32} {n n0 : Nat} (hx0 : n0 ≤ x) (hh0 : n0 ≤ h.size) (E : RoadKit.Exa Z h x ST) (V : RoadKit.Fld Z h x ST "value" "[B" v0) (C : RoadKit.Fld Z h x ST "coder" "B" c0) (K : RoadKit.Arv Z h b kC .char N (cs.map Value.int) d) (S : RoadKit.Sta Z h ST "COMPACT_STRINGS" "Z" (.int z)) (hz : ¬ z = 0)
    (hn : cs.length = n) (hN : N = Int32.ofNat n) (l0 : 0 < n) (l2 : n ≤ 4000) (hp : ∀ c ∈ cs, ¬ c < 0 ∧ ¬ (255 : Int32) < c) (hb : bs = cs.map (fun c => c.toInt8.toInt32)) (hfr : 4 ≤ R.frames) (hlo : W + 65 ≤ R.locals) :
    Back l R p e below s args (⟨"java/lang/String", "<init>", "([C)V"⟩ : MethodName) len W (fun P a => a = #[.ref x, .ref b] ∧ P.U.heap = h ∧ P.cells + 1 ≤ R.cells ∧ P.slots + n ≤ R.slots)
      (fun P _ v B => ∃ L, QV Z x N bs h n0 v B.U.heap L ∧ B.locs = P.locs ++ L ∧ B.cells = P.cells + 1 ∧ B.slots = P.slots + n) := by
  subst hn hN hb
  refine Back.mono (backArv hZ hw wi E V C K S hz (n32 (by omega)) l0 (by omega) (fun c hc => (hp c hc).2) hfr hlo) (fun P a hp => hp) (fun P a v B hp hq => ?_)
  obtain ⟨L, ⟨q1, q2, q3, q4, q5, q6, q7, ⟨kb, v1, v2⟩, q9⟩, hl, hc, hs⟩ := hq
  exact ⟨L, ⟨q1, fun y hy => by rw [q2 y hy]; exact hx0, q3, q5, q7, h.size, kb, hh0, Nat.le_refl _, Nat.ne_of_gt E.lt, q6, by rw [List.map_map]; exact v2⟩, hl, hc, hs⟩
end StrChars.Road
end Jvm.Pilot.@@N@@

namespace Jvm.OwnW
open Jvm Jvm.ClassFile Sem Op Lib Jvm.Free Jvm.Stand Jvm.LawKit Jvm.RoadKit Bundle
/-! A small calculus of weakest preconditions over the library's Stand: own text. WP says: from this place every run of this body ends well. -/
def Cx (p : Program) (meth : Method) (c : Code) (nm : String) (bytes : ByteArray) (maxL : Nat) (ret : Option FieldType) : Prop :=
  p.tables.exec = Jvm.exec ∧ c.code = bytes ∧ c.maxLocals = maxL ∧ meth.sig.returnType = ret ∧ meth.locks = false ∧ meth.name = nm
def Pl (l : Launch) (Z : State) (EL : List (String × Nat)) (nar : Bool) (own : String) (R : Room) (p : Program) (e : Env) (s : State) (m : MethodId) (args : Array Value) (below : List Frame) (meth : Method) (c : Code) (vm : Vm) (h : Heap) (T : State) (L : List Loc) (ce sl : Nat) : Prop :=
  Stand p l e R (s.setVm vm) m args below meth c T L ce sl ∧ (∃ k0, s.Since vm k0 ∧ k0 ≤ h.size) ∧ Z.Warmed39 vm ∧ vm.findClass own = some m.cls ∧ T.heap = h ∧ Fr Z.heap.size L ∧ Ext Z.heap h ∧ CHr Z EL s.vm s.heap vm h ∧ (nar = true → s.WarmedH vm) ∧ ∃ a0, EW Z a0 EL
def Fine (Z : State) (EL : List (String × Nat)) (nar : Bool) (R : Room) (Q : Option Value → Heap → Prop) (p : Program) (e : Env) (s : State) (below : List Frame) (S0 : State) : Prop :=
  ∃ t o, Steps p.tables e below S0 t ∧ t.status = .running ∧ Ended t below o ∧ ∃ v L, o = .returned v ∧ Q v t.heap ∧ Ext Z.heap t.heap ∧ Fr Z.heap.size L ∧ CHr Z EL s.vm s.heap t.vm t.heap ∧ (nar = true → s.WarmedH t.vm) ∧ ReturnedEndW s o t L R.cells R.slots
def WP (l : Launch) (Z : State) (EL : List (String × Nat)) (nar : Bool) (own nm : String) (bytes : ByteArray) (maxL : Nat) (ret : Option FieldType) (R : Room) (Q : Option Value → Heap → Prop) (vm : Vm) (h : Heap) (ce sl pc : Nat) (Ls : Array Slot) (st : List Value) : Prop :=
  ∀ p e s m args below meth c T L, Cx p meth c nm bytes maxL ret → Pl l Z EL nar own R p e s m args below meth c vm h T L ce sl → Fine Z EL nar R Q p e s below (T.setTop (mkF m pc Ls st))
def Con (l : Launch) (Z : State) (EL : List (String × Nat)) (nar : Bool) (sf : List Addr) (y : MethodName) (bytes : ByteArray) (maxL : Nat) (ret : Option FieldType) (rm : Room) (as' : Array Value) (h0 : Heap) (Q : Option Value → Heap → Prop) : Prop :=
  ∀ ws, MetFree l y (head1 (Cond.code y bytes maxL ret :: ws) rm) (fun a U => a = as' ∧ Z.Warmed39 U.vm ∧ U.heap = h0 ∧ Ext Z.heap h0 ∧ CHv Z EL U.vm h0 ∧ ∀ x ∈ sf, Safe Z EL U.vm h0 x) (fun _ _ _ _ _ => True)
    (fun _ U o U' => ∃ v L, o = .returned v ∧ Q v U'.heap ∧ Ext Z.heap U'.heap ∧ Fr Z.heap.size L ∧ CHr Z EL U.vm U.heap U'.vm U'.heap ∧ (nar = true → U.WarmedH U'.vm) ∧ ReturnedEndW U o U' L rm.cells rm.slots)
section Basic
variable {l : Launch} {Z : State} {EL : List (String × Nat)} {nar : Bool} {own nm : String} {bytes : ByteArray} {maxL : Nat} {ret : Option FieldType} {R : Room} {Q : Option Value → Heap → Prop} {vm : Vm} {h : Heap} {ce sl pc n : Nat} {Ls Ls' : Array Slot} {st st' : List Value} {a0 : Array Value}
theorem ext_refl (h : Heap) : Ext h h := ⟨Nat.le_refl _, fun _ _ q => q⟩
theorem ext_trans {h1 h2 h3 : Heap} (E : Ext h1 h2) (F : Ext h2 h3) : Ext h1 h3 := ⟨Nat.le_trans E.1 F.1, fun a c q => F.2 a c (E.2 a c q)⟩
theorem ext_keep {h1 h2 h3 : Heap} {ws : List Addr} (E : Ext h1 h2) (K : Keep h2 h3 ws) (q : ∀ x ∈ ws, h1.size ≤ x) : Ext h1 h3 :=
  ⟨Nat.le_trans E.1 K.1, fun a c r => K.2.1 a c (E.2 a c r) fun z => absurd (Array.getElem?_eq_some_iff.mp r).1 (Nat.not_lt.mpr (q a z))⟩
theorem ext_wr {h1 h2 h3 : Heap} {a : Addr} {i : Nat} {v : Value} (E : Ext h1 h2) (W : Wr h2 h3 a i v) (q : h1.size ≤ a) : Ext h1 h3 :=
  ext_keep E (Keep.of_wr W) fun x hx => by cases List.mem_singleton.mp hx; exact q
theorem ext_keep1 {h1 h2 h3 : Heap} {a : Addr} (E : Ext h1 h2) (K : Keep h2 h3 [a]) (q : h1.size ≤ a) : Ext h1 h3 := ext_keep E K fun x hx => by cases List.mem_singleton.mp hx; exact q
theorem ext_keep0 {h1 h2 : Heap} (K : Keep h1 h2 []) : Ext h1 h2 := ext_keep (ext_refl _) K fun x hx => nomatch hx
/-- what always holds where the walk stands -/
theorem WP.inv (k : Z.Warmed39 vm → Ext Z.heap h → CHv Z EL vm h → WP l Z EL nar own nm bytes maxL ret R Q vm h ce sl pc Ls st) : WP l Z EL nar own nm bytes maxL ret R Q vm h ce sl pc Ls st := by
  intro p e s m args below meth c T L cx pl
  exact k pl.2.2.1 pl.2.2.2.2.2.2.1 pl.2.2.2.2.2.2.2.1.1 p e s m args below meth c T L cx pl
/-- fewer cells and slots made are at most more -/
theorem WP.more {ce' sl' : Nat} (hc : ce ≤ ce') (hs : sl ≤ sl') (k : WP l Z EL nar own nm bytes maxL ret R Q vm h ce' sl' pc Ls st) : WP l Z EL nar own nm bytes maxL ret R Q vm h ce sl pc Ls st := by
  intro p e s m args below meth c T L cx pl
  exact k p e s m args below meth c T L cx ⟨pl.1.mono hc hs, pl.2⟩
theorem WP.post {Q' : Option Value → Heap → Prop} (hq : ∀ v h', Q' v h' → Q v h') (k : WP l Z EL nar own nm bytes maxL ret R Q' vm h ce sl pc Ls st) : WP l Z EL nar own nm bytes maxL ret R Q vm h ce sl pc Ls st := by
  intro p e s m args below meth c T L cx pl
  obtain ⟨t, o, h1, h2, h3, v, L', h4, h5, r⟩ := k p e s m args below meth c T L cx pl
  exact ⟨t, o, h1, h2, h3, v, L', h4, hq _ _ h5, r⟩
/-- a step that leaves the state as it is -/
theorem WP.step (hs : ∀ (p : Program) (e : Env) (below : List Frame) (T target : State) (m : MethodId) (c : Code), p.tables.exec = Jvm.exec → c.code = bytes → At T m c below → Steps p.tables e below (T.setTop (mkF m n Ls' st')) target → Steps p.tables e below (T.setTop (mkF m pc Ls st)) target)
    (k : WP l Z EL nar own nm bytes maxL ret R Q vm h ce sl n Ls' st') : WP l Z EL nar own nm bytes maxL ret R Q vm h ce sl pc Ls st := by
  intro p e s m args below meth c T L cx pl
  obtain ⟨t, o, h1, r⟩ := k p e s m args below meth c T L cx pl
  exact ⟨t, o, hs p e below T t m c cx.1 cx.2.1 pl.1.here h1, r⟩
/-- a step that leaves the heap as it is (the tables may warm) -/
theorem WP.look (hs : ∀ (p : Program) (e : Env) (s : State) (args : Array Value) (below : List Frame) (T : State) (m : MethodId) (meth : Method) (c : Code) (L : List Loc), p.tables.exec = Jvm.exec → c.code = bytes → Stand p l e R (s.setVm vm) m args below meth c T L ce sl → Z.Warmed39 (s.setVm vm).vm → (s.setVm vm).vm.findClass own = some m.cls → T.heap = h →
      ∃ T', Stand p l e R (s.setVm vm) m args below meth c T' L ce sl ∧ T'.heap = h ∧ ∀ target, Steps p.tables e below (T'.setTop (mkF m n Ls' st')) target → Steps p.tables e below (T.setTop (mkF m pc Ls st)) target)
    (k : WP l Z EL nar own nm bytes maxL ret R Q vm h ce sl n Ls' st') : WP l Z EL nar own nm bytes maxL ret R Q vm h ce sl pc Ls st := by
  intro p e s m args below meth c T L cx ⟨X, hS, hZ, hown, eT, N, hE, hC, hW, hEL⟩
  obtain ⟨T', X', e', stp⟩ := hs p e s args below T m meth c L cx.1 cx.2.1 X hZ hown eT
  obtain ⟨t, o, h1, r⟩ := k p e s m args below meth c T' L cx ⟨X', hS, hZ, hown, e', N, hE, hC, hW, hEL⟩
  exact ⟨t, o, stp _ h1, r⟩
/-- a step that makes a cell -/
theorem WP.make {ce' sl' : Nat} {P : Heap → Prop} (hs : ∀ (p : Program) (e : Env) (s : State) (args : Array Value) (below : List Frame) (T : State) (m : MethodId) (meth : Method) (c : Code) (L : List Loc), p.tables.exec = Jvm.exec → c.code = bytes → Stand p l e R (s.setVm vm) m args below meth c T L ce sl → Z.Warmed39 (s.setVm vm).vm → (s.setVm vm).vm.findClass own = some m.cls → T.heap = h →
      ∃ T' h', Stand p l e R (s.setVm vm) m args below meth c T' L ce' sl' ∧ T'.heap = h' ∧ Ext h h' ∧ P h' ∧ ∀ target, Steps p.tables e below (T'.setTop (mkF m n Ls' st')) target → Steps p.tables e below (T.setTop (mkF m pc Ls st)) target)
    (k : ∀ h', Ext h h' → P h' → CHr Z EL vm h vm h' → WP l Z EL nar own nm bytes maxL ret R Q vm h' ce' sl' n Ls' st') : WP l Z EL nar own nm bytes maxL ret R Q vm h ce sl pc Ls st := by
  intro p e s m args below meth c T L cx ⟨X, ⟨k0, hS, hk⟩, hZ, hown, eT, N, hE, hC, hW, hEL⟩
  obtain ⟨T', h', X', e', E', hP, stp⟩ := hs p e s args below T m meth c L cx.1 cx.2.1 X hZ hown eT
  have hR : CHr Z EL vm h vm h' := CHr.ext E' hC.1
  obtain ⟨t, o, h1, r⟩ := k h' E' hP hR p e s m args below meth c T' L cx ⟨X', ⟨k0, hS, Nat.le_trans hk E'.1⟩, hZ, hown, e', N, ext_trans hE E', hC.trans hR, hW, hEL⟩
  exact ⟨t, o, stp _ h1, r⟩
/-- a step that writes one place of a new cell -/
theorem WP.write {a : Addr} {i : Nat} {v : Value} (ha : Z.heap.size ≤ a) (hsafe : Z.Warmed39 vm → Safe Z EL vm h a)
    (hs : ∀ (p : Program) (e : Env) (s : State) (args : Array Value) (below : List Frame) (T : State) (m : MethodId) (meth : Method) (c : Code) (L : List Loc), p.tables.exec = Jvm.exec → c.code = bytes → meth.name = nm → Stand p l e R (s.setVm vm) m args below meth c T L ce sl → Z.Warmed39 (s.setVm vm).vm → (s.setVm vm).vm.findClass own = some m.cls → T.heap = h →
      ∃ T' h', Stand p l e R (s.setVm vm) m args below meth c T' (L ++ [⟨a, i⟩]) ce sl ∧ T'.heap = h' ∧ Wr h h' a i v ∧ ∀ target, Steps p.tables e below (T'.setTop (mkF m n Ls' st')) target → Steps p.tables e below (T.setTop (mkF m pc Ls st)) target)
    (k : ∀ h', Wr h h' a i v → CHr Z EL vm h vm h' → WP l Z EL nar own nm bytes maxL ret R Q vm h' ce sl n Ls' st') : WP l Z EL nar own nm bytes maxL ret R Q vm h ce sl pc Ls st := by
  intro p e s m args below meth c T L cx ⟨X, ⟨k0, hS, hk⟩, hZ, hown, eT, N, hE, hC, hW, hEL⟩
  obtain ⟨T', h', X', e', W', stp⟩ := hs p e s args below T m meth c L cx.1 cx.2.1 cx.2.2.2.2.2 X hZ hown eT
  have hR : CHr Z EL vm h vm h' := CHr.wr W' (hsafe hZ) hC.1
  obtain ⟨t, o, h1, r⟩ := k h' W' hR p e s m args below meth c T' _ cx ⟨X', ⟨k0, hS, by rw [W'.size]; exact hk⟩, hZ, hown, e', Fr.snoc X' N ha, ext_wr hE W' ha, hC.trans hR, hW, hEL⟩
  exact ⟨t, o, stp _ h1, r⟩
/-- the end -/
theorem WP.done {v : Option Value} (hc : ce ≤ R.cells) (hsl : sl ≤ R.slots) (hv : ret = none → v = none)
    (hs : ∀ (p : Program) (e : Env) (s : State) (args : Array Value) (below : List Frame) (T : State) (m : MethodId) (meth : Method) (c : Code) (L : List Loc) (fs : List Frame), p.tables.exec = Jvm.exec → c.code = bytes → meth.sig.returnType = ret → Stand p l e R (s.setVm vm) m args below meth c T L ce sl →
      (∀ (f : JFrame) (acts : List Action), f.method = m → f.locked = none → f.entered = [] → (doReturn e (T.setTop f) acts v).1 = T.setFrames fs) → Steps p.tables e below (T.setTop (mkF m pc Ls st)) (T.setFrames fs))
    (hq : Q v h) : WP l Z EL nar own nm bytes maxL ret R Q vm h ce sl pc Ls st := by
  intro p e s m args below meth c T L cx ⟨X, ⟨k0, hS, hk⟩, hZ, hown, eT, N, hE, hC, hW, a0, hEL⟩
  have hlk : meth.locks = false := cx.2.2.2.2.1
  obtain ⟨fs, hr, hrun, hend, hret⟩ := X.leaveW hS (by rw [eT]; exact hk) (v := v) (fun q => hv (cx.2.2.2.1 ▸ q))
  refine ⟨_, _, hs p e s args below T m meth c L fs cx.1 cx.2.1 cx.2.2.2.1 X hr, hrun, hend, v, L, rfl, ?_, ?_, N, ?_, fun q => ?_, ?_⟩
  · show Q v T.heap
    rw [eT]; exact hq
  · show Ext Z.heap T.heap
    rw [eT]; exact hE
  · show CHr Z EL s.vm s.heap T.vm T.heap
    rw [eT]; exact hC.trans (CHv.at X hZ hEL hC.1)
  · exact State.WarmedH.trans (t := s.setVm vm) (hW q) X.warmed
  · obtain ⟨r1, r2, r3, r4⟩ := hret
    exact ⟨r1, r2, r3, r4.mono hc hsl⟩
/-- a body's contract out of its walk -/
theorem Con.of {sf : List Addr} {y : MethodName} {as' : Array Value} (hpn : plainFor y = true) (hEL : EW Z a0 EL) (hef : ∀ m, entryFrame m as' maxL = mkF m 0 Ls [])
    (k : ∀ vm, Z.Warmed39 vm → Ext Z.heap h → CHv Z EL vm h → (∀ x ∈ sf, Safe Z EL vm h x) → WP l Z EL nar y.cls y.name bytes maxL ret R Q vm h 0 0 0 Ls []) : Con l Z EL nar sf y bytes maxL ret R as' h Q := by
  intro ws
  refine MetFree.of_bodySF hpn hisR ?_
  intro p e s m args below meth c s₁ Bd hml hP hK
  obtain ⟨rfl, hZ, hh, hE, hC, hS⟩ := hP
  have X0 : Stand p l e R s m args below meth c s₁ [] 0 0 := Stand.of_body Bd
  have e0 : s₁.heap = h := by rw [← hh, Bd.state]; rfl
  obtain ⟨t, o, h1, h2, h3, r⟩ := k s.vm hZ hE hC hS p e s m args below meth c s₁ [] ⟨Bd.exec, Bd.bytes, hml, Bd.returns, Bd.notSynchronized, (name_of_methodNamed Bd.named Bd.method).1⟩
    ⟨X0, ⟨s.heap.size, (State.WarmedH.refl s).since _, by rw [hh]; exact Nat.le_refl _⟩, hZ, findClass_of_methodNamed Bd.named, e0, Fr.nil _, hE, by rw [hh]; exact CHr.refl hC, fun _ => State.WarmedH.refl s, a0, hEL⟩
  exact ⟨t, o, castTop (hef m) h1, h2, h3, r⟩
theorem Con.post {sf : List Addr} {y : MethodName} {as' : Array Value} {Q' : Option Value → Heap → Prop} (C : Con l Z EL nar sf y bytes maxL ret R as' h Q') (hq : ∀ v h', Q' v h' → Q v h') : Con l Z EL nar sf y bytes maxL ret R as' h Q := by
  intro ws p e ha hc hk s m args below hf happ hP hK
  obtain ⟨n, o, h1, h2, h3, v, L, h4, h5, r⟩ := C ws p e ha hc hk s m args below hf happ hP hK
  exact ⟨n, o, h1, h2, h3, v, L, h4, hq _ _ h5, r⟩
theorem Con.back {sf : List Addr} {y : MethodName} {as' : Array Value} {a1 : Array Value} {p : Program} {e : Env} {below : List Frame} {s : State} {args : Array Value} {len Wd : Nat} {rm : Room} (C : Con l Z EL nar sf y bytes maxL ret rm as' h Q) (hEL : EW Z a1 EL) (hZ : Z.Warmed39 vm) (wc : (Cond.code y bytes maxL ret).before a0 Z = true) (wz : (Cond.initialized y.cls).before a0 Z = true)
    (hf : rm.frames + 1 ≤ R.frames) (hl : Wd + (maxL + 11) + rm.locals ≤ R.locals) (hE : Ext Z.heap h) (H : CHv Z EL vm h) (hsf : ∀ x ∈ sf, Safe Z EL vm h x ∧ x < h.size) :
    BackS l R p e below (s.setVm vm) args y len Wd (fun A a => a = as' ∧ A.U.heap = h ∧ A.cells + rm.cells ≤ R.cells ∧ A.slots + rm.slots ≤ R.slots)
      (fun A _ v B => ∃ L, Q v B.U.heap ∧ Ext Z.heap B.U.heap ∧ Fr Z.heap.size L ∧ B.locs = A.locs ++ L ∧ B.cells = A.cells + rm.cells ∧ B.slots = A.slots + rm.slots ∧ CHr Z EL vm h B.U.vm B.U.heap ∧ (nar = true → (s.setVm vm).WarmedH B.U.vm)) :=
  BackS.of_freeW (bytes := bytes) (maxL := maxL) (ret := ret) (E := fun _ first o t L k n => k = rm.cells ∧ n = rm.slots ∧ (∃ v, o = .returned v ∧ Q v t.heap ∧ Ext Z.heap t.heap ∧ Fr Z.heap.size L) ∧ CHr Z EL first.vm first.heap t.vm t.heap ∧ (nar = true → first.WarmedH t.vm)) (C []) hf hl
    (fun m meth c A a Y hp => have hU : Z.Warmed39 A.U.vm := wtrans (s := s.setVm vm) hZ Y.warmed
      ⟨by show (Cond.and _ .tt).before a A.U = true; rw [Cond.before_and, mv hU wc]; rfl, mv hU wc, mv hU wz, hp.2.2.1, hp.2.2.2⟩)
    (fun m meth c A a g mk Y hp => ⟨hp.1, wtrans (s := s.setVm vm) hZ Y.warmed, hp.2.1, hE, (CHv.at Y hZ hEL H).1, fun x hx => (CHv.at Y hZ hEL H).safe (hsf x hx).2 (hsf x hx).1⟩) (fun _ _ _ _ _ _ _ _ _ => trivial)
    (fun _ _ _ _ ⟨v, L, h1, h2, h3, h4, h5, h6, h7⟩ => ⟨L, _, _, h7, rfl, rfl, ⟨v, h1, h2, h3, h4⟩, h5, h6⟩)
    (fun m meth c A a g mk v t L k n Y hp _ _ ⟨e1, e2, ⟨v', e3, e4, e5, e6⟩, e7, e8⟩ => by
      cases e3; subst e1 e2
      refine ⟨L, e4, e5, e6, rfl, rfl, rfl, (CHv.at Y hZ hEL H).trans ?_, fun q => ?_⟩
      · rw [← hp.2.1]; exact e7
      · exact State.WarmedH.trans (t := A.U.calling g mk a) Y.warmed (e8 q))
end Basic
end Jvm.OwnW
namespace Jvm.OwnW
open Jvm Jvm.ClassFile Sem Op Lib Jvm.Free Jvm.Stand Jvm.LawKit Jvm.RoadKit Bundle
section Steps
variable {l : Launch} {Z : State} {EL : List (String × Nat)} {nar : Bool} {own nm : String} {bytes : ByteArray} {maxL : Nat} {ret : Option FieldType} {R : Room} {Q : Option Value → Heap → Prop} {vm : Vm} {h : Heap} {ce sl pc n n' : Nat} {Ls Ls' : Array Slot} {st rest : List Value} {a0 : Array Value}
theorem WP.iloadN {k' : Fin 4} {v : Int32} (hd : decode bytes pc = .ok (.iload_n k', 1)) (hl : Ls[k'.val]? = some (.val (.int v))) (hp : pc + 1 = n) (k : WP l Z EL nar own nm bytes maxL ret R Q vm h ce sl n Ls (.int v :: st)) : WP l Z EL nar own nm bytes maxL ret R Q vm h ce sl pc Ls (st) := by subst hp; exact WP.step (fun p e below T t m c hx hb ha q => XS.iloadN ha hx rfl (hb ▸ hd) hl q) k
theorem WP.iload {k' : Nat} {v : Int32} (hd : decode bytes pc = .ok (.iload k', 2)) (hl : Ls[k']? = some (.val (.int v))) (hp : pc + 2 = n) (k : WP l Z EL nar own nm bytes maxL ret R Q vm h ce sl n Ls (.int v :: st)) : WP l Z EL nar own nm bytes maxL ret R Q vm h ce sl pc Ls (st) := by subst hp; exact WP.step (fun p e below T t m c hx hb ha q => XS.iload ha hx rfl (hb ▸ hd) hl q) k
theorem WP.istoreN {k' : Fin 4} {v : Int32} (hd : decode bytes pc = .ok (.istore_n k', 1)) (hl : storeLocals Ls k'.val (.int v) = some Ls') (hp : pc + 1 = n) (k : WP l Z EL nar own nm bytes maxL ret R Q vm h ce sl n Ls' (rest)) : WP l Z EL nar own nm bytes maxL ret R Q vm h ce sl pc Ls (.int v :: rest) := by subst hp; exact WP.step (fun p e below T t m c hx hb ha q => XS.istoreN ha hx rfl (hb ▸ hd) rfl hl q) k
theorem WP.istore {k' : Nat} {v : Int32} (hd : decode bytes pc = .ok (.istore k', 2)) (hl : storeLocals Ls k' (.int v) = some Ls') (hp : pc + 2 = n) (k : WP l Z EL nar own nm bytes maxL ret R Q vm h ce sl n Ls' (rest)) : WP l Z EL nar own nm bytes maxL ret R Q vm h ce sl pc Ls (.int v :: rest) := by subst hp; exact WP.step (fun p e below T t m c hx hb ha q => XS.istore ha hx rfl (hb ▸ hd) rfl hl q) k
theorem WP.lloadN {k' : Fin 4} {v : Int64} (hd : decode bytes pc = .ok (.lload_n k', 1)) (hl : Ls[k'.val]? = some (.val (.long v))) (hp : pc + 1 = n) (k : WP l Z EL nar own nm bytes maxL ret R Q vm h ce sl n Ls (.long v :: st)) : WP l Z EL nar own nm bytes maxL ret R Q vm h ce sl pc Ls (st) := by subst hp; exact WP.step (fun p e below T t m c hx hb ha q => XT.lloadN ha hx rfl (hb ▸ hd) hl q) k
theorem WP.lload {k' : Nat} {v : Int64} (hd : decode bytes pc = .ok (.lload k', 2)) (hl : Ls[k']? = some (.val (.long v))) (hp : pc + 2 = n) (k : WP l Z EL nar own nm bytes maxL ret R Q vm h ce sl n Ls (.long v :: st)) : WP l Z EL nar own nm bytes maxL ret R Q vm h ce sl pc Ls (st) := by subst hp; exact WP.step (fun p e below T t m c hx hb ha q => XT.lload ha hx rfl (hb ▸ hd) hl q) k
theorem WP.lstoreN {k' : Fin 4} {v : Int64} (hd : decode bytes pc = .ok (.lstore_n k', 1)) (hl : storeLocals Ls k'.val (.long v) = some Ls') (hp : pc + 1 = n) (k : WP l Z EL nar own nm bytes maxL ret R Q vm h ce sl n Ls' (rest)) : WP l Z EL nar own nm bytes maxL ret R Q vm h ce sl pc Ls (.long v :: rest) := by subst hp; exact WP.step (fun p e below T t m c hx hb ha q => XT.lstoreN ha hx rfl (hb ▸ hd) rfl hl q) k
theorem WP.lstore {k' : Nat} {v : Int64} (hd : decode bytes pc = .ok (.lstore k', 2)) (hl : storeLocals Ls k' (.long v) = some Ls') (hp : pc + 2 = n) (k : WP l Z EL nar own nm bytes maxL ret R Q vm h ce sl n Ls' (rest)) : WP l Z EL nar own nm bytes maxL ret R Q vm h ce sl pc Ls (.long v :: rest) := by subst hp; exact WP.step (fun p e below T t m c hx hb ha q => XT.lstore ha hx rfl (hb ▸ hd) rfl hl q) k
theorem WP.aloadN {k' : Fin 4} {v : Value} (hd : decode bytes pc = .ok (.aload_n k', 1)) (hl : Ls[k'.val]? = some (.val v)) (hv : v.isRef = true) (hp : pc + 1 = n) (k : WP l Z EL nar own nm bytes maxL ret R Q vm h ce sl n Ls (v :: st)) : WP l Z EL nar own nm bytes maxL ret R Q vm h ce sl pc Ls (st) := by subst hp; exact WP.step (fun p e below T t m c hx hb ha q => XS.aloadN ha hx rfl (hb ▸ hd) hl hv q) k
theorem WP.aload {k' : Nat} {v : Value} (hd : decode bytes pc = .ok (.aload k', 2)) (hl : Ls[k']? = some (.val v)) (hv : v.isRef = true) (hp : pc + 2 = n) (k : WP l Z EL nar own nm bytes maxL ret R Q vm h ce sl n Ls (v :: st)) : WP l Z EL nar own nm bytes maxL ret R Q vm h ce sl pc Ls (st) := by subst hp; exact WP.step (fun p e below T t m c hx hb ha q => XS.aload ha hx rfl (hb ▸ hd) hl hv q) k
theorem WP.astoreN {k' : Fin 4} {v : Value} (hd : decode bytes pc = .ok (.astore_n k', 1)) (hv : v.isRef = true) (hl : storeLocals Ls k'.val v = some Ls') (hp : pc + 1 = n) (k : WP l Z EL nar own nm bytes maxL ret R Q vm h ce sl n Ls' (rest)) : WP l Z EL nar own nm bytes maxL ret R Q vm h ce sl pc Ls (v :: rest) := by subst hp; exact WP.step (fun p e below T t m c hx hb ha q => XS.astoreN ha hx rfl (hb ▸ hd) rfl hv hl q) k
theorem WP.astore {k' : Nat} {v : Value} (hd : decode bytes pc = .ok (.astore k', 2)) (hv : v.isRef = true) (hl : storeLocals Ls k' v = some Ls') (hp : pc + 2 = n) (k : WP l Z EL nar own nm bytes maxL ret R Q vm h ce sl n Ls' (rest)) : WP l Z EL nar own nm bytes maxL ret R Q vm h ce sl pc Ls (v :: rest) := by subst hp; exact WP.step (fun p e below T t m c hx hb ha q => XS.astore ha hx rfl (hb ▸ hd) rfl hv hl q) k
theorem WP.iconst {i : Int} {z : Int32} (hd : decode bytes pc = .ok (.iconst i, 1)) (hz : Int32.ofInt i = z) (hp : pc + 1 = n) (k : WP l Z EL nar own nm bytes maxL ret R Q vm h ce sl n Ls (.int z :: st)) : WP l Z EL nar own nm bytes maxL ret R Q vm h ce sl pc Ls st := by subst hp hz; exact WP.step (fun p e below T t m c hx hb ha q => XS.iconst ha hx rfl (hb ▸ hd) q) k
theorem WP.bipush {i : Int} {z : Int32} (hd : decode bytes pc = .ok (.bipush i, 2)) (hz : (Int8.ofInt i).toInt32 = z) (hp : pc + 2 = n) (k : WP l Z EL nar own nm bytes maxL ret R Q vm h ce sl n Ls (.int z :: st)) : WP l Z EL nar own nm bytes maxL ret R Q vm h ce sl pc Ls st := by subst hp hz; exact WP.step (fun p e below T t m c hx hb ha q => XS.bipush ha hx rfl (hb ▸ hd) q) k
theorem WP.sipush {i : Int} {z : Int32} (hd : decode bytes pc = .ok (.sipush i, 3)) (hz : (Int16.ofInt i).toInt32 = z) (hp : pc + 3 = n) (k : WP l Z EL nar own nm bytes maxL ret R Q vm h ce sl n Ls (.int z :: st)) : WP l Z EL nar own nm bytes maxL ret R Q vm h ce sl pc Ls st := by subst hp hz; exact WP.step (fun p e below T t m c hx hb ha q => XS.sipush ha hx rfl (hb ▸ hd) q) k
theorem WP.lconst {i : Fin 2} (hd : decode bytes pc = .ok (.lconst i, 1)) {z : Int64} (hz : Int64.ofNat i = z) (hp : pc + 1 = n) (k : WP l Z EL nar own nm bytes maxL ret R Q vm h ce sl n Ls (.long z :: st)) : WP l Z EL nar own nm bytes maxL ret R Q vm h ce sl pc Ls st := by subst hp hz; exact WP.step (fun p e below T t m c hx hb ha q => XT.lconst ha hx rfl (hb ▸ hd) q) k
theorem WP.aconstNull  (hd : decode bytes pc = .ok (.aconst_null, 1))  (hp : pc + 1 = n) (k : WP l Z EL nar own nm bytes maxL ret R Q vm h ce sl n Ls (.null :: st)) : WP l Z EL nar own nm bytes maxL ret R Q vm h ce sl pc Ls (st) := by subst hp; exact WP.step (fun p e below T t m c hx hb ha q => XS.aconstNull ha hx rfl (hb ▸ hd)  q) k
theorem WP.iadd {x y : Int32} (hd : decode bytes pc = .ok (.iadd, 1))  (hp : pc + 1 = n) (k : WP l Z EL nar own nm bytes maxL ret R Q vm h ce sl n Ls (.int (x + y) :: rest)) : WP l Z EL nar own nm bytes maxL ret R Q vm h ce sl pc Ls (.int y :: .int x :: rest) := by subst hp; exact WP.step (fun p e below T t m c hx hb ha q => XS.iadd ha hx rfl (hb ▸ hd) rfl q) k
theorem WP.isub {x y : Int32} (hd : decode bytes pc = .ok (.isub, 1))  (hp : pc + 1 = n) (k : WP l Z EL nar own nm bytes maxL ret R Q vm h ce sl n Ls (.int (x - y) :: rest)) : WP l Z EL nar own nm bytes maxL ret R Q vm h ce sl pc Ls (.int y :: .int x :: rest) := by subst hp; exact WP.step (fun p e below T t m c hx hb ha q => XS.isub ha hx rfl (hb ▸ hd) rfl q) k
theorem WP.iand {x y : Int32} (hd : decode bytes pc = .ok (.iand, 1))  (hp : pc + 1 = n) (k : WP l Z EL nar own nm bytes maxL ret R Q vm h ce sl n Ls (.int (x &&& y) :: rest)) : WP l Z EL nar own nm bytes maxL ret R Q vm h ce sl pc Ls (.int y :: .int x :: rest) := by subst hp; exact WP.step (fun p e below T t m c hx hb ha q => XS.iand ha hx rfl (hb ▸ hd) rfl q) k
theorem WP.imul {x y : Int32} (hd : decode bytes pc = .ok (.imul, 1))  (hp : pc + 1 = n) (k : WP l Z EL nar own nm bytes maxL ret R Q vm h ce sl n Ls (.int (x * y) :: rest)) : WP l Z EL nar own nm bytes maxL ret R Q vm h ce sl pc Ls (.int y :: .int x :: rest) := by subst hp; exact WP.step (fun p e below T t m c hx hb ha q => XS.imul ha hx rfl (hb ▸ hd) rfl q) k
theorem WP.ixor {x y : Int32} (hd : decode bytes pc = .ok (.ixor, 1))  (hp : pc + 1 = n) (k : WP l Z EL nar own nm bytes maxL ret R Q vm h ce sl n Ls (.int (x ^^^ y) :: rest)) : WP l Z EL nar own nm bytes maxL ret R Q vm h ce sl pc Ls (.int y :: .int x :: rest) := by subst hp; exact WP.step (fun p e below T t m c hx hb ha q => XT.ixor ha hx rfl (hb ▸ hd) rfl q) k
theorem WP.ior {x y : Int32} (hd : decode bytes pc = .ok (.ior, 1))  (hp : pc + 1 = n) (k : WP l Z EL nar own nm bytes maxL ret R Q vm h ce sl n Ls (.int (x ||| y) :: rest)) : WP l Z EL nar own nm bytes maxL ret R Q vm h ce sl pc Ls (.int y :: .int x :: rest) := by subst hp; exact WP.step (fun p e below T t m c hx hb ha q => XT.ior ha hx rfl (hb ▸ hd) rfl q) k
theorem WP.ishl {x y : Int32} (hd : decode bytes pc = .ok (.ishl, 1))  (hp : pc + 1 = n) (k : WP l Z EL nar own nm bytes maxL ret R Q vm h ce sl n Ls (.int (x <<< (y &&& 31)) :: rest)) : WP l Z EL nar own nm bytes maxL ret R Q vm h ce sl pc Ls (.int y :: .int x :: rest) := by subst hp; exact WP.step (fun p e below T t m c hx hb ha q => XT.ishl ha hx rfl (hb ▸ hd) rfl q) k
theorem WP.ishr {x y : Int32} (hd : decode bytes pc = .ok (.ishr, 1))  (hp : pc + 1 = n) (k : WP l Z EL nar own nm bytes maxL ret R Q vm h ce sl n Ls (.int (x >>> (y &&& 31)) :: rest)) : WP l Z EL nar own nm bytes maxL ret R Q vm h ce sl pc Ls (.int y :: .int x :: rest) := by subst hp; exact WP.step (fun p e below T t m c hx hb ha q => XT.ishr ha hx rfl (hb ▸ hd) rfl q) k
theorem WP.iushr {x y : Int32} (hd : decode bytes pc = .ok (.iushr, 1))  (hp : pc + 1 = n) (k : WP l Z EL nar own nm bytes maxL ret R Q vm h ce sl n Ls (.int (XT.ushr x y) :: rest)) : WP l Z EL nar own nm bytes maxL ret R Q vm h ce sl pc Ls (.int y :: .int x :: rest) := by subst hp; exact WP.step (fun p e below T t m c hx hb ha q => XT.iushr ha hx rfl (hb ▸ hd) rfl q) k
theorem WP.idiv {x y : Int32} (hd : decode bytes pc = .ok (.idiv, 1)) (hy : y ≠ 0) (hp : pc + 1 = n) (k : WP l Z EL nar own nm bytes maxL ret R Q vm h ce sl n Ls (.int (x / y) :: rest)) : WP l Z EL nar own nm bytes maxL ret R Q vm h ce sl pc Ls (.int y :: .int x :: rest) := by subst hp; exact WP.step (fun p e below T t m c hx hb ha q => XS.idiv ha hx rfl (hb ▸ hd) rfl hy q) k
theorem WP.irem {x y : Int32} (hd : decode bytes pc = .ok (.irem, 1)) (hy : y ≠ 0) (hp : pc + 1 = n) (k : WP l Z EL nar own nm bytes maxL ret R Q vm h ce sl n Ls (.int (x % y) :: rest)) : WP l Z EL nar own nm bytes maxL ret R Q vm h ce sl pc Ls (.int y :: .int x :: rest) := by subst hp; rw [← irem_eq_mod] at k; exact WP.step (fun p e below T t m c hx hb ha q => XS.irem ha hx rfl (hb ▸ hd) rfl hy q) k
theorem WP.ineg {x : Int32} (hd : decode bytes pc = .ok (.ineg, 1))  (hp : pc + 1 = n) (k : WP l Z EL nar own nm bytes maxL ret R Q vm h ce sl n Ls (.int (-x) :: rest)) : WP l Z EL nar own nm bytes maxL ret R Q vm h ce sl pc Ls (.int x :: rest) := by subst hp; exact WP.step (fun p e below T t m c hx hb ha q => XS.ineg ha hx rfl (hb ▸ hd) rfl q) k
theorem WP.iinc {k' : Nat} {cst : Int} {x z : Int32} (hd : decode bytes pc = .ok (.iinc k' cst, 3)) (hl : Ls[k']? = some (.val (.int x))) (hz : x + Int32.ofInt cst = z) (hl' : storeLocals Ls k' (.int z) = some Ls') (hp : pc + 3 = n) (k : WP l Z EL nar own nm bytes maxL ret R Q vm h ce sl n Ls' st) : WP l Z EL nar own nm bytes maxL ret R Q vm h ce sl pc Ls st := by subst hp hz; exact WP.step (fun p e below T t m c hx hb ha q => XS.iinc ha hx rfl (hb ▸ hd) hl hl' q) k
theorem WP.ladd {x y : Int64} (hd : decode bytes pc = .ok (.ladd, 1))  (hp : pc + 1 = n) (k : WP l Z EL nar own nm bytes maxL ret R Q vm h ce sl n Ls (.long (x + y) :: rest)) : WP l Z EL nar own nm bytes maxL ret R Q vm h ce sl pc Ls (.long y :: .long x :: rest) := by subst hp; exact WP.step (fun p e below T t m c hx hb ha q => XT.ladd ha hx rfl (hb ▸ hd) rfl q) k
theorem WP.lsub {x y : Int64} (hd : decode bytes pc = .ok (.lsub, 1))  (hp : pc + 1 = n) (k : WP l Z EL nar own nm bytes maxL ret R Q vm h ce sl n Ls (.long (x - y) :: rest)) : WP l Z EL nar own nm bytes maxL ret R Q vm h ce sl pc Ls (.long y :: .long x :: rest) := by subst hp; exact WP.step (fun p e below T t m c hx hb ha q => XT.lsub ha hx rfl (hb ▸ hd) rfl q) k
theorem WP.lmul {x y : Int64} (hd : decode bytes pc = .ok (.lmul, 1))  (hp : pc + 1 = n) (k : WP l Z EL nar own nm bytes maxL ret R Q vm h ce sl n Ls (.long (x * y) :: rest)) : WP l Z EL nar own nm bytes maxL ret R Q vm h ce sl pc Ls (.long y :: .long x :: rest) := by subst hp; exact WP.step (fun p e below T t m c hx hb ha q => XT.lmul ha hx rfl (hb ▸ hd) rfl q) k
theorem WP.land {x y : Int64} (hd : decode bytes pc = .ok (.land, 1))  (hp : pc + 1 = n) (k : WP l Z EL nar own nm bytes maxL ret R Q vm h ce sl n Ls (.long (x &&& y) :: rest)) : WP l Z EL nar own nm bytes maxL ret R Q vm h ce sl pc Ls (.long y :: .long x :: rest) := by subst hp; exact WP.step (fun p e below T t m c hx hb ha q => XT.land ha hx rfl (hb ▸ hd) rfl q) k
theorem WP.lor {x y : Int64} (hd : decode bytes pc = .ok (.lor, 1))  (hp : pc + 1 = n) (k : WP l Z EL nar own nm bytes maxL ret R Q vm h ce sl n Ls (.long (x ||| y) :: rest)) : WP l Z EL nar own nm bytes maxL ret R Q vm h ce sl pc Ls (.long y :: .long x :: rest) := by subst hp; exact WP.step (fun p e below T t m c hx hb ha q => XT.lor ha hx rfl (hb ▸ hd) rfl q) k
theorem WP.lxor {x y : Int64} (hd : decode bytes pc = .ok (.lxor, 1))  (hp : pc + 1 = n) (k : WP l Z EL nar own nm bytes maxL ret R Q vm h ce sl n Ls (.long (x ^^^ y) :: rest)) : WP l Z EL nar own nm bytes maxL ret R Q vm h ce sl pc Ls (.long y :: .long x :: rest) := by subst hp; exact WP.step (fun p e below T t m c hx hb ha q => XT.lxor ha hx rfl (hb ▸ hd) rfl q) k
theorem WP.lshl {x : Int64} {y : Int32} (hd : decode bytes pc = .ok (.lshl, 1))  (hp : pc + 1 = n) (k : WP l Z EL nar own nm bytes maxL ret R Q vm h ce sl n Ls (.long (x <<< (y.toInt64 &&& 63)) :: rest)) : WP l Z EL nar own nm bytes maxL ret R Q vm h ce sl pc Ls (.int y :: .long x :: rest) := by subst hp; exact WP.step (fun p e below T t m c hx hb ha q => XT.lshl ha hx rfl (hb ▸ hd) rfl q) k
theorem WP.lshr {x : Int64} {y : Int32} (hd : decode bytes pc = .ok (.lshr, 1))  (hp : pc + 1 = n) (k : WP l Z EL nar own nm bytes maxL ret R Q vm h ce sl n Ls (.long (x >>> (y.toInt64 &&& 63)) :: rest)) : WP l Z EL nar own nm bytes maxL ret R Q vm h ce sl pc Ls (.int y :: .long x :: rest) := by subst hp; exact WP.step (fun p e below T t m c hx hb ha q => XT.lshr ha hx rfl (hb ▸ hd) rfl q) k
theorem WP.lushr {x : Int64} {y : Int32} (hd : decode bytes pc = .ok (.lushr, 1))  (hp : pc + 1 = n) (k : WP l Z EL nar own nm bytes maxL ret R Q vm h ce sl n Ls (.long (XT.ushrL x y) :: rest)) : WP l Z EL nar own nm bytes maxL ret R Q vm h ce sl pc Ls (.int y :: .long x :: rest) := by subst hp; exact WP.step (fun p e below T t m c hx hb ha q => XT.lushr ha hx rfl (hb ▸ hd) rfl q) k
theorem WP.ldiv {x y : Int64} (hd : decode bytes pc = .ok (.ldiv, 1)) (hy : y ≠ 0) (hp : pc + 1 = n) (k : WP l Z EL nar own nm bytes maxL ret R Q vm h ce sl n Ls (.long (x / y) :: rest)) : WP l Z EL nar own nm bytes maxL ret R Q vm h ce sl pc Ls (.long y :: .long x :: rest) := by subst hp; exact WP.step (fun p e below T t m c hx hb ha q => XT.ldiv ha hx rfl (hb ▸ hd) rfl hy q) k
theorem WP.lrem {x y : Int64} (hd : decode bytes pc = .ok (.lrem, 1)) (hy : y ≠ 0) (hp : pc + 1 = n) (k : WP l Z EL nar own nm bytes maxL ret R Q vm h ce sl n Ls (.long (x - (x / y) * y) :: rest)) : WP l Z EL nar own nm bytes maxL ret R Q vm h ce sl pc Ls (.long y :: .long x :: rest) := by subst hp; exact WP.step (fun p e below T t m c hx hb ha q => XT.lrem ha hx rfl (hb ▸ hd) rfl hy q) k
theorem WP.lneg {x : Int64} (hd : decode bytes pc = .ok (.lneg, 1))  (hp : pc + 1 = n) (k : WP l Z EL nar own nm bytes maxL ret R Q vm h ce sl n Ls (.long (-x) :: rest)) : WP l Z EL nar own nm bytes maxL ret R Q vm h ce sl pc Ls (.long x :: rest) := by subst hp; exact WP.step (fun p e below T t m c hx hb ha q => XT.lneg ha hx rfl (hb ▸ hd) rfl q) k
theorem WP.lcmp {x y : Int64} (hd : decode bytes pc = .ok (.lcmp, 1))  (hp : pc + 1 = n) (k : WP l Z EL nar own nm bytes maxL ret R Q vm h ce sl n Ls (.int (XT.cmpL x y) :: rest)) : WP l Z EL nar own nm bytes maxL ret R Q vm h ce sl pc Ls (.long y :: .long x :: rest) := by subst hp; exact WP.step (fun p e below T t m c hx hb ha q => XT.lcmp ha hx rfl (hb ▸ hd) rfl q) k
theorem WP.i2l {x : Int32} (hd : decode bytes pc = .ok (.i2l, 1))  (hp : pc + 1 = n) (k : WP l Z EL nar own nm bytes maxL ret R Q vm h ce sl n Ls (.long x.toInt64 :: rest)) : WP l Z EL nar own nm bytes maxL ret R Q vm h ce sl pc Ls (.int x :: rest) := by subst hp; exact WP.step (fun p e below T t m c hx hb ha q => XT.i2l ha hx rfl (hb ▸ hd) rfl q) k
theorem WP.l2i {x : Int64} (hd : decode bytes pc = .ok (.l2i, 1))  (hp : pc + 1 = n) (k : WP l Z EL nar own nm bytes maxL ret R Q vm h ce sl n Ls (.int x.toInt32 :: rest)) : WP l Z EL nar own nm bytes maxL ret R Q vm h ce sl pc Ls (.long x :: rest) := by subst hp; exact WP.step (fun p e below T t m c hx hb ha q => XT.l2i ha hx rfl (hb ▸ hd) rfl q) k
theorem WP.i2b {x : Int32} (hd : decode bytes pc = .ok (.i2b, 1))  (hp : pc + 1 = n) (k : WP l Z EL nar own nm bytes maxL ret R Q vm h ce sl n Ls (.int x.toInt8.toInt32 :: rest)) : WP l Z EL nar own nm bytes maxL ret R Q vm h ce sl pc Ls (.int x :: rest) := by subst hp; exact WP.step (fun p e below T t m c hx hb ha q => XT.i2b ha hx rfl (hb ▸ hd) rfl q) k
theorem WP.i2c {x z : Int32} (hd : decode bytes pc = .ok (.i2c, 1)) (hz : x.toUInt32.toUInt16.toUInt32.toInt32 = z) (hp : pc + 1 = n) (k : WP l Z EL nar own nm bytes maxL ret R Q vm h ce sl n Ls (.int z :: rest)) : WP l Z EL nar own nm bytes maxL ret R Q vm h ce sl pc Ls (.int x :: rest) := by subst hp hz; exact WP.step (fun p e below T t m c hx hb ha q => XT.i2c ha hx rfl (hb ▸ hd) rfl q) k
theorem WP.i2s {x : Int32} (hd : decode bytes pc = .ok (.i2s, 1))  (hp : pc + 1 = n) (k : WP l Z EL nar own nm bytes maxL ret R Q vm h ce sl n Ls (.int x.toInt16.toInt32 :: rest)) : WP l Z EL nar own nm bytes maxL ret R Q vm h ce sl pc Ls (.int x :: rest) := by subst hp; exact WP.step (fun p e below T t m c hx hb ha q => XT.i2s ha hx rfl (hb ▸ hd) rfl q) k
theorem WP.dup {v : Value} (hd : decode bytes pc = .ok (.dup, 1)) (hc : v.category = 1) (hp : pc + 1 = n) (k : WP l Z EL nar own nm bytes maxL ret R Q vm h ce sl n Ls (v :: v :: rest)) : WP l Z EL nar own nm bytes maxL ret R Q vm h ce sl pc Ls (v :: rest) := by subst hp; exact WP.step (fun p e below T t m c hx hb ha q => XS.dup ha hx rfl (hb ▸ hd) rfl hc q) k
theorem WP.pop {v : Value} (hd : decode bytes pc = .ok (.pop, 1)) (hc : v.category = 1) (hp : pc + 1 = n) (k : WP l Z EL nar own nm bytes maxL ret R Q vm h ce sl n Ls (rest)) : WP l Z EL nar own nm bytes maxL ret R Q vm h ce sl pc Ls (v :: rest) := by subst hp; exact WP.step (fun p e below T t m c hx hb ha q => XT.pop ha hx rfl (hb ▸ hd) rfl hc q) k
theorem WP.dupX1 {v w : Value} (hd : decode bytes pc = .ok (.dup_x1, 1)) (hc : v.category = 1) (hc' : w.category = 1) (hp : pc + 1 = n) (k : WP l Z EL nar own nm bytes maxL ret R Q vm h ce sl n Ls (v :: w :: v :: rest)) : WP l Z EL nar own nm bytes maxL ret R Q vm h ce sl pc Ls (v :: w :: rest) := by subst hp; exact WP.step (fun p e below T t m c hx hb ha q => XT.dupX1 ha hx rfl (hb ▸ hd) rfl hc hc' q) k
theorem WP.dup2 {v w : Value} (hd : decode bytes pc = .ok (.dup2, 1)) (hc : v.category = 1) (hc' : w.category = 1) (hp : pc + 1 = n) (k : WP l Z EL nar own nm bytes maxL ret R Q vm h ce sl n Ls (v :: w :: v :: w :: rest)) : WP l Z EL nar own nm bytes maxL ret R Q vm h ce sl pc Ls (v :: w :: rest) := by subst hp; exact WP.step (fun p e below T t m c hx hb ha q => XT.dup2 ha hx rfl (hb ▸ hd) rfl hc hc' q) k
theorem WP.goto {o' : Int} (hd : decode bytes pc = .ok (.goto o', 3)) (ho : 0 ≤ (pc : Int) + o') (hn : ((pc : Int) + o').toNat = n) (k : WP l Z EL nar own nm bytes maxL ret R Q vm h ce sl n Ls st) : WP l Z EL nar own nm bytes maxL ret R Q vm h ce sl pc Ls st := WP.step (fun p e below T t m c hx hb ha q => XS.goto ha hx rfl (pc0 := pc) rfl (hb ▸ hd) ho hn q) k
theorem WP.icmpY {cd : ClassFile.Cond} {o' : Int} {x y : Int32} (hd : decode bytes pc = .ok (.if_icmp cd o', 3)) (hc : if_icmp.holds cd x y = true) (ho : 0 ≤ (pc : Int) + o') (hn : ((pc : Int) + o').toNat = n) (k : WP l Z EL nar own nm bytes maxL ret R Q vm h ce sl n Ls rest) : WP l Z EL nar own nm bytes maxL ret R Q vm h ce sl pc Ls (.int y :: .int x :: rest) := WP.step (fun p e below T t m c hx hb ha q => XS.icmpYes ha hx rfl (pc0 := pc) rfl (hb ▸ hd) rfl hc ho hn q) k
theorem WP.icmpN {cd : ClassFile.Cond} {o' : Int} {x y : Int32} (hd : decode bytes pc = .ok (.if_icmp cd o', 3)) (hc : if_icmp.holds cd x y = false) (hp : pc + 3 = n') (k : WP l Z EL nar own nm bytes maxL ret R Q vm h ce sl n' Ls rest) : WP l Z EL nar own nm bytes maxL ret R Q vm h ce sl pc Ls (.int y :: .int x :: rest) := by subst hp; exact WP.step (fun p e below T t m c hx hb ha q => XS.icmpNo ha hx rfl (hb ▸ hd) rfl hc q) k
theorem WP.ifcY {cd : ClassFile.Cond} {o' : Int} {x : Int32} (hd : decode bytes pc = .ok (.ifCond cd o', 3)) (hc : ifCond.holds cd x = true) (ho : 0 ≤ (pc : Int) + o') (hn : ((pc : Int) + o').toNat = n) (k : WP l Z EL nar own nm bytes maxL ret R Q vm h ce sl n Ls rest) : WP l Z EL nar own nm bytes maxL ret R Q vm h ce sl pc Ls (.int x :: rest) := WP.step (fun p e below T t m c hx hb ha q => XS.ifYes ha hx rfl (pc0 := pc) rfl (hb ▸ hd) rfl hc ho hn q) k
theorem WP.ifcN {cd : ClassFile.Cond} {o' : Int} {x : Int32} (hd : decode bytes pc = .ok (.ifCond cd o', 3)) (hc : ifCond.holds cd x = false) (hp : pc + 3 = n') (k : WP l Z EL nar own nm bytes maxL ret R Q vm h ce sl n' Ls rest) : WP l Z EL nar own nm bytes maxL ret R Q vm h ce sl pc Ls (.int x :: rest) := by subst hp; exact WP.step (fun p e below T t m c hx hb ha q => XS.ifNo ha hx rfl (hb ▸ hd) rfl hc q) k
theorem WP.icmp_lt {o' : Int} {x y : Int32} (hd : decode bytes pc = .ok (.if_icmp .lt o', 3)) (ho : 0 ≤ (pc : Int) + o') (hn : ((pc : Int) + o').toNat = n) (hp : pc + 3 = n') (k1 : x < y → WP l Z EL nar own nm bytes maxL ret R Q vm h ce sl n Ls rest) (k2 : ¬ x < y → WP l Z EL nar own nm bytes maxL ret R Q vm h ce sl n' Ls rest) : WP l Z EL nar own nm bytes maxL ret R Q vm h ce sl pc Ls (.int y :: .int x :: rest) := by by_cases q : x < y; exact WP.icmpY hd ((tlt q).1) ho hn (k1 q); exact WP.icmpN hd ((flt q).1) hp (k2 q)
theorem WP.if_lt {o' : Int} {x : Int32} (hd : decode bytes pc = .ok (.ifCond .lt o', 3)) (ho : 0 ≤ (pc : Int) + o') (hn : ((pc : Int) + o').toNat = n) (hp : pc + 3 = n') (k1 : x < (0 : Int32) → WP l Z EL nar own nm bytes maxL ret R Q vm h ce sl n Ls rest) (k2 : ¬ x < (0 : Int32) → WP l Z EL nar own nm bytes maxL ret R Q vm h ce sl n' Ls rest) : WP l Z EL nar own nm bytes maxL ret R Q vm h ce sl pc Ls (.int x :: rest) := by by_cases q : x < (0 : Int32); exact WP.ifcY hd ((if0 _ _).trans (tlt q).1) ho hn (k1 q); exact WP.ifcN hd ((if0 _ _).trans (flt q).1) hp (k2 q)
theorem WP.icmp_ge {o' : Int} {x y : Int32} (hd : decode bytes pc = .ok (.if_icmp .ge o', 3)) (ho : 0 ≤ (pc : Int) + o') (hn : ((pc : Int) + o').toNat = n) (hp : pc + 3 = n') (k1 : ¬ x < y → WP l Z EL nar own nm bytes maxL ret R Q vm h ce sl n Ls rest) (k2 : x < y → WP l Z EL nar own nm bytes maxL ret R Q vm h ce sl n' Ls rest) : WP l Z EL nar own nm bytes maxL ret R Q vm h ce sl pc Ls (.int y :: .int x :: rest) := by by_cases q : x < y; exact WP.icmpN hd ((tlt q).2.1) hp (k2 q); exact WP.icmpY hd ((flt q).2.1) ho hn (k1 q)
theorem WP.if_ge {o' : Int} {x : Int32} (hd : decode bytes pc = .ok (.ifCond .ge o', 3)) (ho : 0 ≤ (pc : Int) + o') (hn : ((pc : Int) + o').toNat = n) (hp : pc + 3 = n') (k1 : ¬ x < (0 : Int32) → WP l Z EL nar own nm bytes maxL ret R Q vm h ce sl n Ls rest) (k2 : x < (0 : Int32) → WP l Z EL nar own nm bytes maxL ret R Q vm h ce sl n' Ls rest) : WP l Z EL nar own nm bytes maxL ret R Q vm h ce sl pc Ls (.int x :: rest) := by by_cases q : x < (0 : Int32); exact WP.ifcN hd ((if0 _ _).trans (tlt q).2.1) hp (k2 q); exact WP.ifcY hd ((if0 _ _).trans (flt q).2.1) ho hn (k1 q)
theorem WP.icmp_gt {o' : Int} {x y : Int32} (hd : decode bytes pc = .ok (.if_icmp .gt o', 3)) (ho : 0 ≤ (pc : Int) + o') (hn : ((pc : Int) + o').toNat = n) (hp : pc + 3 = n') (k1 : y < x → WP l Z EL nar own nm bytes maxL ret R Q vm h ce sl n Ls rest) (k2 : ¬ y < x → WP l Z EL nar own nm bytes maxL ret R Q vm h ce sl n' Ls rest) : WP l Z EL nar own nm bytes maxL ret R Q vm h ce sl pc Ls (.int y :: .int x :: rest) := by by_cases q : y < x; exact WP.icmpY hd ((tlt q).2.2.1) ho hn (k1 q); exact WP.icmpN hd ((flt q).2.2.1) hp (k2 q)
theorem WP.if_gt {o' : Int} {x : Int32} (hd : decode bytes pc = .ok (.ifCond .gt o', 3)) (ho : 0 ≤ (pc : Int) + o') (hn : ((pc : Int) + o').toNat = n) (hp : pc + 3 = n') (k1 : (0 : Int32) < x → WP l Z EL nar own nm bytes maxL ret R Q vm h ce sl n Ls rest) (k2 : ¬ (0 : Int32) < x → WP l Z EL nar own nm bytes maxL ret R Q vm h ce sl n' Ls rest) : WP l Z EL nar own nm bytes maxL ret R Q vm h ce sl pc Ls (.int x :: rest) := by by_cases q : (0 : Int32) < x; exact WP.ifcY hd ((if0 _ _).trans (tlt q).2.2.1) ho hn (k1 q); exact WP.ifcN hd ((if0 _ _).trans (flt q).2.2.1) hp (k2 q)
theorem WP.icmp_le {o' : Int} {x y : Int32} (hd : decode bytes pc = .ok (.if_icmp .le o', 3)) (ho : 0 ≤ (pc : Int) + o') (hn : ((pc : Int) + o').toNat = n) (hp : pc + 3 = n') (k1 : ¬ y < x → WP l Z EL nar own nm bytes maxL ret R Q vm h ce sl n Ls rest) (k2 : y < x → WP l Z EL nar own nm bytes maxL ret R Q vm h ce sl n' Ls rest) : WP l Z EL nar own nm bytes maxL ret R Q vm h ce sl pc Ls (.int y :: .int x :: rest) := by by_cases q : y < x; exact WP.icmpN hd ((tlt q).2.2.2) hp (k2 q); exact WP.icmpY hd ((flt q).2.2.2) ho hn (k1 q)
theorem WP.if_le {o' : Int} {x : Int32} (hd : decode bytes pc = .ok (.ifCond .le o', 3)) (ho : 0 ≤ (pc : Int) + o') (hn : ((pc : Int) + o').toNat = n) (hp : pc + 3 = n') (k1 : ¬ (0 : Int32) < x → WP l Z EL nar own nm bytes maxL ret R Q vm h ce sl n Ls rest) (k2 : (0 : Int32) < x → WP l Z EL nar own nm bytes maxL ret R Q vm h ce sl n' Ls rest) : WP l Z EL nar own nm bytes maxL ret R Q vm h ce sl pc Ls (.int x :: rest) := by by_cases q : (0 : Int32) < x; exact WP.ifcN hd ((if0 _ _).trans (tlt q).2.2.2) hp (k2 q); exact WP.ifcY hd ((if0 _ _).trans (flt q).2.2.2) ho hn (k1 q)
theorem WP.icmp_eq {o' : Int} {x y : Int32} (hd : decode bytes pc = .ok (.if_icmp .eq o', 3)) (ho : 0 ≤ (pc : Int) + o') (hn : ((pc : Int) + o').toNat = n) (hp : pc + 3 = n') (k1 : x = y → WP l Z EL nar own nm bytes maxL ret R Q vm h ce sl n Ls rest) (k2 : ¬ x = y → WP l Z EL nar own nm bytes maxL ret R Q vm h ce sl n' Ls rest) : WP l Z EL nar own nm bytes maxL ret R Q vm h ce sl pc Ls (.int y :: .int x :: rest) := by by_cases q : x = y; exact WP.icmpY hd ((teq q).1) ho hn (k1 q); exact WP.icmpN hd ((feq q).1) hp (k2 q)
theorem WP.if_eq {o' : Int} {x : Int32} (hd : decode bytes pc = .ok (.ifCond .eq o', 3)) (ho : 0 ≤ (pc : Int) + o') (hn : ((pc : Int) + o').toNat = n) (hp : pc + 3 = n') (k1 : x = (0 : Int32) → WP l Z EL nar own nm bytes maxL ret R Q vm h ce sl n Ls rest) (k2 : ¬ x = (0 : Int32) → WP l Z EL nar own nm bytes maxL ret R Q vm h ce sl n' Ls rest) : WP l Z EL nar own nm bytes maxL ret R Q vm h ce sl pc Ls (.int x :: rest) := by by_cases q : x = (0 : Int32); exact WP.ifcY hd ((if0 _ _).trans (teq q).1) ho hn (k1 q); exact WP.ifcN hd ((if0 _ _).trans (feq q).1) hp (k2 q)
theorem WP.icmp_ne {o' : Int} {x y : Int32} (hd : decode bytes pc = .ok (.if_icmp .ne o', 3)) (ho : 0 ≤ (pc : Int) + o') (hn : ((pc : Int) + o').toNat = n) (hp : pc + 3 = n') (k1 : ¬ x = y → WP l Z EL nar own nm bytes maxL ret R Q vm h ce sl n Ls rest) (k2 : x = y → WP l Z EL nar own nm bytes maxL ret R Q vm h ce sl n' Ls rest) : WP l Z EL nar own nm bytes maxL ret R Q vm h ce sl pc Ls (.int y :: .int x :: rest) := by by_cases q : x = y; exact WP.icmpN hd ((teq q).2) hp (k2 q); exact WP.icmpY hd ((feq q).2) ho hn (k1 q)
theorem WP.if_ne {o' : Int} {x : Int32} (hd : decode bytes pc = .ok (.ifCond .ne o', 3)) (ho : 0 ≤ (pc : Int) + o') (hn : ((pc : Int) + o').toNat = n) (hp : pc + 3 = n') (k1 : ¬ x = (0 : Int32) → WP l Z EL nar own nm bytes maxL ret R Q vm h ce sl n Ls rest) (k2 : x = (0 : Int32) → WP l Z EL nar own nm bytes maxL ret R Q vm h ce sl n' Ls rest) : WP l Z EL nar own nm bytes maxL ret R Q vm h ce sl pc Ls (.int x :: rest) := by by_cases q : x = (0 : Int32); exact WP.ifcN hd ((if0 _ _).trans (teq q).2) hp (k2 q); exact WP.ifcY hd ((if0 _ _).trans (feq q).2) ho hn (k1 q)
theorem WP.ifnullY {o' : Int} (hd : decode bytes pc = .ok (.ifnull o', 3)) (ho : 0 ≤ (pc : Int) + o') (hn : ((pc : Int) + o').toNat = n) (k : WP l Z EL nar own nm bytes maxL ret R Q vm h ce sl n Ls rest) : WP l Z EL nar own nm bytes maxL ret R Q vm h ce sl pc Ls (.null :: rest) := WP.step (fun p e below T t m c hx hb ha q => XS.ifnullYes ha hx rfl (pc0 := pc) rfl (hb ▸ hd) rfl ho hn q) k
theorem WP.ifnullN {o' : Int} {b : Addr} (hd : decode bytes pc = .ok (.ifnull o', 3)) (hp : pc + 3 = n') (k : WP l Z EL nar own nm bytes maxL ret R Q vm h ce sl n' Ls rest) : WP l Z EL nar own nm bytes maxL ret R Q vm h ce sl pc Ls (.ref b :: rest) := by subst hp; exact WP.step (fun p e below T t m c hx hb ha q => XS.ifnullNo ha hx rfl (hb ▸ hd) rfl q) k
theorem WP.ifnonnullY {o' : Int} {b : Addr} (hd : decode bytes pc = .ok (.ifnonnull o', 3)) (ho : 0 ≤ (pc : Int) + o') (hn : ((pc : Int) + o').toNat = n) (k : WP l Z EL nar own nm bytes maxL ret R Q vm h ce sl n Ls rest) : WP l Z EL nar own nm bytes maxL ret R Q vm h ce sl pc Ls (.ref b :: rest) := WP.step (fun p e below T t m c hx hb ha q => XT.ifnonnullYes ha hx rfl (pc0 := pc) rfl (hb ▸ hd) rfl ho hn q) k
theorem WP.ifnonnullN {o' : Int} (hd : decode bytes pc = .ok (.ifnonnull o', 3)) (hp : pc + 3 = n') (k : WP l Z EL nar own nm bytes maxL ret R Q vm h ce sl n' Ls rest) : WP l Z EL nar own nm bytes maxL ret R Q vm h ce sl pc Ls (.null :: rest) := by subst hp; exact WP.step (fun p e below T t m c hx hb ha q => XT.ifnonnullNo ha hx rfl (hb ▸ hd) rfl q) k
theorem WP.acmpY {cd : ACond} {o' : Int} {x y : Value} (hd : decode bytes pc = .ok (.if_acmp cd o', 3)) (hx' : x.isRef = true) (hy' : y.isRef = true) (hc : XT.acmp cd x y = true) (ho : 0 ≤ (pc : Int) + o') (hn : ((pc : Int) + o').toNat = n) (k : WP l Z EL nar own nm bytes maxL ret R Q vm h ce sl n Ls rest) : WP l Z EL nar own nm bytes maxL ret R Q vm h ce sl pc Ls (y :: x :: rest) := WP.step (fun p e below T t m c hx hb ha q => XT.acmpYes ha hx rfl (pc0 := pc) rfl (hb ▸ hd) rfl hx' hy' hc ho hn q) k
theorem WP.acmpN {cd : ACond} {o' : Int} {x y : Value} (hd : decode bytes pc = .ok (.if_acmp cd o', 3)) (hx' : x.isRef = true) (hy' : y.isRef = true) (hc : XT.acmp cd x y = false) (hp : pc + 3 = n') (k : WP l Z EL nar own nm bytes maxL ret R Q vm h ce sl n' Ls rest) : WP l Z EL nar own nm bytes maxL ret R Q vm h ce sl pc Ls (y :: x :: rest) := by subst hp; exact WP.step (fun p e below T t m c hx hb ha q => XT.acmpNo ha hx rfl (hb ▸ hd) rfl hx' hy' hc q) k
theorem WP.getF {R0 O nf d host : String} {index : Nat} {a : Addr} {v : Value} (hd : decode bytes pc = .ok (.getfield index, 3)) (w : (Cond.fieldLink own index R0 nf d).before a0 Z = true ∨ (Cond.fieldLinkNest own index R0 nf d host).before a0 Z = true) (via : Via Z R0 O nf d) (F : Fld Z h a O nf d v) (hp : pc + 3 = n) (k : WP l Z EL nar own nm bytes maxL ret R Q vm h ce sl n Ls (v :: rest)) : WP l Z EL nar own nm bytes maxL ret R Q vm h ce sl pc Ls (.ref a :: rest) := by
  subst hp
  refine WP.look (fun p e s args below T m meth c L hx hb X hZ hown eT => ?_) k
  exact getF X hx hZ hown w via eT F (g := mkF m pc Ls (.ref a :: rest)) rfl rfl (hb ▸ hd)
theorem WP.getS {R0 O nf d : String} {index : Nat} {v : Value} (hd : decode bytes pc = .ok (.getstatic index, 3)) (w : (Cond.fieldLink own index R0 nf d).before a0 Z = true) (via : Via Z R0 O nf d) (F : Sta Z h O nf d v) (hp : pc + 3 = n) (k : WP l Z EL nar own nm bytes maxL ret R Q vm h ce sl n Ls (v :: st)) : WP l Z EL nar own nm bytes maxL ret R Q vm h ce sl pc Ls st := by
  subst hp
  refine WP.look (fun p e s args below T m meth c L hx hb X hZ hown eT => ?_) k
  exact getS (host := "") X hx hZ hown w via eT F (g := mkF m pc Ls st) rfl (hb ▸ hd)
theorem WP.getSZ {R0 O nf d : String} {index : Nat} {v : Value} (hd : decode bytes pc = .ok (.getstatic index, 3)) (w : (Cond.fieldLink own index R0 nf d).before a0 Z = true) (via : Via Z R0 O nf d) (F : Sta Z Z.heap O nf d v) (hp : pc + 3 = n) (k : WP l Z EL nar own nm bytes maxL ret R Q vm h ce sl n Ls (v :: st)) : WP l Z EL nar own nm bytes maxL ret R Q vm h ce sl pc Ls st :=
  WP.inv fun _ E _ => WP.getS hd w via (F.ext E) hp k
theorem WP.new {C : String} {index nn : Nat} {ce' sl' : Nat} (hd : decode bytes pc = .ok (.new index, 3)) (w : (Cond.classLink own index C).before a0 Z = true) (wi : (Cond.instantiable C nn).before a0 Z = true) (wz : (Cond.initialized C).before a0 Z = true) (hce : ce + 1 = ce') (hsl : sl + nn = sl') (hc : ce' ≤ R.cells) (hl : sl' ≤ R.slots) (hp : pc + 3 = n)
    (k : ∀ a h', a = h.size → Ext h h' → Exa Z h' a C → (∀ {O f d : String} {ty : FieldType}, Laid Z a0 C O f d → parseFieldDescriptor d = some ty → Fld Z h' a O f d (defaultValue ty)) → Safe Z EL vm h' a → Z.heap.size ≤ a → CHr Z EL vm h vm h' → WP l Z EL nar own nm bytes maxL ret R Q vm h' ce' sl' n Ls (.ref a :: st)) : WP l Z EL nar own nm bytes maxL ret R Q vm h ce sl pc Ls st := by
  subst hp hce hsl
  refine WP.inv fun _ hE hH => WP.make (P := fun h' => Exa Z h' h.size C ∧ ∀ {O f d : String} {ty : FieldType}, Laid Z a0 C O f d → parseFieldDescriptor d = some ty → Fld Z h' h.size O f d (defaultValue ty)) (fun p e s args below T m meth c L hx hb X hZ hown eT => ?_) fun h' E p hr => k _ h' rfl E p.1 p.2 (Safe.ext E hH (Safe.new (Nat.le_refl _))) hE.1 hr
  obtain ⟨T', h', X', e', E', A', D', -, stp⟩ := newO X hx hZ hown w wi wz eT (g := mkF m pc Ls st) rfl (hb ▸ hd) hc hl
  exact ⟨T', h', X', e', E', ⟨A', D'⟩, stp⟩
theorem WP.putF {R0 O nf d host C : String} {index kk : Nat} {ty : FieldType} {a : Addr} {v old : Value} (hd : decode bytes pc = .ok (.putfield index, 3)) (w : (Cond.fieldLink own index R0 nf d).before a0 Z = true ∨ (Cond.fieldLinkNest own index R0 nf d host).before a0 Z = true) (via : Via Z R0 O nf d) (F : Fld Z h a O nf d old) (E : Exa Z h a C)
    (L' : (Cond.lays C O nf d).before a0 Z = true ∨ ((Cond.laysFinal C O nf d).before a0 Z = true ∧ own = O ∧ nm = "<init>")) (wi : (Cond.instantiable C kk).before a0 Z = true) (hty : parseFieldDescriptor d = some ty) (hn : narrow ty v = v) (hf : fits ty v = true) (ha : Z.heap.size ≤ a) (S : Safe Z EL vm h a) (hp : pc + 3 = n)
    (k : ∀ h', Wr h h' a (Jvm.RoadKit.slotOf Z O nf d) v → CHr Z EL vm h vm h' → WP l Z EL nar own nm bytes maxL ret R Q vm h' ce sl n Ls rest) : WP l Z EL nar own nm bytes maxL ret R Q vm h ce sl pc Ls (v :: .ref a :: rest) := by
  subst hp
  refine WP.write ha (fun _ => S) (fun p e s args below T m meth c L hx hb hnm X hZ hown eT => ?_) k
  exact putF X hx hZ hown w via eT F E (L'.imp id fun q => ⟨q.1, q.2.1, hnm.trans q.2.2⟩) wi hty hn hf (g := mkF m pc Ls (v :: .ref a :: rest)) rfl rfl (hb ▸ hd)
theorem WP.putFE {R0 O nf d host C : String} {index kk : Nat} {ty : FieldType} {a : Addr} {v old : Value} (hd : decode bytes pc = .ok (.putfield index, 3)) (w : (Cond.fieldLink own index R0 nf d).before a0 Z = true ∨ (Cond.fieldLinkNest own index R0 nf d host).before a0 Z = true) (via : Via Z R0 O nf d) (F : Fld Z h a O nf d old) (E : Exa Z h a C)
    (L' : (Cond.lays C O nf d).before a0 Z = true ∨ ((Cond.laysFinal C O nf d).before a0 Z = true ∧ own = O ∧ nm = "<init>")) (wi : (Cond.instantiable C kk).before a0 Z = true) (hty : parseFieldDescriptor d = some ty) (hn : narrow ty v = v) (hf : fits ty v = true) (ha : Z.heap.size ≤ a) (hC : C ≠ "java/lang/String" ∧ C ≠ "[B") (hp : pc + 3 = n)
    (k : ∀ h', Wr h h' a (Jvm.RoadKit.slotOf Z O nf d) v → CHr Z EL vm h vm h' → WP l Z EL nar own nm bytes maxL ret R Q vm h' ce sl n Ls rest) : WP l Z EL nar own nm bytes maxL ret R Q vm h ce sl pc Ls (v :: .ref a :: rest) :=
  WP.inv fun hZ _ _ => WP.putF hd w via F E L' wi hty hn hf ha (Safe.exa hZ.alike E hC.1 hC.2) hp k
theorem WP.newP {aty : ArrayType} {x : Int32} {cap ce' sl' : Nat} {ty : FieldType} (hd : decode bytes pc = .ok (.newarray aty, 2)) (w : (Cond.arrayClass ty).before a0 Z = true) (hty : newarray.typeOf aty = ty) (hx0 : ¬ x < 0) (hcap : x.toNatClampNeg ≤ cap) (hbig : cap * 8 ≤ 536870912) (hce : ce + 1 = ce') (hsl : sl + cap = sl') (hc : ce' ≤ R.cells) (hl : sl' ≤ R.slots) (hp : pc + 2 = n)
    (k : ∀ a h' cA, a = h.size → Ext h h' → Arv Z h' a cA ty x [] (defaultValue ty) → Safe Z EL vm h' a → Z.heap.size ≤ a → CHr Z EL vm h vm h' → WP l Z EL nar own nm bytes maxL ret R Q vm h' ce' sl' n Ls (.ref a :: rest)) : WP l Z EL nar own nm bytes maxL ret R Q vm h ce sl pc Ls (.int x :: rest) := by
  subst hp hce hsl hty
  refine WP.inv fun _ hE hH => WP.make (P := fun h' => ∃ cA, Arv Z h' h.size cA (newarray.typeOf aty) x [] (defaultValue (newarray.typeOf aty))) (fun p e s args below T m meth c L hx hb X hZ hown eT => ?_) fun h' E p hr => by
    obtain ⟨cA, A⟩ := p
    exact k _ h' cA rfl E A (Safe.ext E hH (Safe.new (Nat.le_refl _))) hE.1 hr
  obtain ⟨T', h', cA, X', e', E', A', stp⟩ := newP X hx hZ w eT (g := mkF m pc Ls (.int x :: rest)) rfl (hb ▸ hd) rfl hx0 hcap hbig hc hl
  exact ⟨T', h', X', e', E', ⟨cA, Arv.new A' hx0⟩, stp⟩
theorem WP.stC {a : Addr} {cA : ClassId} {z j x y : Int32} {vs : List Value} {d : Value} {i : Nat} (hd : decode bytes pc = .ok (.castore, 1)) (A : Arv Z h a cA .char z vs d) (hj : ¬ j < 0 ∧ j < z) (hi : j.toNatClampNeg = i) (hlen : i < vs.length) (hy : Jvm.RoadKit.nar .char x = y) (ha : Z.heap.size ≤ a) (S : Safe Z EL vm h a) (hp : pc + 1 = n)
    (k : ∀ h', Wr h h' a j.toNatClampNeg (.int y) → Arv Z h' a cA .char z (vs.set i (.int y)) d → CHr Z EL vm h vm h' → WP l Z EL nar own nm bytes maxL ret R Q vm h' ce sl n Ls rest) : WP l Z EL nar own nm bytes maxL ret R Q vm h ce sl pc Ls (.int x :: .int j :: .ref a :: rest) := by
  subst hp hy
  obtain ⟨cl, A1, q1, S1, M1, H1, G1⟩ := A
  refine WP.write ha (fun _ => S) (fun p e s args below T m meth c L hx hb hnm X hZ hown eT => ?_) fun h' W r => k h' W (Arv.set A1 q1 S1 M1 H1 G1 (fits_nar_char _) W i hi hlen) r
  exact stC X hx hZ eT A1 (inb_of S1 hj) (g := mkF m pc Ls (.int x :: .int j :: .ref a :: rest)) rfl rfl (hb ▸ hd)
theorem WP.stB {a : Addr} {cA : ClassId} {z j x y : Int32} {vs : List Value} {d : Value} {i : Nat} (hd : decode bytes pc = .ok (.bastore, 1)) (A : Arv Z h a cA .byte z vs d) (hj : ¬ j < 0 ∧ j < z) (hi : j.toNatClampNeg = i) (hlen : i < vs.length) (hy : Jvm.RoadKit.nar .byte x = y) (ha : Z.heap.size ≤ a) (S : Safe Z EL vm h a) (hp : pc + 1 = n)
    (k : ∀ h', Wr h h' a j.toNatClampNeg (.int y) → Arv Z h' a cA .byte z (vs.set i (.int y)) d → CHr Z EL vm h vm h' → WP l Z EL nar own nm bytes maxL ret R Q vm h' ce sl n Ls rest) : WP l Z EL nar own nm bytes maxL ret R Q vm h ce sl pc Ls (.int x :: .int j :: .ref a :: rest) := by
  subst hp hy
  obtain ⟨cl, A1, q1, S1, M1, H1, G1⟩ := A
  refine WP.write ha (fun _ => S) (fun p e s args below T m meth c L hx hb hnm X hZ hown eT => ?_) fun h' W r => k h' W (Arv.set A1 q1 S1 M1 H1 G1 (fits_nar_byte _) W i hi hlen) r
  exact stB X hx hZ eT A1 (inb_of S1 hj) (g := mkF m pc Ls (.int x :: .int j :: .ref a :: rest)) rfl rfl (hb ▸ hd)
theorem WP.alen {ty : FieldType} {a : Addr} {cA : ClassId} {z : Int32} {vs : List Value} {d : Value} (hd : decode bytes pc = .ok (.arraylength, 1)) (A : Arv Z h a cA ty z vs d) (hp : pc + 1 = n) (k : WP l Z EL nar own nm bytes maxL ret R Q vm h ce sl n Ls (.int z :: rest)) : WP l Z EL nar own nm bytes maxL ret R Q vm h ce sl pc Ls (.ref a :: rest) := by
  subst hp
  obtain ⟨cl, A1, -, hz, hz0, -⟩ := A
  refine WP.look (Ls' := Ls) (fun p e s args below T m meth c L hx hb X hZ hown eT => ⟨T, X, eT, fun target q => ?_⟩) k
  refine X.arraylength hx (cell := cl) (by rw [eT]; exact A1.1) (State.isArrayOf_alike hZ.alike A1.2.1) (g := mkF m pc Ls (.ref a :: rest)) rfl rfl (hb ▸ hd) _ ?_
  rw [len_of hz hz0]
  exact q
theorem WP.initO {idx : Nat} {a : Addr} {Wd : Nat} (hd : decode bytes pc = .ok (.invokespecial idx, 3)) (w1 : (Cond.methodLink own idx Lib.objectInit).before a0 Z = true) (w2 : (Cond.instanceMethod Lib.objectInit).before a0 Z = true) (w3 : (Cond.code Lib.objectInit ⟨#[0xb1]⟩ 1 none).before a0 Z = true) (hsize : Ls.size = maxL) (hf : 1 ≤ R.frames) (hW : (rest.map fun v => v.category).sum ≤ Wd) (hl : Wd + 12 ≤ R.locals) (hp : pc + 3 = n)
    (k : WP l Z EL nar own nm bytes maxL ret R Q vm h ce sl n Ls rest) : WP l Z EL nar own nm bytes maxL ret R Q vm h ce sl pc Ls (.ref a :: rest) := by
  subst hp
  intro p e s m args below meth c T L cx ⟨X, hS, hZ, hown, eT, N, hE, hC, hW', hEL⟩
  obtain ⟨T', X', e', stp⟩ := initO X cx.1 hZ hown w1 w2 w3 eT (g := mkF m pc Ls (.ref a :: rest)) rfl (by rw [cx.2.2.1]; exact hsize) rfl (cx.2.1 ▸ hd) hf (W := Wd) (by show 2 * 0 + _ ≤ _; omega) hl
  obtain ⟨t, o, h1, r⟩ := k p e s m args below meth c T' L cx ⟨X', hS, hZ, hown, e', N, hE, hC, hW', hEL⟩
  exact ⟨t, o, stp _ h1, r⟩
theorem WP.retV (hd : decode bytes pc = .ok (.return_, 1)) (hr : ret = none) (hc : ce ≤ R.cells) (hsl : sl ≤ R.slots) (hq : Q none h) : WP l Z EL nar own nm bytes maxL ret R Q vm h ce sl pc Ls [] :=
  WP.done (v := none) hc hsl (fun _ => rfl) (fun p e s args below T m meth c L fs hx hb hret X hl => X.returnOut hx (hret.trans hr) (hb ▸ hd) hl) hq
theorem WP.retI {x : Int32} (hd : decode bytes pc = .ok (.ireturn, 1)) (hr : ret = some .int) (hc : ce ≤ R.cells) (hsl : sl ≤ R.slots) (hq : Q (some (.int x)) h) : WP l Z EL nar own nm bytes maxL ret R Q vm h ce sl pc Ls (.int x :: rest) :=
  WP.done (v := some (.int x)) hc hsl (fun q => by rw [hr] at q; cases q) (fun p e s args below T m meth c L fs hx hb hret X hl => retOut X hx (t := .int) (hret.trans hr) rfl (Or.inl ⟨rfl, Or.inl rfl, x, rfl⟩) (hb ▸ hd) hl) hq
theorem WP.retN {t : FieldType} {x z : Int32} (hd : decode bytes pc = .ok (.ireturn, 1)) (hr : ret = some t) (ht : t = .boolean ∨ t = .byte ∨ t = .char ∨ t = .short) (hz : Jvm.RoadKit.nar t x = z) (hc : ce ≤ R.cells) (hsl : sl ≤ R.slots) (hq : Q (some (.int z)) h) : WP l Z EL nar own nm bytes maxL ret R Q vm h ce sl pc Ls (.int x :: rest) := by
  subst hz
  exact WP.done (v := some (.int (Jvm.RoadKit.nar t x))) hc hsl (fun q => by rw [hr] at q; cases q) (fun p e s args below T m meth c L fs hx hb hret X hl => Jvm.RoadKit.retN X hx (hret.trans hr) ht (hb ▸ hd) hl) hq
theorem WP.retA {t : FieldType} {v : Value} (hd : decode bytes pc = .ok (.areturn, 1)) (hr : ret = some t) (ht : t.isReference = true) (hv : v.isRef = true) (hn : narrow t v = v) (hc : ce ≤ R.cells) (hsl : sl ≤ R.slots) (hq : Q (some v) h) : WP l Z EL nar own nm bytes maxL ret R Q vm h ce sl pc Ls (v :: rest) :=
  WP.done (v := some v) hc hsl (fun q => by rw [hr] at q; cases q) (fun p e s args below T m meth c L fs hx hb hret X hl => retOut X hx (t := t) (hret.trans hr) hn (Or.inr (Or.inr (Or.inr (Or.inr ⟨rfl, ht, hv⟩)))) (hb ▸ hd) hl) hq
theorem WP.callS {sf : List Addr} {y : MethodName} {yb : ByteArray} {yl : Nat} {yr : Option FieldType} {rm : Room} {as' : Array Value} {Qy : Option Value → Heap → Prop} {index Wd ce' sl' : Nat} (C : Con l Z EL nar sf y yb yl yr rm as' h Qy) (hd : decode bytes pc = .ok (.invokestatic index, 3)) (w1 : (Cond.methodLink own index y).before a0 Z = true) (w2 : (Cond.static y).before a0 Z = true) (wz : (Cond.initialized y.cls).before a0 Z = true) (wc : (Cond.code y yb yl yr).before a0 Z = true) (hy : y.cls ≠ "java/lang/invoke/MethodHandle" ∧ y.cls ≠ "java/lang/invoke/VarHandle") (hsf : ∀ x ∈ sf, Safe Z EL vm h x ∧ x < h.size) (hf : rm.frames + 1 ≤ R.frames) (hl : Wd + (yl + 11) + rm.locals ≤ R.locals) (hce : ce + rm.cells = ce') (hsl : sl + rm.slots = sl') (hc : ce' ≤ R.cells) (hs : sl' ≤ R.slots) (hsize : Ls.size = maxL) {argsL : List Value} (hargs : argsL.toArray = as') (hlen : ∀ sig, parseMethodDescriptor y.desc = some sig → argsL.length = sig.parameters.length) (hst : st = argsL.reverse ++ rest) (hWd : (rest.map fun v => v.category).sum ≤ Wd) (hp : pc + 3 = n)
    (k : ∀ v vm' h', Qy v h' → CHr Z EL vm h vm' h' → WP l Z EL nar own nm bytes maxL ret R Q vm' h' ce' sl' n Ls (v.toList ++ rest)) : WP l Z EL nar own nm bytes maxL ret R Q vm h ce sl pc Ls st := by
  subst hp hce hsl
  intro p e s m args below meth c T L cx ⟨X, ⟨k0, hS, hk⟩, hZ, hown, eT, N, hE, hC, hW', a1, hEL⟩
  have hB := C.back (R := R) (p := p) (e := e) (below := below) (s := s) (args := args) (len := 3) (Wd := Wd) hEL hZ wc wz hf hl hE hC.1 hsf
  obtain ⟨v, vm₁, ⟨U, L', ke, ks⟩, hw1, X', hS', hg', ⟨Lq, q1, q2, q3, q4, q5, q6, q7, q8⟩, stp⟩ := callSS X cx.1 hown (mvT (s := s.setVm vm) hZ w1) (mvT (s := s.setVm vm) hZ w2) (mvT (s := s.setVm vm) hZ wz) (mvT (s := s.setVm vm) hZ wc) hy hB (g := mkF m pc Ls st) rfl (by rw [cx.2.2.1]; exact hsize) (argsL := argsL) (rest := rest) hlen hst (by show 2 * 0 + _ ≤ _; omega) (cx.2.1 ▸ hd) (fun _ _ => ⟨hargs, eT, hc, hs⟩)
  dsimp only [Pt.U, Pt.locs, Pt.cells, Pt.slots] at X' hS' hg' q1 q2 q4 q5 q6 q7 q8 stp
  subst q4 q5 q6
  obtain ⟨t, o, h1, r⟩ := k v U.vm U.heap q1 q7 p e s m args below meth c U _ cx ⟨X', ⟨_, hS.trans hS' (Nat.le_trans hk (by rw [← eT]; exact hg')), Nat.le_refl _⟩, State.Warmed39.trans (t := s.setVm vm) hZ hS'.1, (hS'.1.alike.findClass _ _).trans hown, rfl, Fr.app N q3, q2, hC.trans q7, fun q => State.WarmedH.trans (t := s.setVm vm) (hW' q) (q8 q), a1, hEL⟩
  exact ⟨t, o, stp.trans h1, r⟩
theorem WP.callP {sf : List Addr} {y : MethodName} {yb : ByteArray} {yl : Nat} {rm : Room} {as' : Array Value} {Qy : Option Value → Heap → Prop} {index Wd ce' sl' : Nat} (C : Con l Z EL nar sf y yb yl none rm as' h Qy) (hd : decode bytes pc = .ok (.invokespecial index, 3)) (hy1 : y.name = "<init>") (w1 : (Cond.methodLink own index y).before a0 Z = true) (w2 : (Cond.instanceMethod y).before a0 Z = true) (wz : (Cond.initialized y.cls).before a0 Z = true) (wc : (Cond.code y yb yl none).before a0 Z = true) (hy : y.cls ≠ "java/lang/invoke/MethodHandle" ∧ y.cls ≠ "java/lang/invoke/VarHandle") (hsf : ∀ x ∈ sf, Safe Z EL vm h x ∧ x < h.size) (hf : rm.frames + 1 ≤ R.frames) (hl : Wd + (yl + 11) + rm.locals ≤ R.locals) (hce : ce + rm.cells = ce') (hsl : sl + rm.slots = sl') (hc : ce' ≤ R.cells) (hs : sl' ≤ R.slots) (hsize : Ls.size = maxL) {a : Addr} {argsL : List Value} (hargs : (Value.ref a :: argsL).toArray = as') (hlen : ∀ sig, parseMethodDescriptor y.desc = some sig → argsL.length = sig.parameters.length) (hst : st = argsL.reverse ++ .ref a :: rest) (hWd : (rest.map fun v => v.category).sum ≤ Wd) (hp : pc + 3 = n)
    (k : ∀ v vm' h', Qy v h' → CHr Z EL vm h vm' h' → WP l Z EL nar own nm bytes maxL ret R Q vm' h' ce' sl' n Ls (v.toList ++ rest)) : WP l Z EL nar own nm bytes maxL ret R Q vm h ce sl pc Ls st := by
  subst hp hce hsl
  intro p e s m args below meth c T L cx ⟨X, ⟨k0, hS, hk⟩, hZ, hown, eT, N, hE, hC, hW', a1, hEL⟩
  have hB := C.back (R := R) (p := p) (e := e) (below := below) (s := s) (args := args) (len := 3) (Wd := Wd) hEL hZ wc wz hf hl hE hC.1 hsf
  obtain ⟨v, vm₁, ⟨U, L', ke, ks⟩, hw1, X', hS', hg', ⟨Lq, q1, q2, q3, q4, q5, q6, q7, q8⟩, stp⟩ := X.specialBackS cx.1 hy1 hown (mvT (s := s.setVm vm) hZ w1) (mvT (s := s.setVm vm) hZ w2) (mvT (s := s.setVm vm) hZ wc) hy hB (g := mkF m pc Ls st) rfl (by rw [cx.2.2.1]; exact hsize) (Steps.refl _) (a := a) (argsL := argsL) (rest := rest) hlen hst (by show 2 * 0 + _ ≤ _; omega) (cx.2.1 ▸ hd) (fun _ _ => ⟨hargs, eT, hc, hs⟩)
  dsimp only [Pt.U, Pt.locs, Pt.cells, Pt.slots] at X' hS' hg' q1 q2 q4 q5 q6 q7 q8 stp
  subst q4 q5 q6
  obtain ⟨t, o, h1, r⟩ := k v U.vm U.heap q1 q7 p e s m args below meth c U _ cx ⟨X', ⟨_, hS.trans hS' (Nat.le_trans hk (by rw [← eT]; exact hg')), Nat.le_refl _⟩, State.Warmed39.trans (t := s.setVm vm) hZ hS'.1, (hS'.1.alike.findClass _ _).trans hown, rfl, Fr.app N q3, q2, hC.trans q7, fun q => State.WarmedH.trans (t := s.setVm vm) (hW' q) (q8 q), a1, hEL⟩
  exact ⟨t, o, stp.trans h1, r⟩
theorem WP.callV {sf : List Addr} {y : MethodName} {yb : ByteArray} {yl : Nat} {yr : Option FieldType} {rm : Room} {as' : Array Value} {Qy : Option Value → Heap → Prop} {index Wd ce' sl' : Nat} {x : MethodName} {Cn : String} {a : Addr} (C : Con l Z EL nar sf y yb yl yr rm as' h Qy) (E : Exa Z h a Cn) (hd : decode bytes pc = .ok (.invokevirtual index, 3)) (w1 : (Cond.methodLink own index x).before a0 Z = true) (w2 : (Cond.declares x).before a0 Z = true) (w3 : (Cond.selects Cn x y).before a0 Z = true) (w4 : (Cond.instanceMethod y).before a0 Z = true) (wz : (Cond.initialized y.cls).before a0 Z = true) (wc : (Cond.code y yb yl yr).before a0 Z = true) (hy : x.cls ≠ "java/lang/invoke/MethodHandle" ∧ x.cls ≠ "java/lang/invoke/VarHandle") (hnf : ∀ s : State, Z.Warmed39 s.vm → NotFace s x) (hsf : ∀ x ∈ sf, Safe Z EL vm h x ∧ x < h.size) (hf : rm.frames + 1 ≤ R.frames) (hl : Wd + (yl + 11) + rm.locals ≤ R.locals) (hce : ce + rm.cells = ce') (hsl : sl + rm.slots = sl') (hc : ce' ≤ R.cells) (hs : sl' ≤ R.slots) (hsize : Ls.size = maxL) {argsL : List Value} (hargs : (Value.ref a :: argsL).toArray = as') (hlen : ∀ sig, parseMethodDescriptor x.desc = some sig → argsL.length = sig.parameters.length) (hst : st = argsL.reverse ++ .ref a :: rest) (hWd : (rest.map fun v => v.category).sum ≤ Wd) (hp : pc + 3 = n)
    (k : ∀ v vm' h', Qy v h' → CHr Z EL vm h vm' h' → WP l Z EL nar own nm bytes maxL ret R Q vm' h' ce' sl' n Ls (v.toList ++ rest)) : WP l Z EL nar own nm bytes maxL ret R Q vm h ce sl pc Ls st := by
  subst hp hce hsl
  intro p e s m args below meth c T L cx ⟨X, ⟨k0, hS, hk⟩, hZ, hown, eT, N, hE, hC, hW', a1, hEL⟩
  have hB := C.back (R := R) (p := p) (e := e) (below := below) (s := s) (args := args) (len := 3) (Wd := Wd) hEL hZ wc wz hf hl hE hC.1 hsf
  obtain ⟨cq, kq, qa, qb, qc⟩ := isOf (s := s.setVm vm) hZ eT E
  obtain ⟨v, vm₁, ⟨U, L', ke, ks⟩, hw1, X', hS', hg', ⟨Lq, q1, q2, q3, q4, q5, q6, q7, q8⟩, stp⟩ := X.virtualBackS cx.1 hown (mvT (s := s.setVm vm) hZ w1) (mvT (s := s.setVm vm) hZ w2) (hnf _ hZ) (mvT (s := s.setVm vm) hZ w3) (mvT (s := s.setVm vm) hZ w4) hy hB qa qc (g := mkF m pc Ls st) rfl (by rw [cx.2.2.1]; exact hsize) (Steps.refl _) (argsL := argsL) (rest := rest) hlen hst (by show 2 * 0 + _ ≤ _; omega) (cx.2.1 ▸ hd) (fun _ _ => ⟨hargs, eT, hc, hs⟩)
  dsimp only [Pt.U, Pt.locs, Pt.cells, Pt.slots] at X' hS' hg' q1 q2 q4 q5 q6 q7 q8 stp
  subst q4 q5 q6
  obtain ⟨t, o, h1, r⟩ := k v U.vm U.heap q1 q7 p e s m args below meth c U _ cx ⟨X', ⟨_, hS.trans hS' (Nat.le_trans hk (by rw [← eT]; exact hg')), Nat.le_refl _⟩, State.Warmed39.trans (t := s.setVm vm) hZ hS'.1, (hS'.1.alike.findClass _ _).trans hown, rfl, Fr.app N q3, q2, hC.trans q7, fun q => State.WarmedH.trans (t := s.setVm vm) (hW' q) (q8 q), a1, hEL⟩
  exact ⟨t, o, stp.trans h1, r⟩
theorem WP.backP {y : MethodName} {as' : Array Value} {Qy : Option Value → Heap → List Loc → Prop} {index Wd kc ks ce' sl' : Nat} {yb : ByteArray} {yl : Nat} (hK : ∀ (p : Program) (e : Env) (below : List Frame) (s : State) (args : Array Value), Z.Warmed39 (s.setVm vm).vm → Back l R p e below (s.setVm vm) args y 3 Wd (fun A a => a = as' ∧ A.U.heap = h ∧ A.cells + kc ≤ R.cells ∧ A.slots + ks ≤ R.slots) (fun A _ v B => ∃ L, Qy v B.U.heap L ∧ B.locs = A.locs ++ L ∧ B.cells = A.cells + kc ∧ B.slots = A.slots + ks)) (hq : ∀ v h' L, Qy v h' L → Fr Z.heap.size L ∧ Ext Z.heap h' ∧ CHr Z EL vm h vm h') (hd : decode bytes pc = .ok (.invokespecial index, 3)) (hy1 : y.name = "<init>") (w1 : (Cond.methodLink own index y).before a0 Z = true) (w2 : (Cond.instanceMethod y).before a0 Z = true) (wc : (Cond.code y yb yl none).before a0 Z = true) (hy : y.cls ≠ "java/lang/invoke/MethodHandle" ∧ y.cls ≠ "java/lang/invoke/VarHandle") (hce : ce + kc = ce') (hsl : sl + ks = sl') (hc : ce' ≤ R.cells) (hs : sl' ≤ R.slots) (hsize : Ls.size = maxL) {a : Addr} {argsL : List Value} (hargs : (Value.ref a :: argsL).toArray = as') (hlen : ∀ sig, parseMethodDescriptor y.desc = some sig → argsL.length = sig.parameters.length) (hst : st = argsL.reverse ++ .ref a :: rest) (hWd : (rest.map fun v => v.category).sum ≤ Wd) (hp : pc + 3 = n)
    (k : ∀ v h' L, Qy v h' L → CHr Z EL vm h vm h' → WP l Z EL nar own nm bytes maxL ret R Q vm h' ce' sl' n Ls (v.toList ++ rest)) : WP l Z EL nar own nm bytes maxL ret R Q vm h ce sl pc Ls st := by
  subst hp hce hsl
  intro p e s m args below meth c T L cx ⟨X, ⟨k0, hS, hk⟩, hZ, hown, eT, N, hE, hC, hW', a1, hEL⟩
  obtain ⟨v, vm₁, ⟨U, L', ke, ks'⟩, hw1, X', ⟨Lq, q1, q4, q5, q6⟩, stp⟩ := X.specialBack cx.1 hy1 hown (mvT (s := s.setVm vm) hZ w1) (mvT (s := s.setVm vm) hZ w2) (mvT (s := s.setVm vm) hZ wc) hy (hK p e below s args hZ) (g := mkF m pc Ls st) rfl (by rw [cx.2.2.1]; exact hsize) (Steps.refl _) (a := a) (argsL := argsL) (rest := rest) hlen hst (by show 2 * 0 + _ ≤ _; omega) (cx.2.1 ▸ hd) (fun _ _ => ⟨hargs, eT, hc, hs⟩)
  dsimp only [Pt.U, Pt.locs, Pt.cells, Pt.slots] at X' q1 q4 q5 q6 stp
  subst q4 q5 q6
  obtain ⟨r1, r2, r3⟩ := hq _ _ _ q1
  obtain ⟨t, o, h1, r⟩ := k v U.heap Lq q1 r3 p e s m args below meth c U _ cx ⟨X', ⟨k0, hS, Nat.le_trans hk r3.2.1⟩, hZ, hown, rfl, Fr.app N r1, r2, hC.trans r3, hW', a1, hEL⟩
  exact ⟨t, o, stp.trans h1, r⟩
theorem WP.backV {y : MethodName} {as' : Array Value} {Qy : Option Value → Heap → List Loc → Prop} {index Wd kc ks ce' sl' : Nat} {x : MethodName} {Cn : String} {a : Addr} (hK : ∀ (p : Program) (e : Env) (below : List Frame) (s : State) (args : Array Value), Z.Warmed39 (s.setVm vm).vm → Back l R p e below (s.setVm vm) args y 3 Wd (fun A a => a = as' ∧ A.U.heap = h ∧ A.cells + kc ≤ R.cells ∧ A.slots + ks ≤ R.slots) (fun A _ v B => ∃ L, Qy v B.U.heap L ∧ B.locs = A.locs ++ L ∧ B.cells = A.cells + kc ∧ B.slots = A.slots + ks)) (hq : ∀ v h' L, Qy v h' L → Fr Z.heap.size L ∧ Ext Z.heap h' ∧ CHr Z EL vm h vm h') (E : Exa Z h a Cn) (hd : decode bytes pc = .ok (.invokevirtual index, 3)) (w1 : (Cond.methodLink own index x).before a0 Z = true) (w2 : (Cond.declares x).before a0 Z = true) (w3 : (Cond.selects Cn x y).before a0 Z = true) (w4 : (Cond.instanceMethod y).before a0 Z = true) (hy : x.cls ≠ "java/lang/invoke/MethodHandle" ∧ x.cls ≠ "java/lang/invoke/VarHandle") (hnf : ∀ s : State, Z.Warmed39 s.vm → NotFace s x) (hce : ce + kc = ce') (hsl : sl + ks = sl') (hc : ce' ≤ R.cells) (hs : sl' ≤ R.slots) (hsize : Ls.size = maxL) {argsL : List Value} (hargs : (Value.ref a :: argsL).toArray = as') (hlen : ∀ sig, parseMethodDescriptor x.desc = some sig → argsL.length = sig.parameters.length) (hst : st = argsL.reverse ++ .ref a :: rest) (hWd : (rest.map fun v => v.category).sum ≤ Wd) (hp : pc + 3 = n)
    (k : ∀ v h' L, Qy v h' L → CHr Z EL vm h vm h' → WP l Z EL nar own nm bytes maxL ret R Q vm h' ce' sl' n Ls (v.toList ++ rest)) : WP l Z EL nar own nm bytes maxL ret R Q vm h ce sl pc Ls st := by
  subst hp hce hsl
  intro p e s m args below meth c T L cx ⟨X, ⟨k0, hS, hk⟩, hZ, hown, eT, N, hE, hC, hW', a1, hEL⟩
  obtain ⟨cq, kq, qa, qb, qc⟩ := isOf (s := s.setVm vm) hZ eT E
  obtain ⟨v, vm₁, ⟨U, L', ke, ks'⟩, hw1, X', ⟨Lq, q1, q4, q5, q6⟩, stp⟩ := X.virtualBack cx.1 hown (mvT (s := s.setVm vm) hZ w1) (mvT (s := s.setVm vm) hZ w2) (hnf _ hZ) (mvT (s := s.setVm vm) hZ w3) (mvT (s := s.setVm vm) hZ w4) hy (hK p e below s args hZ) qa qc (g := mkF m pc Ls st) rfl (by rw [cx.2.2.1]; exact hsize) (Steps.refl _) (argsL := argsL) (rest := rest) hlen hst (by show 2 * 0 + _ ≤ _; omega) (cx.2.1 ▸ hd) (fun _ _ => ⟨hargs, eT, hc, hs⟩)
  dsimp only [Pt.U, Pt.locs, Pt.cells, Pt.slots] at X' q1 q4 q5 q6 stp
  subst q4 q5 q6
  obtain ⟨r1, r2, r3⟩ := hq _ _ _ q1
  obtain ⟨t, o, h1, r⟩ := k v U.heap Lq q1 r3 p e s m args below meth c U _ cx ⟨X', ⟨k0, hS, Nat.le_trans hk r3.2.1⟩, hZ, hown, rfl, Fr.app N r1, r2, hC.trans r3, hW', a1, hEL⟩
  exact ⟨t, o, stp.trans h1, r⟩
theorem WP.ldcO {index : Nat} {text : String} {nn ce' sl' : Nat} (hd : decode bytes pc = .ok (.ldc index, 2)) (hnar : nar = false) (w : (Cond.stringLink own index text).before a0 Z = true) (wS : ∀ a ∈ Bundle.stringAtoms, a.before a0 Z = true) (hn : 4 * text.toList.length ≤ nn) (hbig : nn ≤ 536870912) (hce : ce + 2 = ce') (hsl : sl + (nn + 4) = sl') (hc : ce' ≤ R.cells) (hl : sl' ≤ R.slots) (hEL : EW Z a0 EL) (hp : pc + 2 = n)
    (k : ∀ a vm' h', Ext h h' → CHr Z EL vm h vm' h' → WP l Z EL nar own nm bytes maxL ret R Q vm' h' ce' sl' n Ls (.ref a :: st)) : WP l Z EL nar own nm bytes maxL ret R Q vm h ce sl pc Ls st := by
  subst hp hce hsl
  intro p e s m args below meth c T L cx ⟨X, ⟨k0, hS, hk⟩, hZ, hown, eT, N, hE, hC, hW', hEL'⟩
  obtain ⟨a, T', h', k1, X', e', E', hS', hk', hZ', hown', hr, -, stp⟩ := ldcOH X cx.1 hZ hown w wS eT hS hk hEL hC.1 (g := mkF m pc Ls st) rfl (cx.2.1 ▸ hd) hn hbig hc hl
  obtain ⟨t, o, h1, r⟩ := k a T'.vm h' E' hr p e s m args below meth c T' L cx ⟨X', ⟨k1, hS', hk'⟩, hZ', hown', e', N, ext_trans hE E', hC.trans hr, (fun q => by rw [hnar] at q; cases q), hEL'⟩
  exact ⟨t, o, stp _ h1, r⟩
theorem WP.ldcC {index : Nat} {text : String} {nn ce' sl' : Nat} {vs : List Value} {z : Int32} (hd : decode bytes pc = .ok (.ldc index, 2)) (hnar : nar = false) (w : (Cond.stringLink own index text).before a0 Z = true) (wS : ∀ a ∈ Bundle.stringAtoms, a.before a0 Z = true) (hmem : (own, index) ∈ EL) (ht : (∀ c ∈ text.toList, c.toNat < 256) ∧ text.toList.map (fun c => Value.int (Jvm.Lit.byteI c.toNat.toUInt16)) = vs) (hz : ¬ z < 0) (hzl : z.toNatClampNeg = vs.length) (hn : 4 * text.toList.length ≤ nn) (hbig : nn ≤ 536870912) (hce : ce + 2 = ce') (hsl : sl + (nn + 4) = sl') (hc : ce' ≤ R.cells) (hl : sl' ≤ R.slots) (hEL : EW Z a0 EL) (hp : pc + 2 = n)
    (k : ∀ a b kb vm' h', Ext h h' → CHr Z EL vm h vm' h' → Exa Z h' a "java/lang/String" → Fld Z h' a "java/lang/String" "coder" "B" (.int 0) → Fld Z h' a "java/lang/String" "value" "[B" (.ref b) → Arv Z h' b kb .byte z vs (.int 0) → Lit (Z.setVm vm') own index a → (∀ x, Safe Z EL vm' h' x → x ≠ a ∧ x ≠ b) → WP l Z EL nar own nm bytes maxL ret R Q vm' h' ce' sl' n Ls (.ref a :: st)) : WP l Z EL nar own nm bytes maxL ret R Q vm h ce sl pc Ls st := by
  subst hp hce hsl
  intro p e s m args below meth c T L cx ⟨X, ⟨k0, hS, hk⟩, hZ, hown, eT, N, hE, hC, hW', hEL'⟩
  obtain ⟨a, T', h', k1, b, kb, X', e', E', hS', hk', hZ', hown', f1, f2, f3, f4, -, -, hr, hLi, hNe, stp⟩ := ldcCH X cx.1 hZ hown w wS eT hS hk hEL hmem hC.1 ht hz hzl (g := mkF m pc Ls st) rfl (cx.2.1 ▸ hd) hn hbig hc hl
  obtain ⟨t, o, h1, r⟩ := k a b kb T'.vm h' E' hr f1 f2 f3 f4 hLi hNe p e s m args below meth c T' L cx ⟨X', ⟨k1, hS', hk'⟩, hZ', hown', e', N, ext_trans hE E', hC.trans hr, (fun q => by rw [hnar] at q; cases q), hEL'⟩
  exact ⟨t, o, stp _ h1, r⟩
theorem WP.baload {a : Addr} {cA : ClassId} {z j : Int32} {vs : List Value} {d v : Value} (hd : decode bytes pc = .ok (.baload, 1)) (A : Arv Z h a cA .byte z vs d) (hj : ¬ j < 0 ∧ j < z) (hv : vs.getD j.toNatClampNeg d = v) (hp : pc + 1 = n) (k : WP l Z EL nar own nm bytes maxL ret R Q vm h ce sl n Ls (v :: rest)) : WP l Z EL nar own nm bytes maxL ret R Q vm h ce sl pc Ls (.int j :: .ref a :: rest) := by
  subst hp
  obtain ⟨cl, A1, q1, S1, M1, H1, G1⟩ := A
  refine WP.look (Ls' := Ls) (fun p e s args below T m meth c L hx hb X hZ hown eT => ⟨T, X, eT, fun target q => ?_⟩) k
  exact X.baloadBytes hx (j := j) (v := v) (by rw [eT]; exact A1.1) (State.isArrayOf_alike hZ.alike A1.2.1) A1.2.2 (inb_of S1 hj) (H1.at (inb_of S1 hj) hv) (g := mkF m pc Ls (.int j :: .ref a :: rest)) rfl rfl (hb ▸ hd) _ q
theorem WP.caload {a : Addr} {cA : ClassId} {z j : Int32} {vs : List Value} {d v : Value} (hd : decode bytes pc = .ok (.caload, 1)) (A : Arv Z h a cA .char z vs d) (hj : ¬ j < 0 ∧ j < z) (hv : vs.getD j.toNatClampNeg d = v) (hp : pc + 1 = n) (k : WP l Z EL nar own nm bytes maxL ret R Q vm h ce sl n Ls (v :: rest)) : WP l Z EL nar own nm bytes maxL ret R Q vm h ce sl pc Ls (.int j :: .ref a :: rest) := by
  subst hp
  obtain ⟨cl, A1, q1, S1, M1, H1, G1⟩ := A
  refine WP.look (Ls' := Ls) (fun p e s args below T m meth c L hx hb X hZ hown eT => ⟨T, X, eT, fun target q => ?_⟩) k
  exact X.caload hx (j := j) (v := v) (by rw [eT]; exact A1.1) (State.isArrayOf_alike hZ.alike A1.2.1) A1.2.2 (inb_of S1 hj) (H1.at (inb_of S1 hj) hv) (g := mkF m pc Ls (.int j :: .ref a :: rest)) rfl rfl (hb ▸ hd) _ q
theorem WP.iaload {a : Addr} {cA : ClassId} {z j : Int32} {vs : List Value} {d v : Value} (hd : decode bytes pc = .ok (.iaload, 1)) (A : Arv Z h a cA .int z vs d) (hj : ¬ j < 0 ∧ j < z) (hv : vs.getD j.toNatClampNeg d = v) (hp : pc + 1 = n) (k : WP l Z EL nar own nm bytes maxL ret R Q vm h ce sl n Ls (v :: rest)) : WP l Z EL nar own nm bytes maxL ret R Q vm h ce sl pc Ls (.int j :: .ref a :: rest) := by
  subst hp
  obtain ⟨cl, A1, q1, S1, M1, H1, G1⟩ := A
  refine WP.look (Ls' := Ls) (fun p e s args below T m meth c L hx hb X hZ hown eT => ⟨T, X, eT, fun target q => ?_⟩) k
  exact X.iaload hx (j := j) (v := v) (by rw [eT]; exact A1.1) (State.isArrayOf_alike hZ.alike A1.2.1) A1.2.2 (inb_of S1 hj) (H1.at (inb_of S1 hj) hv) (g := mkF m pc Ls (.int j :: .ref a :: rest)) rfl rfl (hb ▸ hd) _ q
theorem WP.castY {K : String} {index : Nat} {a : Addr} (hd : decode bytes pc = .ok (.checkcast index, 3)) (w : (Cond.classLink own index K).before a0 Z = true) (F : Ins Z h a K true) (hp : pc + 3 = n) (k : WP l Z EL nar own nm bytes maxL ret R Q vm h ce sl n Ls (.ref a :: rest)) : WP l Z EL nar own nm bytes maxL ret R Q vm h ce sl pc Ls (.ref a :: rest) := by
  subst hp
  refine WP.look (fun p e s args below T m meth c L hx hb X hZ hown eT => ?_) k
  exact castY X hx hZ hown w eT F (g := mkF m pc Ls (.ref a :: rest)) rfl rfl (hb ▸ hd)
theorem WP.instY {K : String} {index : Nat} {a : Addr} (hd : decode bytes pc = .ok (.instanceof index, 3)) (w : (Cond.classLink own index K).before a0 Z = true) (F : Ins Z h a K true) (hp : pc + 3 = n) (k : WP l Z EL nar own nm bytes maxL ret R Q vm h ce sl n Ls (.int 1 :: rest)) : WP l Z EL nar own nm bytes maxL ret R Q vm h ce sl pc Ls (.ref a :: rest) := by
  subst hp
  refine WP.look (fun p e s args below T m meth c L hx hb X hZ hown eT => ?_) k
  exact instY X hx hZ hown w eT F (g := mkF m pc Ls (.ref a :: rest)) rfl rfl (hb ▸ hd)
theorem WP.instNo {K C : String} {index : Nat} {a : Addr} (hd : decode bytes pc = .ok (.instanceof index, 3)) (w : (Cond.classLink own index K).before a0 Z = true) (E : Exa Z h a C) (F : ∃ c t, Z.vm.findClass C = some c ∧ Z.vm.findClass K = some t ∧ Z.vm.assignable c t = false) (hp : pc + 3 = n) (k : WP l Z EL nar own nm bytes maxL ret R Q vm h ce sl n Ls (.int 0 :: rest)) : WP l Z EL nar own nm bytes maxL ret R Q vm h ce sl pc Ls (.ref a :: rest) := by
  subst hp
  refine WP.look (fun p e s args below T m meth c L hx hb X hZ hown eT => ?_) k
  exact instNo X hx hZ hown w eT E F (g := mkF m pc Ls (.ref a :: rest)) rfl rfl (hb ▸ hd)
theorem WP.instNull {index : Nat} (hd : decode bytes pc = .ok (.instanceof index, 3)) (hp : pc + 3 = n) (k : WP l Z EL nar own nm bytes maxL ret R Q vm h ce sl n Ls (.int 0 :: rest)) : WP l Z EL nar own nm bytes maxL ret R Q vm h ce sl pc Ls (.null :: rest) := by
  subst hp
  refine WP.look (Ls' := Ls) (fun p e s args below T m meth c L hx hb X hZ hown eT => ⟨T, X, eT, fun target q => ?_⟩) k
  exact X.instanceofNull hx (g := mkF m pc Ls (.null :: rest)) rfl rfl (hb ▸ hd) _ q
theorem WP.castNull {index : Nat} (hd : decode bytes pc = .ok (.checkcast index, 3)) (hp : pc + 3 = n) (k : WP l Z EL nar own nm bytes maxL ret R Q vm h ce sl n Ls (.null :: rest)) : WP l Z EL nar own nm bytes maxL ret R Q vm h ce sl pc Ls (.null :: rest) := by
  subst hp
  refine WP.look (Ls' := Ls) (fun p e s args below T m meth c L hx hb X hZ hown eT => ⟨T, X, eT, fun target q => ?_⟩) k
  exact X.checkcastNull hx (g := mkF m pc Ls (.null :: rest)) rfl rfl (hb ▸ hd) _ q
theorem WP.ldcA {index : Nat} {text : String} {a : Addr} (hd : decode bytes pc = .ok (.ldc index, 2)) (w : (Cond.stringLink own index text).before a0 Z = true) (Li : Lit (Z.setVm vm) own index a) (hp : pc + 2 = n) (k : WP l Z EL nar own nm bytes maxL ret R Q vm h ce sl n Ls (.ref a :: st)) : WP l Z EL nar own nm bytes maxL ret R Q vm h ce sl pc Ls st := by
  subst hp
  refine WP.look (Ls' := Ls) (fun p e s args below T m meth c L hx hb X hZ hown eT => ⟨T, X, eT, fun target q => ?_⟩) k
  exact ldcAgain X hx hZ hown w Li (g := mkF m pc Ls st) rfl (hb ▸ hd) _ q
theorem WP.backS {y : MethodName} {as' : Array Value} {Qy : Option Value → Heap → List Loc → Prop} {index Wd kc ks ce' sl' : Nat} {yb : ByteArray} {yl : Nat} {yr : Option FieldType} (hK : ∀ (p : Program) (e : Env) (below : List Frame) (s : State) (args : Array Value), Z.Warmed39 (s.setVm vm).vm → Back l R p e below (s.setVm vm) args y 3 Wd (fun A a => a = as' ∧ A.U.heap = h ∧ A.cells + kc ≤ R.cells ∧ A.slots + ks ≤ R.slots) (fun A _ v B => ∃ L, Qy v B.U.heap L ∧ B.locs = A.locs ++ L ∧ B.cells = A.cells + kc ∧ B.slots = A.slots + ks)) (hq : ∀ v h' L, Qy v h' L → Fr Z.heap.size L ∧ Ext Z.heap h' ∧ CHr Z EL vm h vm h') (hd : decode bytes pc = .ok (.invokestatic index, 3)) (w1 : (Cond.methodLink own index y).before a0 Z = true) (w2 : (Cond.static y).before a0 Z = true) (wz : (Cond.initialized y.cls).before a0 Z = true) (wc : (Cond.code y yb yl yr).before a0 Z = true) (hy : y.cls ≠ "java/lang/invoke/MethodHandle" ∧ y.cls ≠ "java/lang/invoke/VarHandle") (hce : ce + kc = ce') (hsl : sl + ks = sl') (hc : ce' ≤ R.cells) (hs : sl' ≤ R.slots) (hsize : Ls.size = maxL) {argsL : List Value} (hargs : argsL.toArray = as') (hlen : ∀ sig, parseMethodDescriptor y.desc = some sig → argsL.length = sig.parameters.length) (hst : st = argsL.reverse ++ rest) (hWd : (rest.map fun v => v.category).sum ≤ Wd) (hp : pc + 3 = n)
    (k : ∀ v h' L, Qy v h' L → CHr Z EL vm h vm h' → WP l Z EL nar own nm bytes maxL ret R Q vm h' ce' sl' n Ls (v.toList ++ rest)) : WP l Z EL nar own nm bytes maxL ret R Q vm h ce sl pc Ls st := by
  subst hp hce hsl
  intro p e s m args below meth c T L cx ⟨X, ⟨k0, hS, hk⟩, hZ, hown, eT, N, hE, hC, hW', a1, hEL⟩
  obtain ⟨v, vm₁, ⟨U, L', ke, ks'⟩, hw1, X', ⟨Lq, q1, q4, q5, q6⟩, stp⟩ := Jvm.LawKit.callS X cx.1 hown (mvT (s := s.setVm vm) hZ w1) (mvT (s := s.setVm vm) hZ w2) (mvT (s := s.setVm vm) hZ wz) (mvT (s := s.setVm vm) hZ wc) hy (hK p e below s args hZ) (g := mkF m pc Ls st) rfl (by rw [cx.2.2.1]; exact hsize) (argsL := argsL) (rest := rest) hlen hst (by show 2 * 0 + _ ≤ _; omega) (cx.2.1 ▸ hd) (fun _ _ => ⟨hargs, eT, hc, hs⟩)
  dsimp only [Pt.U, Pt.locs, Pt.cells, Pt.slots] at X' q1 q4 q5 q6 stp
  subst q4 q5 q6
  obtain ⟨r1, r2, r3⟩ := hq _ _ _ q1
  obtain ⟨t, o, h1, r⟩ := k v U.heap Lq q1 r3 p e s m args below meth c U _ cx ⟨X', ⟨k0, hS, Nat.le_trans hk r3.2.1⟩, hZ, hown, rfl, Fr.app N r1, r2, hC.trans r3, hW', a1, hEL⟩
  exact ⟨t, o, stp _ h1, r⟩
theorem WP.ldcI {index : Nat} {v : Int32} (hd : decode bytes pc = .ok (.ldc index, 2)) (w : (Cond.constant own index v).before a0 Z = true) (hp : pc + 2 = n) (k : WP l Z EL nar own nm bytes maxL ret R Q vm h ce sl n Ls (.int v :: st)) : WP l Z EL nar own nm bytes maxL ret R Q vm h ce sl pc Ls st := by
  subst hp
  refine WP.look (Ls' := Ls) (fun p e s args below T m meth c L hx hb X hZ hown eT => ⟨T, X, eT, fun target q => ?_⟩) k
  exact X.ldcInt hx hown (mvT (s := s.setVm vm) hZ w) (g := mkF m pc Ls st) rfl (hb ▸ hd) _ q
end Steps
end Jvm.OwnW
namespace Jvm.OwnW
open Jvm Jvm.ClassFile Sem Op Lib Jvm.Free Jvm.Stand Jvm.LawKit Jvm.RoadKit Bundle Jvm.Free.SB Jvm.Free.SBG
section Priv
variable {p : Program} {l : Launch} {e : Env} {R : Room} {s : State} {m : MethodId} {args : Array Value} {below : List Frame} {meth : Method} {c : Code} {T : State} {locs : List Loc} {cells slots : Nat}
/-- a private method by invokevirtual, its words as the sheet has them (selects of the receiver's class) -/
theorem own_privS (X : Stand p l e R s m args below meth c T locs cells slots) (hexec : p.tables.exec = Jvm.exec) {own C : String} {index : Nat} {y : MethodName} {bytes : ByteArray} {maxL : Nat} {ret : Option FieldType}
    (hown : s.vm.findClass own = some m.cls) (hlink : (Cond.methodLink own index y).before args s = true) (hinst : (Cond.instanceMethod y).before args s = true) (hsel : (Cond.selects C y y).before args s = true)
    (hpriv : s.PrivateAt y) (hcode : (Cond.code y bytes maxL ret).before args s = true) (hy : y.cls ≠ "java/lang/invoke/MethodHandle" ∧ y.cls ≠ "java/lang/invoke/VarHandle")
    {W : Nat} {Pre : Pt → Array Value → Prop} {Post : Pt → Array Value → Option Value → Pt → Prop} (hK : BackS l R p e below s args y 3 W Pre Post)
    {g : JFrame} (hg : g.method = m) (hsize : g.locals.size = c.maxLocals) {a : Addr} {cell : Cell} (hcell : T.heap[a]? = some cell) (hobj : ∀ q, cell.vm ≠ .statics q)
    {argsL rest : List Value} (hlen : ∀ sig, parseMethodDescriptor y.desc = some sig → argsL.length = sig.parameters.length)
    (hstack : g.stack = argsL.reverse ++ .ref a :: rest) (hW : 2 * g.monitorRoom + (rest.map fun v => v.category).sum ≤ W) (hdg : decode c.code g.pc = .ok (.invokevirtual index, 3))
    (hpre : ∀ vm₁, s.WarmedH vm₁ → Pre ⟨T.setVm vm₁, locs, cells, slots⟩ (.ref a :: argsL).toArray) :
    ∃ (v : Option Value) (vm₁ : Vm) (B : Pt), s.WarmedH vm₁ ∧ Stand p l e R (s.setVm B.U.vm) m args below meth c B.U B.locs B.cells B.slots ∧ s.Since B.U.vm B.U.heap.size ∧ T.heap.size ≤ B.U.heap.size ∧ Post ⟨T.setVm vm₁, locs, cells, slots⟩ (.ref a :: argsL).toArray v B ∧
      Steps p.tables e below (T.setTop g) (B.U.setTop { g with pc := g.pc + 3, stack := v.toList ++ rest }) := by
  obtain ⟨mk, methM, hn, hmM, hst, hab⟩ := Cond.instanceMethod_spec hinst
  obtain ⟨m3, cM, q0, -, -, -, -, -, -, hsig⟩ := Cond.code_spec hn hcode
  cases hmM.symm.trans q0
  obtain ⟨c2, r2, m2, -, -, q3, -, kP, hkP, hkPi⟩ := Cond.selects_spec hsel
  cases hn.symm.trans q3
  obtain ⟨vm₁, X₁, go⟩ := X.invokevirtual hexec hown hlink hn hmM hst hkP hkPi hy (a := a) (cell := cell) hcell hobj (selectMethod_private hmM (hpriv mk methM hn hmM)) hmM hab hkP hkPi (g := g) hg (argsL := argsL) (rest := rest) (hlen _ hsig) hstack hdg
  obtain ⟨v, B, X', hS, hgr, hpost, hsteps⟩ := hK m meth c ⟨T.setVm vm₁, locs, cells, slots⟩ { g with stack := rest } (.invokevirtual index) mk (.ref a :: argsL).toArray X₁ hg hsize hdg hW (X₁.named hn) (hpre vm₁ X₁.warmed)
  exact ⟨v, vm₁, B, X₁.warmed, X', hS, hgr, hpost, (go _ fun acts => by rw [doInvoke_state]; exact Steps.refl _).trans hsteps⟩
end Priv
theorem own_sameM {Z : State} {a0 : Array Value} {y : MethodName} (w : (Cond.declares y).before a0 Z = true) (nf : NotFace Z y) (hy : y.cls ≠ "java/lang/invoke/MethodHandle" ∧ y.cls ≠ "java/lang/invoke/VarHandle") : (Cond.sameMethod y.cls y.cls y.name y.desc).before a0 Z = true := by
  obtain ⟨r, mr, h1, h2, -, -⟩ := Cond.declares_spec w
  obtain ⟨kr, h3, h4⟩ := nf r h1
  have hc := findClass_of_methodNamed h1
  have hf := State.methodFound?_of_named h1 hy
  have h1' : Z.methodNamed? ⟨y.cls, y.name, y.desc⟩ = some r := h1
  simp [Cond.before, Cond.holds, Cond.value, hc, hf, h1', h3, h4]
section Steps3
variable {l : Launch} {Z : State} {EL : List (String × Nat)} {nar : Bool} {own nm : String} {bytes : ByteArray} {maxL : Nat} {ret : Option FieldType} {R : Room} {Q : Option Value → Heap → Prop} {vm : Vm} {h : Heap} {ce sl pc n n' : Nat} {Ls Ls' : Array Slot} {st rest : List Value} {a0 : Array Value}
theorem WP.callPr {sf : List Addr} {y : MethodName} {yb : ByteArray} {yl : Nat} {yr : Option FieldType} {rm : Room} {as' : Array Value} {Qy : Option Value → Heap → Prop} {index Wd ce' sl' : Nat} {Cn : String} {a : Addr} (C : Con l Z EL nar sf y yb yl yr rm as' h Qy) (E : Exa Z h a Cn) (hd : decode bytes pc = .ok (.invokevirtual index, 3)) (w1 : (Cond.methodLink own index y).before a0 Z = true) (w2 : (Cond.instanceMethod y).before a0 Z = true) (w3 : (Cond.selects Cn y y).before a0 Z = true) (w4 : (Cond.privateMethod y).before a0 Z = true) (wz : (Cond.initialized y.cls).before a0 Z = true) (wc : (Cond.code y yb yl yr).before a0 Z = true) (hy : y.cls ≠ "java/lang/invoke/MethodHandle" ∧ y.cls ≠ "java/lang/invoke/VarHandle") (hsf : ∀ x ∈ sf, Safe Z EL vm h x ∧ x < h.size) (hf : rm.frames + 1 ≤ R.frames) (hl : Wd + (yl + 11) + rm.locals ≤ R.locals) (hce : ce + rm.cells = ce') (hsl : sl + rm.slots = sl') (hc : ce' ≤ R.cells) (hs : sl' ≤ R.slots) (hsize : Ls.size = maxL) {argsL : List Value} (hargs : (Value.ref a :: argsL).toArray = as') (hlen : ∀ sig, parseMethodDescriptor y.desc = some sig → argsL.length = sig.parameters.length) (hst : st = argsL.reverse ++ .ref a :: rest) (hWd : (rest.map fun v => v.category).sum ≤ Wd) (hp : pc + 3 = n)
    (k : ∀ v vm' h', Qy v h' → CHr Z EL vm h vm' h' → WP l Z EL nar own nm bytes maxL ret R Q vm' h' ce' sl' n Ls (v.toList ++ rest)) : WP l Z EL nar own nm bytes maxL ret R Q vm h ce sl pc Ls st := by
  subst hp hce hsl
  intro p e s m args below meth c T L cx ⟨X, ⟨k0, hS, hk⟩, hZ, hown, eT, N, hE, hC, hW', a1, hEL⟩
  have hB := C.back (R := R) (p := p) (e := e) (below := below) (s := s) (args := args) (len := 3) (Wd := Wd) hEL hZ wc wz hf hl hE hC.1 hsf
  obtain ⟨cell, hcell, hnst⟩ := E.cell
  obtain ⟨v, vm₁, ⟨U, L', ke, ks⟩, hw1, X', hS', hg', ⟨Lq, q1, q2, q3, q4, q5, q6, q7, q8⟩, stp⟩ := own_privS X cx.1 hown (mvT (s := s.setVm vm) hZ w1) (mvT (s := s.setVm vm) hZ w2) (mvT (s := s.setVm vm) hZ w3) (Cond.privateMethod_at (args := args) (mvP (s := s.setVm vm) hZ w4)) (mvT (s := s.setVm vm) hZ wc) hy hB (g := mkF m pc Ls st) rfl (by rw [cx.2.2.1]; exact hsize) (by rw [eT]; exact hcell) hnst (argsL := argsL) (rest := rest) hlen hst (by show 2 * 0 + _ ≤ _; omega) (cx.2.1 ▸ hd) (fun _ _ => ⟨hargs, eT, hc, hs⟩)
  dsimp only [Pt.U, Pt.locs, Pt.cells, Pt.slots] at X' hS' hg' q1 q2 q4 q5 q6 q7 q8 stp
  subst q4 q5 q6
  obtain ⟨t, o, h1, r⟩ := k v U.vm U.heap q1 q7 p e s m args below meth c U _ cx ⟨X', ⟨_, hS.trans hS' (Nat.le_trans hk (by rw [← eT]; exact hg')), Nat.le_refl _⟩, State.Warmed39.trans (t := s.setVm vm) hZ hS'.1, (hS'.1.alike.findClass _ _).trans hown, rfl, Fr.app N q3, q2, hC.trans q7, fun q => State.WarmedH.trans (t := s.setVm vm) (hW' q) (q8 q), a1, hEL⟩
  exact ⟨t, o, stp.trans h1, r⟩
theorem WP.callSu {sf : List Addr} {y : MethodName} {yb : ByteArray} {yl : Nat} {yr : Option FieldType} {rm : Room} {as' : Array Value} {Qy : Option Value → Heap → Prop} {index Wd ce' sl' : Nat} {Kn : String} {a : Addr} (C : Con l Z EL nar sf y yb yl yr rm as' h Qy) (F : Ins Z h a Kn true) (hd : decode bytes pc = .ok (.invokespecial index, 3)) (hni : y.name ≠ "<init>") (w1 : (Cond.methodLink own index y).before a0 Z = true) (w2 : (Cond.sameMethod y.cls y.cls y.name y.desc).before a0 Z = true) (w3 : (Cond.instanceMethod y).before a0 Z = true) (w4 : (Cond.superclass own y.cls).before a0 Z = true) (wz : (Cond.initialized y.cls).before a0 Z = true) (wc : (Cond.code y yb yl yr).before a0 Z = true) (hsf : ∀ x ∈ sf, Safe Z EL vm h x ∧ x < h.size) (hf : rm.frames + 1 ≤ R.frames) (hl : Wd + (yl + 11) + rm.locals ≤ R.locals) (hce : ce + rm.cells = ce') (hsl : sl + rm.slots = sl') (hc : ce' ≤ R.cells) (hs : sl' ≤ R.slots) (hsize : Ls.size = maxL) {argsL : List Value} (hargs : (Value.ref a :: argsL).toArray = as') (hlen : ∀ sig, parseMethodDescriptor y.desc = some sig → argsL.length = sig.parameters.length) (hst : st = argsL.reverse ++ .ref a :: rest) (hWd : (rest.map fun v => v.category).sum ≤ Wd) (hp : pc + 3 = n)
    (k : ∀ v vm' h', Qy v h' → CHr Z EL vm h vm' h' → WP l Z EL nar own nm bytes maxL ret R Q vm' h' ce' sl' n Ls (v.toList ++ rest)) : WP l Z EL nar own nm bytes maxL ret R Q vm h ce sl pc Ls st := by
  subst hp hce hsl
  intro p e s m args below meth c T L cx ⟨X, ⟨k0, hS, hk⟩, hZ, hown, eT, N, hE, hC, hW', a1, hEL⟩
  have hB := C.back (R := R) (p := p) (e := e) (below := below) (s := s) (args := args) (len := 3) (Wd := Wd) hEL hZ wc wz hf hl hE hC.1 hsf
  obtain ⟨v, vm₁, ⟨U, L', ke, ks⟩, hw1, X', hS', hg', ⟨Lq, q1, q2, q3, q4, q5, q6, q7, q8⟩, stp⟩ := superBackS X cx.1 (s := s.setVm vm) hZ hown w1 w2 w3 w4 hni hB eT F (g := mkF m pc Ls st) rfl (by rw [cx.2.2.1]; exact hsize) wc (argsL := argsL) (rest := rest) hlen hst (by show 2 * 0 + _ ≤ _; omega) (cx.2.1 ▸ hd) (fun _ _ => ⟨hargs, eT, hc, hs⟩)
  dsimp only [Pt.U, Pt.locs, Pt.cells, Pt.slots] at X' hS' hg' q1 q2 q4 q5 q6 q7 q8 stp
  subst q4 q5 q6
  obtain ⟨t, o, h1, r⟩ := k v U.vm U.heap q1 q7 p e s m args below meth c U _ cx ⟨X', ⟨_, hS.trans hS' (Nat.le_trans hk (by rw [← eT]; exact hg')), Nat.le_refl _⟩, State.Warmed39.trans (t := s.setVm vm) hZ hS'.1, (hS'.1.alike.findClass _ _).trans hown, rfl, Fr.app N q3, q2, hC.trans q7, fun q => State.WarmedH.trans (t := s.setVm vm) (hW' q) (q8 q), a1, hEL⟩
  exact ⟨t, o, stp.trans h1, r⟩
theorem WP.copyB {index Wd : Nat} {a b : Addr} {k k' : ClassId} {z z' sp dp nn : Int32} {vs vd us vr : List Value} {d dd : Value} (hd : decode bytes pc = .ok (.invokestatic index, 3)) (w1 : (Cond.methodLink own index Jvm.Stand.acN).before a0 Z = true) (w2 : (Cond.native Jvm.Stand.acN).before a0 Z = true) (w3 : (Cond.static Jvm.Stand.acN).before a0 Z = true) (w4 : (Cond.initialized "java/lang/System").before a0 Z = true)
    (A : Arv Z h a k .byte z vs d) (B : Arv Z h b k' .byte z' vd dd) (h1 : ¬ sp < 0) (h2 : ¬ dp < 0) (h3 : ¬ nn < 0) (h4 : sp.toNatClampNeg + nn.toNatClampNeg ≤ z.toNatClampNeg) (h5 : dp.toNatClampNeg + nn.toNatClampNeg ≤ z'.toNatClampNeg) (hus : us = (List.range nn.toNatClampNeg).map fun i => vs.getD (sp.toNatClampNeg + i) d) (hl : dp.toNatClampNeg + nn.toNatClampNeg ≤ vd.length)
    (hvr : vd.take dp.toNatClampNeg ++ us ++ vd.drop (dp.toNatClampNeg + nn.toNatClampNeg) = vr) (hb : Z.heap.size ≤ b) (S : Safe Z EL vm h b) (hsize : Ls.size = maxL) (hf : 1 ≤ R.frames) (hWd : (rest.map fun v => v.category).sum ≤ Wd) (hlo : Wd + (nativeFrameWords "java/lang/System" "arraycopy" 5 + 11) ≤ R.locals) (hp : pc + 3 = n)
    (kk : ∀ h', Keep h h' [b] → Arv Z h' b k' .byte z' vr dd → CHr Z EL vm h vm h' → WP l Z EL nar own nm bytes maxL ret R Q vm h' ce sl n Ls rest) : WP l Z EL nar own nm bytes maxL ret R Q vm h ce sl pc Ls (.int nn :: .int dp :: .ref b :: .int sp :: .ref a :: rest) := by
  subst hp hvr
  intro p e s m args below meth c T L cx ⟨X, ⟨k0, hS, hk⟩, hZ, hown, eT, N, hE, hC, hW', hEL⟩
  obtain ⟨T', h', L', X', e', N', K', A', stp⟩ := cpA X cx.1 (s := s.setVm vm) hZ hown w1 w2 w3 w4 eT A B (Or.inl ⟨rfl, rfl⟩) h1 h2 h3 h4 h5 hus hl N hb (g := mkF m pc Ls (.int nn :: .int dp :: .ref b :: .int sp :: .ref a :: rest)) rfl (by rw [cx.2.2.1]; exact hsize) rfl (cx.2.1 ▸ hd) hf (W := Wd) (by show 2 * 0 + _ ≤ _; omega) hlo
  have hR : CHr Z EL vm h vm h' := CHr.keep K' (fun x hx => by cases List.mem_singleton.mp hx; exact S) hC.1
  obtain ⟨t, o, q1, r⟩ := kk h' K' A' hR p e s m args below meth c T' L' cx ⟨X', ⟨k0, hS, Nat.le_trans hk K'.1⟩, hZ, hown, e', N', ext_keep1 hE K' hb, hC.trans hR, hW', hEL⟩
  exact ⟨t, o, stp _ q1, r⟩
theorem WP.stI {a : Addr} {cA : ClassId} {z j x : Int32} {vs : List Value} {d : Value} {i : Nat} (hd : decode bytes pc = .ok (.iastore, 1)) (A : Arv Z h a cA .int z vs d) (hj : ¬ j < 0 ∧ j < z) (hi : j.toNatClampNeg = i) (hlen : i < vs.length) (ha : Z.heap.size ≤ a) (hp : pc + 1 = n)
    (k : ∀ h', Wr h h' a j.toNatClampNeg (.int x) → Arv Z h' a cA .int z (vs.set i (.int x)) d → CHr Z EL vm h vm h' → WP l Z EL nar own nm bytes maxL ret R Q vm h' ce sl n Ls rest) : WP l Z EL nar own nm bytes maxL ret R Q vm h ce sl pc Ls (.int x :: .int j :: .ref a :: rest) := by
  subst hp
  have A0 := A
  obtain ⟨cl, A1, q1, S1, M1, H1, G1⟩ := A
  refine WP.write ha (fun hz => Safe.arv hz.alike A0 (by decide)) (fun p e s args below T m meth c L hx hb hnm X hZ hown eT => ?_) fun h' W r => k h' W (Arv.set A1 q1 S1 M1 H1 G1 rfl W i hi hlen) r
  exact Jvm.RoadKit.stI X hx hZ eT A1 (inb_of S1 hj) (g := mkF m pc Ls (.int x :: .int j :: .ref a :: rest)) rfl rfl (hb ▸ hd)
theorem WP.aaload {a : Addr} {cA : ClassId} {z j : Int32} {vs : List Value} {d v : Value} {ty : FieldType} (hd : decode bytes pc = .ok (.aaload, 1)) (A : Arv Z h a cA ty z vs d) (hty : ty.isReference = true) (hj : ¬ j < 0 ∧ j < z) (hv : vs.getD j.toNatClampNeg d = v) (hp : pc + 1 = n) (k : WP l Z EL nar own nm bytes maxL ret R Q vm h ce sl n Ls (v :: rest)) : WP l Z EL nar own nm bytes maxL ret R Q vm h ce sl pc Ls (.int j :: .ref a :: rest) := by
  subst hp
  obtain ⟨cl, A1, q1, S1, M1, H1, G1⟩ := A
  refine WP.look (Ls' := Ls) (fun p e s args below T m meth c L hx hb X hZ hown eT => ⟨T, X, eT, fun target q => ?_⟩) k
  exact X.aaload hx (j := j) (v := v) (by rw [eT]; exact A1.1) (State.isArrayOf_alike hZ.alike A1.2.1) hty A1.2.2 (inb_of S1 hj) (H1.at (inb_of S1 hj) hv) (g := mkF m pc Ls (.int j :: .ref a :: rest)) rfl rfl (hb ▸ hd) _ q
theorem WP.clone {ad : String} {index Wd cap ce' sl' : Nat} {a : Addr} {k : ClassId} {ty : FieldType} {z : Int32} {vs : List Value} {d : Value} (hd : decode bytes pc = .ok (.invokevirtual index, 3)) (w1 : (Cond.methodLink own index ⟨ad, "clone", "()Ljava/lang/Object;"⟩).before a0 Z = true) (w2 : (Cond.sameMethod ad "java/lang/Object" "clone" "()Ljava/lang/Object;").before a0 Z = true) (w3 : (Cond.native ⟨"java/lang/Object", "clone", "()Ljava/lang/Object;"⟩).before a0 Z = true)
    (w4 : (Cond.instanceMethod ⟨"java/lang/Object", "clone", "()Ljava/lang/Object;"⟩).before a0 Z = true) (w5 : (Cond.selects ad ⟨ad, "clone", "()Ljava/lang/Object;"⟩ ⟨"java/lang/Object", "clone", "()Ljava/lang/Object;"⟩).before a0 Z = true) (w6 : (Cond.castable ad "java/lang/Cloneable").before a0 Z = true) (F : Arv Z h a k ty z vs d) (E : Exa Z h a ad) (hsize : Ls.size = maxL) (hf : 1 ≤ R.frames) (hWd : (rest.map fun v => v.category).sum ≤ Wd) (hl : Wd + 14 ≤ R.locals) (hcap : z.toNatClampNeg ≤ cap) (hce : ce + 1 = ce') (hsl : sl + cap = sl') (hc : ce' ≤ R.cells) (hs : sl' ≤ R.slots) (hp : pc + 3 = n)
    (kk : ∀ b h', b = h.size → Ext h h' → Arv Z h' b k ty z vs d → Exa Z h' b ad → CHr Z EL vm h vm h' → WP l Z EL nar own nm bytes maxL ret R Q vm h' ce' sl' n Ls (.ref b :: rest)) : WP l Z EL nar own nm bytes maxL ret R Q vm h ce sl pc Ls (.ref a :: rest) := by
  subst hp hce hsl
  intro p e s m args below meth c T L cx ⟨X, ⟨k0, hS, hk⟩, hZ, hown, eT, N, hE, hC, hW', hEL⟩
  obtain ⟨T', h', X', e', E', A', X2, stp⟩ := cloneH X cx.1 (s := s.setVm vm) hZ hown w1 w2 w3 w4 w5 w6 eT F.arh E (g := mkF m pc Ls (.ref a :: rest)) rfl (by rw [cx.2.2.1]; exact hsize) rfl (cx.2.1 ▸ hd) hf (W := Wd) (by show 2 * 0 + _ ≤ _; omega) hl hcap hc hs
  have hR : CHr Z EL vm h vm h' := CHr.ext E' hC.1
  obtain ⟨t, o, q1, r⟩ := kk _ h' rfl E' A' X2 hR p e s m args below meth c T' L cx ⟨X', ⟨k0, hS, Nat.le_trans hk E'.1⟩, hZ, hown, e', N, ext_trans hE E', hC.trans hR, hW', hEL⟩
  exact ⟨t, o, stp _ q1, r⟩
end Steps3
/-- no constant of EL has a text of n signs -/
def EWn (Z : State) (a0 : Array Value) (EL : List (String × Nat)) (n : Nat) : Prop := ∀ p ∈ EL, ∃ text : String, (Cond.stringLink p.1 p.2 text).before a0 Z = true ∧ (∀ c ∈ text.toList, c.toNat < 256) ∧ text.toList.length ≠ n
theorem EWn.nil {Z : State} {a0 : Array Value} {n : Nat} : EWn Z a0 [] n := fun _ hp => nomatch hp
theorem EWn.cons {Z : State} {a0 : Array Value} {EL : List (String × Nat)} {n : Nat} {own text : String} {index : Nat} (w : (Cond.stringLink own index text).before a0 Z = true) (ht : ∀ c ∈ text.toList, c.toNat < 256) (hn : text.toList.length ≠ n) (E : EWn Z a0 EL n) : EWn Z a0 ((own, index) :: EL) n := fun p hp => by
  rcases List.mem_cons.mp hp with rfl | hp
  · exact ⟨text, w, ht, hn⟩
  · exact E p hp
/-- a byte[] whose length is no constant's is no booked one -/
theorem own_safeLen {Z : State} {EL : List (String × Nat)} {vm : Vm} {h : Heap} {x : Addr} {k : ClassId} {z : Int32} {vs : List Value} {d : Value} {a0 : Array Value} (hZ : Z.Warmed39 vm) (hL : EWn Z a0 EL z.toNatClampNeg) (A : Arv Z h x k .byte z vs d) : Safe Z EL vm h x := fun B => by
  obtain ⟨cl, ⟨A1, ⟨-, kA, hkA, compA, hkindA⟩, -⟩, -, hsz, -⟩ := A
  obtain ⟨kA', hkA', ekA⟩ := hZ.alike.2.2 _ _ hkA
  obtain ⟨p, hp, u, a, hb, q, -, F, rfl | rfl⟩ := B
  · cases (show h[q.sa]? = some q.sC from F.ha).symm.trans A1
    obtain ⟨cS, ⟨-, -, e⟩, ⟨kS, g1, g2, -⟩, -⟩ := F
    subst e
    cases (show vm.classes[q.sC.cls]? = some kS from g1).symm.trans hkA'
    rw [ekA] at g2
    have := hkindA.symm.trans g2
    cases this
  · cases (show h[q.sd]? = some q.SA from F.hd).symm.trans A1
    obtain ⟨text, wl, ht, hn⟩ := hL p hp
    obtain ⟨c, k', cf, i, hc', hk', hcf', hpool, hu, -⟩ := hb
    have wl' : (Cond.stringLink p.1 p.2 text).before a0 (Wst Z vm h) = true := mvS (s := { Z with heap := h }) hZ wl
    obtain ⟨k0, cf0, i0, units0, hk, hcf, hp0, hu0, hnm, htext, -⟩ := Cond.stringLink_spec (s := Wst Z vm h) hc' wl'
    cases (show vm.classes[c]? = some k' from hk').symm.trans hk
    cases hcf'.symm.trans hcf
    cases hpool.symm.trans hp0
    cases hu.symm.trans hu0
    obtain ⟨cS, -, -, -, hbyt⟩ := F
    have hlat := Jvm.ClassFile.lat_of_text htext ht
    have e1 : q.SA.slots.size = u.size := by rw [hbyt, SBG.stringBytes_lat hlat]; simp
    have e2 : u.size = text.toList.length := by
      have e := Jvm.ClassFile.units_of_text htext ht
      have e3 := congrArg List.length e
      simpa using e3
    exact hn (by rw [← hsz, e1, e2])
end Jvm.OwnW
namespace Jvm.Pilot.@@N@@
open Jvm Jvm.ClassFile Sem Op Lib Jvm.Free Jvm.Stand Jvm.LawKit Jvm.RoadKit Bundle Jvm.OwnW Jvm.Pilot.@@N@@.Jvm.D
theorem own_pn0 : plainName "java/lang/String" = true := by first | (simp [plainName, overriddenIn]; done) | decide +kernel
theorem own_pn1 : plainName "java/util/Arrays" = true := by first | (simp [plainName, overriddenIn]; done) | decide +kernel
theorem own_pn2 : plainName "java/util/Objects" = true := by first | (simp [plainName, overriddenIn]; done) | decide +kernel
theorem own_pn3 : plainName "jdk/internal/util/Preconditions" = true := by first | (simp [plainName, overriddenIn]; done) | decide +kernel
theorem own_pn4 : plainName "java/lang/StringLatin1" = true := by first | (simp [plainName, overriddenIn]; done) | decide +kernel
theorem own_pn5 : plainName "com/example/fionn/fionn/io/SgmlScanner" = true := by first | (simp [plainName, overriddenIn]; done) | decide +kernel
theorem own_pn6 : plainName "com/example/fionn/fionn/io/SgmlScannerNextPinLaw" = true := by first | (simp [plainName, overriddenIn]; done) | decide +kernel
theorem own_pd0 : parseMethodDescriptor "()B" = some ⟨[], some .byte⟩ := by decide +kernel
theorem own_pd1 : parseMethodDescriptor "(II)V" = some ⟨[.int, .int], none⟩ := by decide +kernel
theorem own_pd2 : parseMethodDescriptor "(II)I" = some ⟨[.int, .int], some .int⟩ := by decide +kernel
theorem own_pd3 : parseMethodDescriptor "([BII)[B" = some ⟨[(.array .byte), .int, .int], some (.array .byte)⟩ := by decide +kernel
theorem own_pd4 : parseMethodDescriptor "([CIILjava/lang/Void;)V" = some ⟨[(.array .char), .int, .int, (.object "java/lang/Void")], none⟩ := by decide +kernel
theorem own_pd5 : parseMethodDescriptor "(IILjava/util/function/BiFunction;)I" = some ⟨[.int, .int, (.object "java/util/function/BiFunction")], some .int⟩ := by decide +kernel
theorem own_pd6 : parseMethodDescriptor "()Z" = some ⟨[], some .boolean⟩ := by decide +kernel
theorem own_pd7 : parseMethodDescriptor "([BI)C" = some ⟨[(.array .byte), .int], some .char⟩ := by decide +kernel
theorem own_pd8 : parseMethodDescriptor "(I)Z" = some ⟨[.int], some .boolean⟩ := by decide +kernel
theorem own_pd9 : parseMethodDescriptor "([BIII)I" = some ⟨[(.array .byte), .int, .int, .int], some .int⟩ := by decide +kernel
theorem own_pd10 : parseMethodDescriptor "()I" = some ⟨[], some .int⟩ := by decide +kernel
theorem own_pd11 : parseMethodDescriptor "(IIILjava/util/function/BiFunction;)I" = some ⟨[.int, .int, .int, (.object "java/util/function/BiFunction")], some .int⟩ := by decide +kernel
theorem own_pd12 : parseMethodDescriptor "([BB)V" = some ⟨[(.array .byte), .byte], none⟩ := by decide +kernel
theorem own_pd13 : parseMethodDescriptor "(III)V" = some ⟨[.int, .int, .int], none⟩ := by decide +kernel
theorem own_pd14 : parseMethodDescriptor "([BII)Ljava/lang/String;" = some ⟨[(.array .byte), .int, .int], some (.object "java/lang/String")⟩ := by decide +kernel
theorem own_pd15 : parseMethodDescriptor "(Ljava/lang/Object;Ljava/lang/String;)Ljava/lang/Object;" = some ⟨[(.object "java/lang/Object"), (.object "java/lang/String")], some (.object "java/lang/Object")⟩ := by decide +kernel
theorem own_pd16 : parseMethodDescriptor "(I)C" = some ⟨[.int], some .char⟩ := by decide +kernel
theorem own_pd17 : parseMethodDescriptor "(II)Ljava/lang/String;" = some ⟨[.int, .int], some (.object "java/lang/String")⟩ := by decide +kernel
theorem own_pd18 : parseMethodDescriptor "([C)V" = some ⟨[(.array .char)], none⟩ := by decide +kernel
theorem own_pd19 : parseMethodDescriptor "()Ljava/lang/String;" = some ⟨[], some (.object "java/lang/String")⟩ := by decide +kernel
theorem own_pd20 : parseMethodDescriptor "(Ljava/lang/String;[CII)Z" = some ⟨[(.object "java/lang/String"), (.array .char), .int, .int], some .boolean⟩ := by decide +kernel
theorem own_pd21 : parseMethodDescriptor "([CII)I" = some ⟨[(.array .char), .int, .int], some .int⟩ := by decide +kernel
theorem own_pd22 : parseMethodDescriptor "([CIIC)I" = some ⟨[(.array .char), .int, .int, .char], some .int⟩ := by decide +kernel
theorem own_pd23 : parseMethodDescriptor "(II)C" = some ⟨[.int, .int], some .char⟩ := by decide +kernel
theorem own_pd24 : parseMethodDescriptor "([CI)Ljava/lang/String;" = some ⟨[(.array .char), .int], some (.object "java/lang/String")⟩ := by decide +kernel
theorem own_pd25 : parseMethodDescriptor "(Ljava/lang/String;)V" = some ⟨[(.object "java/lang/String")], none⟩ := by decide +kernel
theorem own_pd26 : parseMethodDescriptor "(Lcom/example/fionn/fionn/io/SgmlScanner;[CI[I)Z" = some ⟨[(.object "com/example/fionn/fionn/io/SgmlScanner"), (.array .char), .int, (.array .int)], some .boolean⟩ := by decide +kernel
/-- a String that spells bs (its bytes) -/
def Str (Z : State) (h : Heap) (a : Addr) (bs : List Int32) : Prop := Exa Z h a "java/lang/String" ∧ Fld Z h a "java/lang/String" "coder" "B" (.int 0) ∧ ∃ (b : Addr) (kb : ClassId) (z : Int32), Fld Z h a "java/lang/String" "value" "[B" (.ref b) ∧ Arv Z h b kb .byte z (bs.map Value.int) (.int 0) ∧ z.toNatClampNeg = bs.length
theorem Str.ext {Z : State} {h h' : Heap} {a : Addr} {bs : List Int32} (F : Str Z h a bs) (E : Ext h h') : Str Z h' a bs := by
  obtain ⟨f1, f2, b, kb, z, f3, f4, f5⟩ := F
  exact ⟨f1.ext E, f2.ext E, b, kb, z, f3.ext E, f4.ext E, f5⟩
theorem Str.lt {Z : State} {h : Heap} {a : Addr} {bs : List Int32} (F : Str Z h a bs) : a < h.size := F.1.lt
theorem own_fld_inj {Z : State} {h : Heap} {a : Addr} {C n d : String} {v w : Value} (F : Fld Z h a C n d v) (G : Fld Z h a C n d w) : v = w := by
  obtain ⟨c1, cf1, k1, i1, f1, e1, e2, -, -, -, -, e7⟩ := F
  obtain ⟨c2, cf2, k2, i2, f2, g1, g2, -, -, -, -, g7⟩ := G
  cases e1.symm.trans g1
  cases e2.symm.trans g2
  exact Option.some.inj (e7.symm.trans g7)
theorem own_arv_inj {Z : State} {h : Heap} {a : Addr} {k k' : ClassId} {ty : FieldType} {z z' : Int32} {vs ws : List Value} {d : Value} (F : Arv Z h a k ty z vs d) (G : Arv Z h a k' ty z' ws d) (hv : z.toNatClampNeg = vs.length) (hw : z'.toNatClampNeg = ws.length) : vs = ws := by
  obtain ⟨c1, A1, -, s1, -, H1, -⟩ := F
  obtain ⟨c2, A2, -, s2, -, H2, -⟩ := G
  cases A1.1.symm.trans A2.1
  have e : vs.length = ws.length := by omega
  refine List.ext_getElem e fun i h1 h2 => ?_
  have q1 := H1 i (by omega)
  have q2 := H2 i (by omega)
  have q := q1.symm.trans q2
  simpa [List.getD_eq_getElem?_getD, h1, h2] using q
theorem own_map_inj {bs ds : List Int32} (h : bs.map Value.int = ds.map Value.int) : bs = ds :=
  (List.map_inj_right (fun x y e => by injection e)).mp h
theorem Str.inj {Z : State} {h : Heap} {a : Addr} {bs ds : List Int32} (F : Str Z h a bs) (G : Str Z h a ds) : bs = ds := by
  obtain ⟨-, -, b, kb, z, f3, f4, f5⟩ := F
  obtain ⟨-, -, b', kb', z', g3, g4, g5⟩ := G
  have e := own_fld_inj f3 g3
  injection e with e
  subst e
  exact own_map_inj (own_arv_inj f4 g4 (by simpa using f5) (by simpa using g5))
theorem own_n32 {k : Nat} (h : k < 2147483648) : (Int32.ofNat k).toInt = k := by
  rw [Int32.toInt_ofNat', show Int32.size = 4294967296 from rfl]; simp only [Int.bmod]; omega
theorem own_cat {d : Value} (h : d.isRef = true) : d.category = 1 := by rcases ref_cases h with rfl | ⟨a, rfl⟩ <;> rfl
theorem own_ne_t {x y : Value} (h : x ≠ y) : XT.acmp .ne x y = true := decide_eq_true h
theorem own_ne_f {x y : Value} (h : x = y) : XT.acmp .ne x y = false := decide_eq_false (fun q => q h)
theorem own_eq_t {x y : Value} (h : x = y) : XT.acmp .eq x y = true := decide_eq_true h
theorem own_eq_f {x y : Value} (h : x ≠ y) : XT.acmp .eq x y = false := decide_eq_false h
theorem own_clamp {k : Nat} (h : k < 2147483648) : (Int32.ofNat k).toNatClampNeg = k := by
  simp only [Int32.toNatClampNeg, own_n32 h]; rfl
theorem own_z {z : Int32} (h0 : ¬ z < 0) : z = Int32.ofNat z.toNatClampNeg ∧ z.toNatClampNeg < 2147483648 := by
  have q := back32 h0
  exact ⟨q.1.symm, q.2⟩
theorem own_ltN {k m : Nat} (hk : k < 2147483648) (hm : m < 2147483648) : (Int32.ofNat k < Int32.ofNat m) ↔ k < m := by
  rw [Int32.lt_iff_toInt_lt, own_n32 hk, own_n32 hm]; omega
theorem own_nn {k : Nat} (hk : k < 2147483648) : ¬ (Int32.ofNat k < 0) := by
  rw [Int32.lt_iff_toInt_lt, own_n32 hk]
  have e0 : (0 : Int32).toInt = 0 := rfl
  omega
theorem own_inc {k : Nat} (hk : k + 1 < 2147483648) : Int32.ofNat k + Int32.ofInt 1 = Int32.ofNat (k + 1) := by
  rw [← Int32.toInt_inj, Int32.toInt_add, own_n32 (by omega), own_n32 hk]
  have e0 : (Int32.ofInt 1).toInt = 1 := rfl
  rw [e0]; simp only [Int.bmod]; omega
theorem own_rng_nil : ∀ c ∈ ([] : List Int32), ¬ c < 0 ∧ ¬ (255 : Int32) < c := fun _ q => nomatch q
theorem own_rng_cons {x : Int32} {xs : List Int32} (h : ¬ x < 0 ∧ ¬ (255 : Int32) < x) (t : ∀ c ∈ xs, ¬ c < 0 ∧ ¬ (255 : Int32) < c) : ∀ c ∈ x :: xs, ¬ c < 0 ∧ ¬ (255 : Int32) < c := fun c hc => by
  rcases List.mem_cons.mp hc with rfl | hc
  · exact h
  · exact t c hc
theorem own_c8r (x : Int32) : ¬ (x &&& 255) < 0 ∧ ¬ (255 : Int32) < (x &&& 255) := by
  have h1 := c_mask x 255 8 (by decide) (by decide)
  rw [Int32.lt_iff_toInt_lt, Int32.lt_iff_toInt_lt]
  have e0 : (0 : Int32).toInt = 0 := rfl
  have e1 : (255 : Int32).toInt = 255 := rfl
  omega
theorem own_rng {k : Int32} (h : ¬ k < 0 ∧ ¬ (255 : Int32) < k) : 0 ≤ k.toInt ∧ k.toInt ≤ 255 := by
  rw [Int32.lt_iff_toInt_lt, Int32.lt_iff_toInt_lt] at h
  have e0 : (0 : Int32).toInt = 0 := rfl
  have e1 : (255 : Int32).toInt = 255 := rfl
  omega
theorem own_c16 {k : Int32} (h : ¬ k < 0 ∧ ¬ (255 : Int32) < k) : k.toUInt32.toUInt16.toUInt32.toInt32 = k := by
  have a := own_rng h
  have b := c_i2c k
  rw [← Int32.toInt_inj]; omega
theorem own_inj8 {k m : Int32} (h : ¬ k < 0 ∧ ¬ (255 : Int32) < k) (h' : ¬ m < 0 ∧ ¬ (255 : Int32) < m) (e : k.toInt8.toInt32 = m.toInt8.toInt32) : k = m := by
  have a := own_rng h
  have b := own_rng h'
  have c1 := c_i2b k
  have c2 := c_i2b m
  rw [e] at c1
  rw [← Int32.toInt_inj]; omega
theorem own_skeep {Z : State} {h h' : Heap} {a b : Addr} {bs : List Int32} {C : String} {n : Nat} {a0 : Array Value} (F : Str Z h a bs) (A : Exa Z h b C) (K : Keep h h' [b]) (hC : C ≠ "java/lang/String") (wi : (Cond.instantiable C n).before a0 Z = true) : Str Z h' a bs := by
  obtain ⟨f1, f2, c, kc, z, f3, f4, f5⟩ := F
  have n1 : a ≠ b := fun e => ne_exa A f1 hC e.symm
  have n2 : b ≠ c := Exa.neArv A f4 wi
  have m1 : a ∉ [b] := fun q => n1 (List.mem_singleton.mp q)
  have m2 : c ∉ [b] := fun q => n2 (List.mem_singleton.mp q).symm
  exact ⟨f1.keep K, f2.keep K m1, c, kc, z, f3.keep K m1, f4.keep K m2, f5⟩
theorem own_noinst {Z : State} {a0 : Array Value} {C S K : String} {n : Nat} (w : (Cond.superclass C S).before a0 Z = true) (wr : (Cond.noSuperclass S).before a0 Z = true) (wi : (Cond.instantiable K n).before a0 Z = true) (h1 : C ≠ K) (h2 : S ≠ K) : ∃ c t, Z.vm.findClass C = some c ∧ Z.vm.findClass K = some t ∧ Z.vm.assignable c t = false := by
  obtain ⟨c, k, hc, hk, hs, hkd, hif⟩ := Cond.noSuperclass_spec wr
  obtain ⟨t, kt, ht, hkt, hkk, hni, -⟩ := Cond.instantiable_spec wi
  obtain ⟨c0, hc0⟩ := found_sup w
  obtain ⟨p, k0, kp, q1, q2, q3, q4, q5, q6, q7⟩ := Cond.superclass_spec hc0 w
  cases hc.symm.trans q1
  cases hk.symm.trans q3
  have n1 := ids_ne hc0 ht h1
  have n2 := ids_ne hc ht h2
  have hni' : kt.isInterface = false := by
    cases hq : kt.isInterface with
    | false => rfl
    | true => rw [hq] at hni; simp at hni
  refine ⟨c0, t, hc0, ht, ?_⟩
  have key : ∀ fuel, Z.vm.isSubclassAux fuel c t = false := fun fuel => by
    cases fuel with
    | zero => rfl
    | succ f => simp [Vm.isSubclassAux, n2, hk, hs]
  have key2 : ∀ fuel, Z.vm.isSubclassAux fuel c0 t = false := fun fuel => by
    cases fuel with
    | zero => rfl
    | succ f => simp [Vm.isSubclassAux, n1, q2, q4, key]
  show Z.vm.assignableAux (255 + 1) c0 t = false
  simp [Vm.assignableAux, n1, q2, hkt, q5, hkk, hni', Vm.isSubclass, key2]

/-- a StringBuilder at a, its byte[16] at b, that spells bs -/
def SBf (Z : State) (h : Heap) (a b : Addr) (bs : List Int32) : Prop := Exa Z h a "java/lang/StringBuilder" ∧ Fld Z h a "java/lang/AbstractStringBuilder" "value" "[B" (.ref b) ∧ Fld Z h a "java/lang/AbstractStringBuilder" "coder" "B" (.int 0) ∧ Fld Z h a "java/lang/AbstractStringBuilder" "count" "I" (.int (Int32.ofNat bs.length)) ∧ Z.heap.size ≤ a ∧ Z.heap.size ≤ b ∧ ∃ (kb : ClassId) (vs : List Value), Arv Z h b kb .byte 16 vs (.int 0) ∧ vs.length = 16 ∧ vs.take bs.length = bs.map Value.int
theorem SBf.ext {Z : State} {h h' : Heap} {a b : Addr} {bs : List Int32} (F : SBf Z h a b bs) (E : Ext h h') : SBf Z h' a b bs := by
  obtain ⟨f1, f2, f3, f4, f5, f6, kb, vs, f7, f8⟩ := F
  exact ⟨f1.ext E, f2.ext E, f3.ext E, f4.ext E, f5, f6, kb, vs, f7.ext E, f8⟩
theorem own_nfAB {Z : State} {y z : MethodName} (h : NotFace Z y) (e : z.cls = y.cls) (hy : ∃ r, Z.methodNamed? y = some r) : NotFace Z z := fun r0 h0 => by
  obtain ⟨r, hr⟩ := hy
  obtain ⟨k, h1, h2⟩ := h r hr
  have q1 := findClass_of_methodNamed h0
  have q2 := findClass_of_methodNamed hr
  rw [e] at q1
  have q3 := Option.some.inj (q1.symm.trans q2)
  exact ⟨k, by rw [q3]; exact h1, h2⟩
theorem own_shr0 (z : Int32) : z >>> ((0 : Int32) &&& 31) = z := by
  rw [← Int32.toInt_inj, c_ishr z 0 0 (by decide)]; simp
theorem own_shl0 (z : Int32) : z <<< ((0 : Int32) &&& 31) = z := by
  have e : (1 : Int32) <<< ((0 : Int32) &&& 31) = 1 := by decide
  rw [shlm e]; simp
theorem own_addN {k m : Nat} (h : k + m < 2147483648) : Int32.ofNat k + Int32.ofNat m = Int32.ofNat (k + m) := by
  rw [← Int32.toInt_inj, Int32.toInt_add, own_n32 (by omega), own_n32 (by omega), own_n32 h]; simp only [Int.bmod]; omega
theorem own_subN {k m : Nat} (h : k < 2147483648) (hm : m ≤ k) : Int32.ofNat k - Int32.ofNat m = Int32.ofNat (k - m) := by
  rw [← Int32.toInt_inj, Int32.toInt_sub, own_n32 (by omega), own_n32 (by omega), own_n32 (by omega)]; simp only [Int.bmod]; omega
theorem own_le16 {k : Nat} (h : k ≤ 16) : ¬ (0 : Int32) < Int32.ofNat k - 16 := by
  rw [Int32.lt_iff_toInt_lt, Int32.toInt_sub, own_n32 (by omega)]
  have e0 : (0 : Int32).toInt = 0 := rfl
  have e1 : (16 : Int32).toInt = 16 := rfl
  rw [e0, e1]; simp only [Int.bmod]; omega
theorem own_rangeMap (L : List Value) (d : Value) : (List.range L.length).map (fun i => L.getD ((0 : Int32).toNatClampNeg + i) d) = L := by
  have e0 : (0 : Int32).toNatClampNeg = 0 := rfl
  refine List.ext_getElem (by simp) fun i h1 h2 => ?_
  simp [e0, List.getD_eq_getElem?_getD, h2]
theorem own_rangeDrop (L : List Value) (d : Value) (f n : Nat) (h : f + n ≤ L.length) : (List.range n).map (fun i => L.getD (f + i) d) = (L.drop f).take n := by
  refine List.ext_getElem (by simp; omega) fun i h1 h2 => ?_
  simp at h1 h2
  simp [List.getD_eq_getElem?_getD, show f + i < L.length by omega]
theorem own_splice {vs us : List Value} {n : Nat} (h : n ≤ vs.length) : (vs.take n ++ us ++ vs.drop (n + us.length)).take (n + us.length) = vs.take n ++ us := by
  have e : (vs.take n ++ us).length = n + us.length := by simp [Nat.min_eq_left h]
  rw [← e, List.take_left']
  rfl
theorem own_splice_len {vs us : List Value} {n : Nat} (h : n + us.length ≤ vs.length) : (vs.take n ++ us ++ vs.drop (n + us.length)).length = vs.length := by
  simp; omega
theorem own_ltZ {k : Nat} {z : Int32} (hz : ¬ z < 0) (h : k < z.toNatClampNeg) : Int32.ofNat k < z := by
  have q := own_z hz
  rw [q.1, own_ltN (by omega) q.2]; exact h

/-- a char as its byte -/
def own_b (c : Int32) : Int32 := c.toInt8.toInt32
def Rng (cs : List Int32) : Prop := ∀ c ∈ cs, ¬ c < 0 ∧ ¬ (255 : Int32) < c
/-- a String that spells the chars cs -/
def SC (Z : State) (h : Heap) (a : Addr) (cs : List Int32) : Prop := Str Z h a (cs.map own_b) ∧ Rng cs ∧ cs.length ≤ 4
theorem SC.ext {Z : State} {h h' : Heap} {a : Addr} {cs : List Int32} (F : SC Z h a cs) (E : Ext h h') : SC Z h' a cs := ⟨F.1.ext E, F.2⟩
theorem own_unb {c : Int32} (h : ¬ c < 0 ∧ ¬ (255 : Int32) < c) : own_b c &&& 255 = c := by
  have a := own_rng h
  have b := c_i2b c
  have d := c_mask (own_b c) 255 8 (by decide) (by decide)
  have e : (own_b c).toInt = c.toInt8.toInt32.toInt := rfl
  rw [← Int32.toInt_inj]; omega
theorem own_binj {k m : Int32} (h : ¬ k < 0 ∧ ¬ (255 : Int32) < k) (h' : ¬ m < 0 ∧ ¬ (255 : Int32) < m) : (own_b k = own_b m) ↔ k = m := ⟨fun e => own_inj8 h h' e, fun e => by rw [e]⟩
theorem Rng.get {cs : List Int32} (h : Rng cs) {k : Nat} (hk : k < cs.length) : ¬ cs[k] < 0 ∧ ¬ (255 : Int32) < cs[k] := h _ (List.getElem_mem hk)
theorem Rng.sub {cs : List Int32} (h : Rng cs) (f n : Nat) : Rng ((cs.drop f).take n) := fun c hc => h c (List.mem_of_mem_drop (List.mem_of_mem_take hc))
/-- the first place from k on, at most r places, that holds ch -/
def own_find (cs : List Int32) (ch : Int32) : Nat → Nat → Int32
  | 0, _ => -1
  | r + 1, k => if cs.getD k 0 = ch then Int32.ofNat k else own_find cs ch r (k + 1)
theorem own_max0 {x : Int32} (h : ¬ x < 0) : ¬ x < 0 := h

/-- a scanner at a over the String at s -/
def SG (Z : State) (h : Heap) (a s : Addr) (ps ln pl tg : Int32) (pv : Value) : Prop := Exa Z h a "com/example/fionn/fionn/io/SgmlScanner" ∧ Fld Z h a "com/example/fionn/fionn/io/SgmlScanner" "content" "Ljava/lang/String;" (.ref s) ∧ Fld Z h a "com/example/fionn/fionn/io/SgmlScanner" "position" "I" (.int ps) ∧ Fld Z h a "com/example/fionn/fionn/io/SgmlScanner" "line" "I" (.int ln) ∧ Fld Z h a "com/example/fionn/fionn/io/SgmlScanner" "pieceLine" "I" (.int pl) ∧ Fld Z h a "com/example/fionn/fionn/io/SgmlScanner" "tag" "Z" (.int tg) ∧ Fld Z h a "com/example/fionn/fionn/io/SgmlScanner" "piece" "Ljava/lang/String;" pv ∧ Z.heap.size ≤ a
theorem SG.ext {Z : State} {h h' : Heap} {a s : Addr} {ps ln pl tg : Int32} {pv : Value} (F : SG Z h a s ps ln pl tg pv) (E : Ext h h') : SG Z h' a s ps ln pl tg pv := by
  obtain ⟨f1, f2, f3, f4, f5, f6, f7, f8⟩ := F
  exact ⟨f1.ext E, f2.ext E, f3.ext E, f4.ext E, f5.ext E, f6.ext E, f7.ext E, f8⟩
theorem SG.keep {Z : State} {h h' : Heap} {a s : Addr} {ps ln pl tg : Int32} {pv : Value} {ws : List Addr} (F : SG Z h a s ps ln pl tg pv) (K : Keep h h' ws) (q : a ∉ ws) : SG Z h' a s ps ln pl tg pv := by
  obtain ⟨f1, f2, f3, f4, f5, f6, f7, f8⟩ := F
  exact ⟨f1.keep K, f2.keep K q, f3.keep K q, f4.keep K q, f5.keep K q, f6.keep K q, f7.keep K q, f8⟩
theorem own_sck {Z : State} {h h' : Heap} {a b : Addr} {cs : List Int32} {C : String} {n : Nat} {a0 : Array Value} (F : SC Z h a cs) (A : Exa Z h b C) (K : Keep h h' [b]) (hC : C ≠ "java/lang/String") (wi : (Cond.instantiable C n).before a0 Z = true) : SC Z h' a cs := ⟨own_skeep F.1 A K hC wi, F.2⟩
theorem own_arvne {Z : State} {h : Heap} {a b : Addr} {k k' : ClassId} {ty ty' : FieldType} {z z' : Int32} {vs ws : List Value} {d d' : Value} (A : Arv Z h a k ty z vs d) (B : Arv Z h b k' ty' z' ws d') (hne : ty ≠ ty') : a ≠ b := fun e => by
  subst e
  obtain ⟨c1, ⟨A1, ⟨-, kA, hkA, compA, hkindA⟩, -⟩, -⟩ := A
  obtain ⟨c2, ⟨B1, ⟨-, kB, hkB, compB, hkindB⟩, -⟩, -⟩ := B
  cases A1.symm.trans B1
  cases hkA.symm.trans hkB
  have q := hkindA.symm.trans hkindB
  injection q with q1 q2
  exact hne q2
theorem own_sckA {Z : State} {h h' : Heap} {a b : Addr} {cs : List Int32} {kb : ClassId} {z : Int32} {vs : List Value} {d : Value} {n : Nat} {a0 : Array Value} (F : SC Z h a cs) (A : Arv Z h b kb .int z vs d) (K : Keep h h' [b]) (wi : (Cond.instantiable "java/lang/String" n).before a0 Z = true) : SC Z h' a cs := by
  obtain ⟨⟨f1, f2, c, kc, z, f3, f4, f5⟩, f6⟩ := F
  have n1 : a ≠ b := Exa.neArv f1 A wi
  have n2 : c ≠ b := own_arvne f4 A (by decide)
  have m1 : a ∉ [b] := fun q => n1 (List.mem_singleton.mp q)
  have m2 : c ∉ [b] := fun q => n2 (List.mem_singleton.mp q)
  exact ⟨⟨f1.keep K, f2.keep K m1, c, kc, z, f3.keep K m1, f4.keep K m2, f5⟩, f6⟩
/-- newlines from k on, r places -/
def own_cnt (cs : List Int32) : Nat → Nat → Int32
  | 0, _ => 0
  | r + 1, k => (if cs.getD k 0 = 10 then 1 else 0) + own_cnt cs r (k + 1)
theorem own_find_bnd (cs : List Int32) (ch : Int32) : ∀ r k, own_find cs ch r k = -1 ∨ ∃ j, k ≤ j ∧ j < k + r ∧ own_find cs ch r k = Int32.ofNat j
  | 0, _ => Or.inl rfl
  | r + 1, k => by
    simp only [own_find]
    by_cases q : cs.getD k 0 = ch
    · rw [if_pos q]; exact Or.inr ⟨k, Nat.le_refl _, by omega, rfl⟩
    · rw [if_neg q]
      rcases own_find_bnd cs ch r (k + 1) with e | ⟨j, h1, h2, h3⟩
      · exact Or.inl e
      · exact Or.inr ⟨j, by omega, by omega, h3⟩
theorem own_find_cong (cs ds : List Int32) (ch : Int32) : ∀ r k, (∀ j, k ≤ j → j < k + r → cs.getD j 0 = ds.getD j 0) → own_find cs ch r k = own_find ds ch r k
  | 0, _, _ => rfl
  | r + 1, k, h => by simp only [own_find]; rw [h k (Nat.le_refl _) (by omega), own_find_cong cs ds ch r (k + 1) fun j h1 h2 => h j (by omega) (by omega)]
theorem own_cnt_cong (cs ds : List Int32) : ∀ r k, (∀ j, k ≤ j → j < k + r → cs.getD j 0 = ds.getD j 0) → own_cnt cs r k = own_cnt ds r k
  | 0, _, _ => rfl
  | r + 1, k, h => by simp only [own_cnt]; rw [h k (Nat.le_refl _) (by omega), own_cnt_cong cs ds r (k + 1) fun j h1 h2 => h j (by omega) (by omega)]
/-- the next piece of cs from p on: its kind, its bounds, the place behind it -/
def own_cut (cs : List Int32) (p : Nat) (tg : Int32) (f t e : Nat) : Prop :=
  (tg = 1 ∧ cs.getD p 0 = 60 ∧ own_find cs 62 (cs.length - p) p = Int32.ofNat t ∧ f = p + 1 ∧ e = t + 1 ∧ f ≤ t ∧ t < cs.length) ∨
  (tg = 0 ∧ (cs.getD p 0 = 60 → own_find cs 62 (cs.length - p) p = -1) ∧ f = p ∧ t = e ∧ p < e ∧ e ≤ cs.length ∧ ((own_find cs 60 (cs.length - (p + 1)) (p + 1) = -1 ∧ e = cs.length) ∨ own_find cs 60 (cs.length - (p + 1)) (p + 1) = Int32.ofNat e))
theorem own_cut_ex (cs : List Int32) (p : Nat) (hp : p < cs.length) : ∃ tg f t e, own_cut cs p tg f t e := by
  have second : (cs.getD p 0 = 60 → own_find cs 62 (cs.length - p) p = -1) → ∃ tg f t e, own_cut cs p tg f t e := fun hq => by
    rcases own_find_bnd cs 60 (cs.length - (p + 1)) (p + 1) with e | ⟨j, h1, h2, h3⟩
    · exact ⟨0, p, _, _, Or.inr ⟨rfl, hq, rfl, rfl, hp, Nat.le_refl _, Or.inl ⟨e, rfl⟩⟩⟩
    · exact ⟨0, p, j, j, Or.inr ⟨rfl, hq, rfl, rfl, by omega, by omega, Or.inr h3⟩⟩
  by_cases q : cs.getD p 0 = 60
  · have hr : own_find cs 62 (cs.length - p) p = own_find cs 62 (cs.length - (p + 1)) (p + 1) := by
      rw [show cs.length - p = (cs.length - (p + 1)) + 1 by omega]
      simp only [own_find]; rw [if_neg (by rw [q]; decide)]
    rcases own_find_bnd cs 62 (cs.length - (p + 1)) (p + 1) with e | ⟨j, h1, h2, h3⟩
    · exact second fun _ => hr.trans e
    · exact ⟨1, p + 1, j, j + 1, Or.inl ⟨rfl, q, hr.trans h3, rfl, rfl, h1, by omega⟩⟩
  · exact second fun h => absurd h q
theorem own_cut_le {cs : List Int32} {p : Nat} {tg : Int32} {f t e : Nat} (h : own_cut cs p tg f t e) : p < e ∧ e ≤ cs.length ∧ f ≤ t ∧ t ≤ cs.length ∧ (tg = 0 ∨ tg = 1) := by
  rcases h with ⟨h1, h2, h3, h4, h5, h6, h7⟩ | ⟨h1, h2, h3, h4, h5, h6, h7⟩ <;> subst h1
  · exact ⟨by omega, by omega, h6, by omega, Or.inr rfl⟩
  · exact ⟨h5, h6, by omega, by omega, Or.inl rfl⟩
theorem own_getD {cs : List Int32} {k : Nat} (h : k < cs.length) : cs.getD k 0 = cs[k] := by rw [List.getD_eq_getElem?_getD, List.getElem?_eq_getElem h]; rfl
theorem own_neg1 : (-1 : Int32) < 0 := by decide
theorem own_subget {cs : List Int32} {f t i : Nat} (hi : i < t - f) (ht : t ≤ cs.length) (h : i < ((cs.drop f).take (t - f)).length) : ((cs.drop f).take (t - f))[i] = cs.getD (f + i) 0 := by
  rw [own_getD (by omega)]; simp
theorem own_mod5 (x : Int32) : ∃ n, n ≤ 4 ∧ (x &&& 2147483647) % 5 = Int32.ofNat n := by
  have m1 := c_mask x 2147483647 31 (by decide) (by decide)
  have e : ((x &&& 2147483647) % 5).toInt = (x &&& 2147483647).toInt.tmod 5 := by rw [Int32.toInt_mod]; rfl
  have q1 : 0 ≤ (x &&& 2147483647).toInt.tmod 5 := Int.tmod_nonneg _ (by omega)
  have q2 : (x &&& 2147483647).toInt.tmod 5 < 5 := Int.tmod_lt_of_pos _ (by omega)
  refine ⟨((x &&& 2147483647) % 5).toInt.toNat, by omega, ?_⟩
  rw [← Int32.toInt_inj, own_n32 (by omega)]; omega

/-- the scanner and st[] agree -/
def own_Inv (Z : State) (h : Heap) (a s c st : Addr) (kc ks : ClassId) (c0 c1 c2 c3 : Int32) (cs : List Int32) (p : Nat) (ln : Int32) : Prop := (∃ pl tg pv, SG Z h a s (Int32.ofNat p) ln pl tg pv) ∧ SC Z h s cs ∧ Arv Z h c kc .char 4 ([c0, c1, c2, c3].map Value.int) (.int 0) ∧ Arv Z h st ks .int 2 [.int (Int32.ofNat p), .int ln] (.int 0)
theorem own_find_step {cs : List Int32} {p : Nat} (hp : p < cs.length) (q : cs.getD p 0 = 60) : own_find cs 62 (cs.length - p) p = own_find cs 62 (cs.length - (p + 1)) (p + 1) := by
  rw [show cs.length - p = (cs.length - (p + 1)) + 1 by omega]
  simp only [own_find]; rw [if_neg (by rw [q]; decide)]
theorem own_mapget {L : List Int32} {k : Nat} (h : k < L.length) : (L.map Value.int).getD k (.int 0) = .int (L.getD k 0) := by
  rw [own_getD h]; simp [List.getD_eq_getElem?_getD, h]
theorem own_stk {l : Launch} {Z : State} {EL : List (String × Nat)} {nar : Bool} {own nm : String} {bytes : ByteArray} {maxL : Nat} {ret : Option FieldType} {R : Room} {Q : Option Value → Heap → Prop} {vm : Vm} {h : Heap} {ce sl pc : Nat} {Ls : Array Slot} {st st' : List Value} (e : st = st') (k : WP l Z EL nar own nm bytes maxL ret R Q vm h ce sl pc Ls st') : WP l Z EL nar own nm bytes maxL ret R Q vm h ce sl pc Ls st := by rw [e]; exact k
theorem own_lit0 {m : Nat} (h : m < 2147483648) (i : Nat) (hi : i < 2147483648) (q : i < m) : Int32.ofNat i < Int32.ofNat m := (own_ltN hi h).mpr q
theorem own_lit1 {m : Nat} (h : m < 2147483648) (i : Nat) (hi : i < 2147483648) (q : ¬ i < m) : ¬ Int32.ofNat i < Int32.ofNat m := fun e => q ((own_ltN hi h).mp e)


def own_mn (x y : Int32) : Int32 := if y < x then y else x
theorem own_mnN {k m : Nat} (hk : k < 2147483648) (hm : m ≤ k) : own_mn (Int32.ofNat k) (Int32.ofNat m) = Int32.ofNat m := by
  unfold own_mn
  by_cases c : Int32.ofNat m < Int32.ofNat k
  · rw [if_pos c]
  · rw [if_neg c]; rw [own_ltN (by omega) hk] at c; congr 1; omega
theorem dMN_0 : decode jdk_29_method_69_code 0 = .ok (.iload_n 0, 1) := by decide +kernel
theorem dMN_1 : decode jdk_29_method_69_code 1 = .ok (.iload_n 1, 1) := by decide +kernel
theorem dMN_2 : decode jdk_29_method_69_code 2 = .ok (.if_icmp .gt 7, 3) := by decide +kernel
theorem dMN_5 : decode jdk_29_method_69_code 5 = .ok (.iload_n 0, 1) := by decide +kernel
theorem dMN_6 : decode jdk_29_method_69_code 6 = .ok (.goto 4, 3) := by decide +kernel
theorem dMN_9 : decode jdk_29_method_69_code 9 = .ok (.iload_n 1, 1) := by decide +kernel
theorem dMN_10 : decode jdk_29_method_69_code 10 = .ok (.ireturn, 1) := by decide +kernel
set_option maxRecDepth 65536 in
set_option maxHeartbeats 40000000 in
theorem own_min (l : Launch) (Z : State) (a0 : Array Value) (hw : ∀ d ∈ tables_1, d.before a0 Z = true) (EL : List (String × Nat)) (hEL : EW Z a0 EL) (h0 : Heap) (x y : Int32) :
    Con l Z EL false [] (⟨"java/lang/Math", "min", "(II)I"⟩ : MethodName) jdk_29_method_69_code 2 (some .int) ({ frames := 0, cells := 0, slots := 0, locals := 0 } : Room) #[(.int x), (.int y)] h0 (fun v h' => v = some (.int (own_mn x y)) ∧ h0 = h') := by
  refine Con.of (Ls := #[.val (.int x), .val (.int y)]) (by decide +kernel) hEL (fun m => by first | (simp [entryFrame, mkF, argsToLocals, Value.category]; done) | rfl) ?_
  intro vm0 hZ0 hE0 hC0 hS0
  refine WP.iloadN (n := 1) dMN_0 rfl rfl ?_
  refine WP.iloadN (n := 2) dMN_1 rfl rfl ?_
  refine WP.icmp_gt (n := 9) (n' := 5) dMN_2 (by decide) (by decide) rfl (fun b1 => ?_) (fun b1 => ?_)
  · refine WP.iloadN (n := 10) dMN_9 rfl rfl ?_
    exact WP.retI dMN_10 rfl (by decide) (by decide) ⟨by unfold own_mn; rw [if_pos b1], rfl⟩
  · refine WP.iloadN (n := 6) dMN_5 rfl rfl ?_
    refine WP.goto (n := 10) dMN_6 (by decide) (by decide) ?_
    exact WP.retI dMN_10 rfl (by decide) (by decide) ⟨by unfold own_mn; rw [if_neg b1], rfl⟩
theorem dCO_0 : decode jdk_42_method_152_code 0 = .ok (.getstatic 38, 3) := by decide +kernel
theorem dCO_3 : decode jdk_42_method_152_code 3 = .ok (.ifCond .eq 10, 3) := by decide +kernel
theorem dCO_6 : decode jdk_42_method_152_code 6 = .ok (.aload_n 0, 1) := by decide +kernel
theorem dCO_7 : decode jdk_42_method_152_code 7 = .ok (.getfield 15, 3) := by decide +kernel
theorem dCO_10 : decode jdk_42_method_152_code 10 = .ok (.goto 4, 3) := by decide +kernel
theorem dCO_13 : decode jdk_42_method_152_code 13 = .ok (.iconst 1, 1) := by decide +kernel
theorem dCO_14 : decode jdk_42_method_152_code 14 = .ok (.ireturn, 1) := by decide +kernel
set_option maxRecDepth 65536 in
set_option maxHeartbeats 40000000 in
theorem own_cod (l : Launch) (Z : State) (a0 : Array Value) (hw : ∀ d ∈ tables_1, d.before a0 Z = true) (EL : List (String × Nat)) (hEL : EW Z a0 EL) (h0 : Heap) (a : Addr) (F : Fld Z h0 a "java/lang/String" "coder" "B" (.int 0)) (cz : Int32) (O : Sta Z Z.heap "java/lang/String" "COMPACT_STRINGS" "Z" (.int cz)) (hO : ¬ cz = 0) :
    Con l Z EL false [] (⟨"java/lang/String", "coder", "()B"⟩ : MethodName) jdk_42_method_152_code 1 (some .byte) ({ frames := 0, cells := 0, slots := 0, locals := 0 } : Room) #[(.ref a)] h0 (fun v h' => v = some (.int 0) ∧ h0 = h') := by
  refine Con.of (Ls := #[.val (.ref a)]) (plainFor_of_name own_pn0) hEL (fun m => by first | (simp [entryFrame, mkF, argsToLocals, Value.category]; done) | rfl) ?_
  intro vm0 hZ0 hE0 hC0 hS0
  refine WP.getSZ (n := 3) dCO_0 (hw _ (List.mem_of_getElem? (i := 68) rfl)) Via.refl O rfl ?_
  refine WP.ifcN (n' := 6) dCO_3 ((if0 _ _).trans (feq hO).1) rfl ?_
  refine WP.aloadN (n := 7) dCO_6 rfl rfl rfl ?_
  refine WP.getF (n := 10) (host := "") dCO_7 (Or.inl (hw _ (List.mem_of_getElem? (i := 29) rfl))) Via.refl F rfl ?_
  refine WP.goto (n := 14) dCO_10 (by decide) (by decide) ?_
  exact WP.retN dCO_14 rfl (Or.inr (Or.inl rfl)) (by decide : nar .byte 0 = 0) (by decide) (by decide) ⟨rfl, rfl⟩
theorem dLN_0 : decode jdk_42_method_54_code 0 = .ok (.aload_n 0, 1) := by decide +kernel
theorem dLN_1 : decode jdk_42_method_54_code 1 = .ok (.getfield 9, 3) := by decide +kernel
theorem dLN_4 : decode jdk_42_method_54_code 4 = .ok (.arraylength, 1) := by decide +kernel
theorem dLN_5 : decode jdk_42_method_54_code 5 = .ok (.aload_n 0, 1) := by decide +kernel
theorem dLN_6 : decode jdk_42_method_54_code 6 = .ok (.invokevirtual 335, 3) := by decide +kernel
theorem dLN_9 : decode jdk_42_method_54_code 9 = .ok (.ishr, 1) := by decide +kernel
theorem dLN_10 : decode jdk_42_method_54_code 10 = .ok (.ireturn, 1) := by decide +kernel
set_option maxRecDepth 65536 in
set_option maxHeartbeats 40000000 in
theorem own_len (l : Launch) (Z : State) (a0 : Array Value) (hw : ∀ d ∈ tables_1, d.before a0 Z = true) (EL : List (String × Nat)) (hEL : EW Z a0 EL) (h0 : Heap) (a : Addr) (bs : List Int32) (A : Str Z h0 a bs) (cz : Int32) (O : Sta Z Z.heap "java/lang/String" "COMPACT_STRINGS" "Z" (.int cz)) (hO : ¬ cz = 0) :
    Con l Z EL false [] (⟨"java/lang/String", "length", "()I"⟩ : MethodName) jdk_42_method_54_code 1 (some .int) ({ frames := 1, cells := 0, slots := 0, locals := 13 } : Room) #[(.ref a)] h0 (fun v h' => v = some (.int (Int32.ofNat bs.length)) ∧ h0 = h') := by
  refine Con.of (Ls := #[.val (.ref a)]) (plainFor_of_name own_pn0) hEL (fun m => by first | (simp [entryFrame, mkF, argsToLocals, Value.category]; done) | rfl) ?_
  intro vm0 hZ0 hE0 hC0 hS0
  obtain ⟨f1, f2, b, kb, z, f3, f4, f5⟩ := A
  have hz0 : ¬ z < 0 := by obtain ⟨_, _, _, _, q, _⟩ := f4; exact q
  refine WP.aloadN (n := 1) dLN_0 rfl rfl rfl ?_
  refine WP.getF (n := 4) (host := "") dLN_1 (Or.inl (hw _ (List.mem_of_getElem? (i := 28) rfl))) Via.refl f3 rfl ?_
  refine WP.alen (n := 5) dLN_4 f4 rfl ?_
  refine WP.aloadN (n := 6) dLN_5 rfl rfl rfl ?_
  refine WP.callV (n := 9) (ce' := 0) (sl' := 0) (Wd := 1) (a := a) (argsL := []) (rest := [(.int z)]) (own_cod l Z a0 hw EL hEL h0 a f2 cz O hO) f1 dLN_6 (hw _ (List.mem_of_getElem? (i := 63) rfl)) (hw _ (List.mem_of_getElem? (i := 64) rfl)) (hw _ (List.mem_of_getElem? (i := 66) rfl)) (hw _ (List.mem_of_getElem? (i := 65) rfl)) (hw _ (List.mem_of_getElem? (i := 11) rfl)) (hw _ (List.mem_of_getElem? (i := 67) rfl)) (by decide) (fun _ hz => notFace_of_selects (args := #[]) (mvT hz (hw _ (List.mem_of_getElem? (i := 66) rfl)))) (fun _ q => nomatch q) (by decide) (by decide) rfl rfl (by decide) (by decide) rfl rfl (lenOf own_pd0 rfl) rfl (Nat.le_of_eq rfl) rfl (fun v2 vm2 h2 q2 r2 => ?_)
  obtain ⟨rfl, rfl⟩ := q2
  refine WP.ishr (n := 10) dLN_9  rfl ?_
  rw [own_shr0]
  exact WP.retI dLN_10 rfl (by decide) (by decide) ⟨by rw [(own_z hz0).1, f5], rfl⟩
theorem dCK_0 : decode jdk_65_method_131_code 0 = .ok (.iload_n 1, 1) := by decide +kernel
theorem dCK_1 : decode jdk_65_method_131_code 1 = .ok (.iload_n 0, 1) := by decide +kernel
theorem dCK_2 : decode jdk_65_method_131_code 2 = .ok (.if_icmp .ge 35, 3) := by decide +kernel
theorem dCK_5 : decode jdk_65_method_131_code 5 = .ok (.new 43, 3) := by decide +kernel
theorem dCK_8 : decode jdk_65_method_131_code 8 = .ok (.dup, 1) := by decide +kernel
theorem dCK_9 : decode jdk_65_method_131_code 9 = .ok (.new 45, 3) := by decide +kernel
theorem dCK_12 : decode jdk_65_method_131_code 12 = .ok (.dup, 1) := by decide +kernel
theorem dCK_13 : decode jdk_65_method_131_code 13 = .ok (.invokespecial 47, 3) := by decide +kernel
theorem dCK_16 : decode jdk_65_method_131_code 16 = .ok (.iload_n 0, 1) := by decide +kernel
theorem dCK_17 : decode jdk_65_method_131_code 17 = .ok (.invokevirtual 54, 3) := by decide +kernel
theorem dCK_20 : decode jdk_65_method_131_code 20 = .ok (.ldc_w 337, 3) := by decide +kernel
theorem dCK_23 : decode jdk_65_method_131_code 23 = .ok (.invokevirtual 50, 3) := by decide +kernel
theorem dCK_26 : decode jdk_65_method_131_code 26 = .ok (.iload_n 1, 1) := by decide +kernel
theorem dCK_27 : decode jdk_65_method_131_code 27 = .ok (.invokevirtual 54, 3) := by decide +kernel
theorem dCK_30 : decode jdk_65_method_131_code 30 = .ok (.invokevirtual 61, 3) := by decide +kernel
theorem dCK_33 : decode jdk_65_method_131_code 33 = .ok (.invokespecial 65, 3) := by decide +kernel
theorem dCK_36 : decode jdk_65_method_131_code 36 = .ok (.athrow, 1) := by decide +kernel
theorem dCK_37 : decode jdk_65_method_131_code 37 = .ok (.return_, 1) := by decide +kernel
set_option maxRecDepth 65536 in
set_option maxHeartbeats 40000000 in
theorem own_chk (l : Launch) (Z : State) (a0 : Array Value) (hw : ∀ d ∈ tables_1, d.before a0 Z = true) (EL : List (String × Nat)) (hEL : EW Z a0 EL) (h0 : Heap) (f t : Int32) (hk : ¬ t < f) :
    Con l Z EL false [] (⟨"java/util/Arrays", "checkLength", "(II)V"⟩ : MethodName) jdk_65_method_131_code 2 none ({ frames := 0, cells := 0, slots := 0, locals := 0 } : Room) #[(.int f), (.int t)] h0 (fun v h' => v = none ∧ h0 = h') := by
  refine Con.of (Ls := #[.val (.int f), .val (.int t)]) (plainFor_of_name own_pn1) hEL (fun m => by first | (simp [entryFrame, mkF, argsToLocals, Value.category]; done) | rfl) ?_
  intro vm0 hZ0 hE0 hC0 hS0
  refine WP.iloadN (n := 1) dCK_0 rfl rfl ?_
  refine WP.iloadN (n := 2) dCK_1 rfl rfl ?_
  refine WP.icmpY (n := 37) dCK_2 (flt hk).2.1 (by decide) (by decide) ?_
  refine WP.retV dCK_37 rfl (by decide) (by decide) ?_
  exact ⟨rfl, rfl⟩
theorem dCB_0 : decode jdk_65_method_133_code 0 = .ok (.iload_n 1, 1) := by decide +kernel
theorem dCB_1 : decode jdk_65_method_133_code 1 = .ok (.iload_n 2, 1) := by decide +kernel
theorem dCB_2 : decode jdk_65_method_133_code 2 = .ok (.invokestatic 343, 3) := by decide +kernel
theorem dCB_5 : decode jdk_65_method_133_code 5 = .ok (.iload_n 2, 1) := by decide +kernel
theorem dCB_6 : decode jdk_65_method_133_code 6 = .ok (.iload_n 1, 1) := by decide +kernel
theorem dCB_7 : decode jdk_65_method_133_code 7 = .ok (.isub, 1) := by decide +kernel
theorem dCB_8 : decode jdk_65_method_133_code 8 = .ok (.istore_n 3, 1) := by decide +kernel
theorem dCB_9 : decode jdk_65_method_133_code 9 = .ok (.iload_n 3, 1) := by decide +kernel
theorem dCB_10 : decode jdk_65_method_133_code 10 = .ok (.newarray .byte, 2) := by decide +kernel
theorem dCB_12 : decode jdk_65_method_133_code 12 = .ok (.astore 4, 2) := by decide +kernel
theorem dCB_14 : decode jdk_65_method_133_code 14 = .ok (.aload_n 0, 1) := by decide +kernel
theorem dCB_15 : decode jdk_65_method_133_code 15 = .ok (.iload_n 1, 1) := by decide +kernel
theorem dCB_16 : decode jdk_65_method_133_code 16 = .ok (.aload 4, 2) := by decide +kernel
theorem dCB_18 : decode jdk_65_method_133_code 18 = .ok (.iconst 0, 1) := by decide +kernel
theorem dCB_19 : decode jdk_65_method_133_code 19 = .ok (.aload_n 0, 1) := by decide +kernel
theorem dCB_20 : decode jdk_65_method_133_code 20 = .ok (.arraylength, 1) := by decide +kernel
theorem dCB_21 : decode jdk_65_method_133_code 21 = .ok (.iload_n 1, 1) := by decide +kernel
theorem dCB_22 : decode jdk_65_method_133_code 22 = .ok (.isub, 1) := by decide +kernel
theorem dCB_23 : decode jdk_65_method_133_code 23 = .ok (.iload_n 3, 1) := by decide +kernel
theorem dCB_24 : decode jdk_65_method_133_code 24 = .ok (.invokestatic 304, 3) := by decide +kernel
theorem dCB_27 : decode jdk_65_method_133_code 27 = .ok (.invokestatic 150, 3) := by decide +kernel
theorem dCB_30 : decode jdk_65_method_133_code 30 = .ok (.aload 4, 2) := by decide +kernel
theorem dCB_32 : decode jdk_65_method_133_code 32 = .ok (.areturn, 1) := by decide +kernel
set_option maxRecDepth 65536 in
set_option maxHeartbeats 40000000 in
theorem own_crb (l : Launch) (Z : State) (a0 : Array Value) (hw : ∀ d ∈ tables_1, d.before a0 Z = true) (EL : List (String × Nat)) (hEL : EW Z a0 EL) (h0 : Heap) (b : Addr) (kb : ClassId) (z : Int32) (vs : List Value) (f t : Nat) (B : Arv Z h0 b kb .byte z vs (.int 0)) (hz : z.toNatClampNeg = vs.length) (hft : f ≤ t) (ht : t ≤ vs.length) (hcap : t - f ≤ 4)  :
    Con l Z EL false [] (⟨"java/util/Arrays", "copyOfRangeByte", "([BII)[B"⟩ : MethodName) jdk_65_method_133_code 5 (some (.array .byte)) ({ frames := 1, cells := 1, slots := 4, locals := 45 } : Room) #[(.ref b), (.int (Int32.ofNat f)), (.int (Int32.ofNat t))] h0 (fun v h' => ∃ c kc, v = some (.ref c) ∧ h0.size ≤ c ∧ Ext h0 h' ∧ Arv Z h' c kc .byte (Int32.ofNat (t - f)) ((vs.drop f).take (t - f)) (.int 0)) := by
  refine Con.of (Ls := #[.val (.ref b), .val (.int (Int32.ofNat f)), .val (.int (Int32.ofNat t)), .unset, .unset]) (plainFor_of_name own_pn1) hEL (fun m => by first | (simp [entryFrame, mkF, argsToLocals, Value.category]; done) | rfl) ?_
  intro vm0 hZ0 hE0 hC0 hS0
  have hz0 : ¬ z < 0 := by obtain ⟨_, _, _, _, q, _⟩ := B; exact q
  have hzb := own_z hz0
  rw [hz] at hzb
  refine WP.iloadN (n := 1) dCB_0 rfl rfl ?_
  refine WP.iloadN (n := 2) dCB_1 rfl rfl ?_
  refine WP.callS (n := 5) (ce' := 0) (sl' := 0) (Wd := 0) (argsL := [(.int (Int32.ofNat f)), (.int (Int32.ofNat t))]) (rest := []) (own_chk l Z a0 hw EL hEL h0 (Int32.ofNat f) (Int32.ofNat t) (by rw [own_ltN (by omega) (by omega)]; omega)) dCB_2 (hw _ (List.mem_of_getElem? (i := 177) rfl)) (hw _ (List.mem_of_getElem? (i := 178) rfl)) (hw _ (List.mem_of_getElem? (i := 172) rfl)) (hw _ (List.mem_of_getElem? (i := 179) rfl)) (by decide) (fun _ q => nomatch q) (by decide) (by decide) rfl rfl (by decide) (by decide) rfl rfl (lenOf own_pd1 rfl) rfl (Nat.le_of_eq rfl) rfl (fun v3 vm3 h3 q3 r3 => ?_)
  obtain ⟨rfl, rfl⟩ := q3
  refine WP.iloadN (n := 6) dCB_5 rfl rfl ?_
  refine WP.iloadN (n := 7) dCB_6 rfl rfl ?_
  refine WP.isub (n := 8) dCB_7  rfl ?_
  rw [own_subN (by omega) hft]
  refine WP.istoreN (n := 9) (Ls' := #[.val (.ref b), .val (.int (Int32.ofNat f)), .val (.int (Int32.ofNat t)), .val (.int (Int32.ofNat (t - f))), .unset]) dCB_8 rfl rfl ?_
  refine WP.iloadN (n := 10) dCB_9 rfl rfl ?_
  refine WP.newP (n := 12) (ce' := 1) (sl' := 4) (cap := 4) (ty := .byte) dCB_10 (hw _ (List.mem_of_getElem? (i := 23) rfl)) rfl (own_nn (by omega)) (by rw [own_clamp (by omega)]; exact hcap) (by decide) rfl rfl (by decide) (by decide) rfl (fun a4 h4 k4 g4 E4 V4 S4 N4 r4 => ?_)
  have V4_ : Arv Z h4 a4 k4 .byte (Int32.ofNat (t - f)) (List.replicate (t - f) (.int 0)) (.int 0) := V4.pad (pad_rep [] (.int 0) (t - f))
  refine WP.astore (n := 14) (Ls' := #[.val (.ref b), .val (.int (Int32.ofNat f)), .val (.int (Int32.ofNat t)), .val (.int (Int32.ofNat (t - f))), .val (.ref a4)]) dCB_12 rfl rfl rfl ?_
  refine WP.aloadN (n := 15) dCB_14 rfl rfl rfl ?_
  refine WP.iloadN (n := 16) dCB_15 rfl rfl ?_
  refine WP.aload (n := 18) dCB_16 rfl rfl rfl ?_
  refine WP.iconst (n := 19) (z := (0 : Int32)) dCB_18 rfl rfl ?_
  refine WP.aloadN (n := 20) dCB_19 rfl rfl rfl ?_
  refine WP.alen (n := 21) dCB_20 (B.ext E4) rfl ?_
  refine WP.iloadN (n := 22) dCB_21 rfl rfl ?_
  refine WP.isub (n := 23) dCB_22  rfl ?_
  rw [show z - Int32.ofNat f = Int32.ofNat (vs.length - f) by rw [hzb.1, own_subN hzb.2 (by omega)]]
  refine WP.iloadN (n := 24) dCB_23 rfl rfl ?_
  refine WP.callS (n := 27) (ce' := 1) (sl' := 4) (Wd := 4) (argsL := [(.int (Int32.ofNat (vs.length - f))), (.int (Int32.ofNat (t - f)))]) (rest := [(.int (0 : Int32)), (.ref a4), (.int (Int32.ofNat f)), (.ref b)]) (own_min l Z a0 hw EL hEL h4 (Int32.ofNat (vs.length - f)) (Int32.ofNat (t - f))) dCB_24 (hw _ (List.mem_of_getElem? (i := 180) rfl)) (hw _ (List.mem_of_getElem? (i := 120) rfl)) (hw _ (List.mem_of_getElem? (i := 117) rfl)) (hw _ (List.mem_of_getElem? (i := 121) rfl)) (by decide) (fun _ q => nomatch q) (by decide) (by decide) rfl rfl (by decide) (by decide) rfl rfl (lenOf own_pd2 rfl) rfl (Nat.le_of_eq rfl) rfl (fun v5 vm5 h5 q5 r5 => ?_)
  obtain ⟨rfl, rfl⟩ := q5
  rw [own_mnN (k := vs.length - f) (m := t - f) (by omega) (by omega)]
  refine WP.inv fun hZc hEc hCc => ?_
  have S4_ : Safe Z EL vm5 h4 a4 := by first | exact S4 | exact r5.safe V4.lt S4
  refine WP.copyB (n := 30) (Wd := 0) (vr := (vs.drop f).take (t - f)) dCB_27 (hw _ (List.mem_of_getElem? (i := 181) rfl)) (hw _ (List.mem_of_getElem? (i := 184) rfl)) (hw _ (List.mem_of_getElem? (i := 182) rfl)) (hw _ (List.mem_of_getElem? (i := 183) rfl)) (B.ext E4) V4_ (own_nn (by omega)) (by decide) (own_nn (by omega)) (by rw [own_clamp (by omega), own_clamp (by omega), hz]; omega) (by rw [own_clamp (by omega)]; show 0 + _ ≤ _; omega) (us := (vs.drop f).take (t - f)) (by rw [own_clamp (by omega), own_clamp (by omega), own_rangeDrop _ _ _ _ (by omega)]) (by rw [own_clamp (by omega), List.length_replicate]; show 0 + _ ≤ _; omega) (by rw [own_clamp (by omega)]; show List.take 0 _ ++ _ ++ List.drop (0 + _) _ = _; simp) N4 S4_ rfl (by decide) (Nat.le_of_eq rfl) (by decide) rfl (fun h7 K7 V7 r7 => ?_)
  refine WP.aload (n := 32) dCB_30 rfl rfl rfl ?_
  exact WP.retA dCB_32 rfl rfl rfl rfl (by decide) (by decide) ⟨_, _, rfl, Nat.le_of_eq g4.symm, ext_keep1 E4 K7 (Nat.le_of_eq g4.symm), V7⟩
theorem dCR_0 : decode jdk_65_method_132_code 0 = .ok (.iload_n 1, 1) := by decide +kernel
theorem dCR_1 : decode jdk_65_method_132_code 1 = .ok (.ifCond .ne 9, 3) := by decide +kernel
theorem dCR_4 : decode jdk_65_method_132_code 4 = .ok (.iload_n 2, 1) := by decide +kernel
theorem dCR_5 : decode jdk_65_method_132_code 5 = .ok (.aload_n 0, 1) := by decide +kernel
theorem dCR_6 : decode jdk_65_method_132_code 6 = .ok (.arraylength, 1) := by decide +kernel
theorem dCR_7 : decode jdk_65_method_132_code 7 = .ok (.if_icmp .eq 10, 3) := by decide +kernel
theorem dCR_10 : decode jdk_65_method_132_code 10 = .ok (.aload_n 0, 1) := by decide +kernel
theorem dCR_11 : decode jdk_65_method_132_code 11 = .ok (.iload_n 1, 1) := by decide +kernel
theorem dCR_12 : decode jdk_65_method_132_code 12 = .ok (.iload_n 2, 1) := by decide +kernel
theorem dCR_13 : decode jdk_65_method_132_code 13 = .ok (.invokestatic 339, 3) := by decide +kernel
theorem dCR_16 : decode jdk_65_method_132_code 16 = .ok (.areturn, 1) := by decide +kernel
theorem dCR_17 : decode jdk_65_method_132_code 17 = .ok (.aload_n 0, 1) := by decide +kernel
theorem dCR_18 : decode jdk_65_method_132_code 18 = .ok (.invokevirtual 310, 3) := by decide +kernel
theorem dCR_21 : decode jdk_65_method_132_code 21 = .ok (.checkcast 311, 3) := by decide +kernel
theorem dCR_24 : decode jdk_65_method_132_code 24 = .ok (.areturn, 1) := by decide +kernel
set_option maxRecDepth 65536 in
set_option maxHeartbeats 40000000 in
theorem own_cor (l : Launch) (Z : State) (a0 : Array Value) (hw : ∀ d ∈ tables_1, d.before a0 Z = true) (EL : List (String × Nat)) (hEL : EW Z a0 EL) (h0 : Heap) (b : Addr) (kb : ClassId) (z : Int32) (vs : List Value) (f t : Nat) (B : Arv Z h0 b kb .byte z vs (.int 0)) (hz : z.toNatClampNeg = vs.length) (hft : f ≤ t) (ht : t ≤ vs.length) (hcap : t - f ≤ 4) (hw' : ¬ (f = 0 ∧ t = vs.length)) :
    Con l Z EL false [] (⟨"java/util/Arrays", "copyOfRange", "([BII)[B"⟩ : MethodName) jdk_65_method_132_code 3 (some (.array .byte)) ({ frames := 2, cells := 1, slots := 4, locals := 65 } : Room) #[(.ref b), (.int (Int32.ofNat f)), (.int (Int32.ofNat t))] h0 (fun v h' => ∃ c kc, v = some (.ref c) ∧ h0.size ≤ c ∧ Ext h0 h' ∧ Arv Z h' c kc .byte (Int32.ofNat (t - f)) ((vs.drop f).take (t - f)) (.int 0)) := by
  refine Con.of (Ls := #[.val (.ref b), .val (.int (Int32.ofNat f)), .val (.int (Int32.ofNat t))]) (plainFor_of_name own_pn1) hEL (fun m => by first | (simp [entryFrame, mkF, argsToLocals, Value.category]; done) | rfl) ?_
  intro vm0 hZ0 hE0 hC0 hS0
  have hz0 : ¬ z < 0 := by obtain ⟨_, _, _, _, q, _⟩ := B; exact q
  have hzb := own_z hz0
  rw [hz] at hzb
  refine WP.iloadN (n := 1) dCR_0 rfl rfl ?_
  refine WP.if_ne (n := 10) (n' := 4) dCR_1 (by decide) (by decide) rfl (fun b6 => ?_) (fun b6 => ?_)
  · refine WP.aloadN (n := 11) dCR_10 rfl rfl rfl ?_
    refine WP.iloadN (n := 12) dCR_11 rfl rfl ?_
    refine WP.iloadN (n := 13) dCR_12 rfl rfl ?_
    refine WP.callS (n := 16) (ce' := 1) (sl' := 4) (Wd := 0) (argsL := [(.ref b), (.int (Int32.ofNat f)), (.int (Int32.ofNat t))]) (rest := []) (own_crb l Z a0 hw EL hEL h0 b kb z vs f t B hz hft ht hcap) dCR_13 (hw _ (List.mem_of_getElem? (i := 174) rfl)) (hw _ (List.mem_of_getElem? (i := 175) rfl)) (hw _ (List.mem_of_getElem? (i := 172) rfl)) (hw _ (List.mem_of_getElem? (i := 176) rfl)) (by decide) (fun _ q => nomatch q) (by decide) (by decide) rfl rfl (by decide) (by decide) rfl rfl (lenOf own_pd3 rfl) rfl (Nat.le_of_eq rfl) rfl (fun v7 vm7 h7 q7 r7 => ?_)
    obtain ⟨c7, kc7, rfl, N7, E7, V7⟩ := q7
    exact WP.retA dCR_16 rfl rfl rfl rfl (by decide) (by decide) ⟨_, _, rfl, N7, E7, V7⟩
  · refine WP.iloadN (n := 5) dCR_4 rfl rfl ?_
    refine WP.aloadN (n := 6) dCR_5 rfl rfl rfl ?_
    refine WP.alen (n := 7) dCR_6 B rfl ?_
    refine WP.icmpN (n' := 10) dCR_7 (feq (fun e => hw' ⟨(by have e1 := congrArg Int32.toNatClampNeg b6; rw [own_clamp (by omega)] at e1; exact e1), (by have e1 := congrArg Int32.toNatClampNeg e; rw [own_clamp (by omega), hz] at e1; exact e1)⟩)).1 rfl ?_
    refine WP.aloadN (n := 11) dCR_10 rfl rfl rfl ?_
    refine WP.iloadN (n := 12) dCR_11 rfl rfl ?_
    refine WP.iloadN (n := 13) dCR_12 rfl rfl ?_
    refine WP.callS (n := 16) (ce' := 1) (sl' := 4) (Wd := 0) (argsL := [(.ref b), (.int (Int32.ofNat f)), (.int (Int32.ofNat t))]) (rest := []) (own_crb l Z a0 hw EL hEL h0 b kb z vs f t B hz hft ht hcap) dCR_13 (hw _ (List.mem_of_getElem? (i := 174) rfl)) (hw _ (List.mem_of_getElem? (i := 175) rfl)) (hw _ (List.mem_of_getElem? (i := 172) rfl)) (hw _ (List.mem_of_getElem? (i := 176) rfl)) (by decide) (fun _ q => nomatch q) (by decide) (by decide) rfl rfl (by decide) (by decide) rfl rfl (lenOf own_pd3 rfl) rfl (Nat.le_of_eq rfl) rfl (fun v8 vm8 h8 q8 r8 => ?_)
    obtain ⟨c8, kc8, rfl, N8, E8, V8⟩ := q8
    exact WP.retA dCR_16 rfl rfl rfl rfl (by decide) (by decide) ⟨_, _, rfl, N8, E8, V8⟩
theorem dSB_0 : decode jdk_42_method_151_code 0 = .ok (.aload_n 0, 1) := by decide +kernel
theorem dSB_1 : decode jdk_42_method_151_code 1 = .ok (.invokespecial 1, 3) := by decide +kernel
theorem dSB_4 : decode jdk_42_method_151_code 4 = .ok (.aload_n 0, 1) := by decide +kernel
theorem dSB_5 : decode jdk_42_method_151_code 5 = .ok (.aload_n 1, 1) := by decide +kernel
theorem dSB_6 : decode jdk_42_method_151_code 6 = .ok (.putfield 9, 3) := by decide +kernel
theorem dSB_9 : decode jdk_42_method_151_code 9 = .ok (.aload_n 0, 1) := by decide +kernel
theorem dSB_10 : decode jdk_42_method_151_code 10 = .ok (.iload_n 2, 1) := by decide +kernel
theorem dSB_11 : decode jdk_42_method_151_code 11 = .ok (.putfield 15, 3) := by decide +kernel
theorem dSB_14 : decode jdk_42_method_151_code 14 = .ok (.return_, 1) := by decide +kernel
set_option maxRecDepth 65536 in
set_option maxHeartbeats 40000000 in
theorem own_sb (l : Launch) (Z : State) (a0 : Array Value) (hw : ∀ d ∈ tables_1, d.before a0 Z = true) (EL : List (String × Nat)) (hEL : EW Z a0 EL) (h0 : Heap) (a b : Addr) (v0 c0 : Value) (hN : Z.heap.size ≤ a) (hA : Exa Z h0 a "java/lang/String") (hV : Fld Z h0 a "java/lang/String" "value" "[B" v0) (hK : Fld Z h0 a "java/lang/String" "coder" "B" c0) :
    Con l Z EL false [a] (⟨"java/lang/String", "<init>", "([BB)V"⟩ : MethodName) jdk_42_method_151_code 3 none ({ frames := 1, cells := 0, slots := 0, locals := 12 } : Room) #[(.ref a), (.ref b), (.int (0 : Int32))] h0 (fun v h' => v = none ∧ Keep h0 h' [a] ∧ Exa Z h' a "java/lang/String" ∧ Fld Z h' a "java/lang/String" "value" "[B" (.ref b) ∧ Fld Z h' a "java/lang/String" "coder" "B" (.int 0)) := by
  refine Con.of (Ls := #[.val (.ref a), .val (.ref b), .val (.int (0 : Int32))]) (plainFor_of_name own_pn0) hEL (fun m => by first | (simp [entryFrame, mkF, argsToLocals, Value.category]; done) | rfl) ?_
  intro vm0 hZ0 hE0 hC0 hS0
  refine WP.aloadN (n := 1) dSB_0 rfl rfl rfl ?_
  refine WP.initO (n := 4) (Wd := 0) dSB_1 (hw _ (List.mem_of_getElem? (i := 19) rfl)) (hw _ (List.mem_of_getElem? (i := 20) rfl)) (hw _ (List.mem_of_getElem? (i := 21) rfl)) rfl (by decide) (Nat.le_of_eq rfl) (by decide) rfl ?_
  refine WP.aloadN (n := 5) dSB_4 rfl rfl rfl ?_
  refine WP.aloadN (n := 6) dSB_5 rfl rfl rfl ?_
  refine WP.putF (n := 9) (host := "") (ty := (.array .byte)) dSB_6 (Or.inl (hw _ (List.mem_of_getElem? (i := 28) rfl))) Via.refl hV hA (Or.inr ⟨(hw _ (List.mem_of_getElem? (i := 24) rfl)), rfl, rfl⟩) (hw _ (List.mem_of_getElem? (i := 10) rfl)) (by decide) rfl rfl hN (hS0 a (List.mem_cons_self ..)) rfl (fun h9 W9 r9 => ?_)
  have A9 := hA.wr W9
  have K9 := (Keep.refl h0 [a]).wr W9 (Or.inl (List.mem_cons_self ..))
  have F9_value := hV.same W9
  have F9_coder := hK.other W9 (Or.inr (slot_ne (t := .byte) (t' := (.array .byte)) (Or.inr (hw _ (List.mem_of_getElem? (i := 25) rfl))) (Or.inr (hw _ (List.mem_of_getElem? (i := 24) rfl))) (by decide) (by decide) (by decide)))
  have S9 := r9.safe hA.lt (hS0 a (List.mem_cons_self ..))
  refine WP.aloadN (n := 10) dSB_9 rfl rfl rfl ?_
  refine WP.iloadN (n := 11) dSB_10 rfl rfl ?_
  refine WP.putF (n := 14) (host := "") (ty := .byte) dSB_11 (Or.inl (hw _ (List.mem_of_getElem? (i := 29) rfl))) Via.refl F9_coder A9 (Or.inr ⟨(hw _ (List.mem_of_getElem? (i := 25) rfl)), rfl, rfl⟩) (hw _ (List.mem_of_getElem? (i := 10) rfl)) (by decide) rfl (by decide) hN S9 rfl (fun h10 W10 r10 => ?_)
  have A10 := A9.wr W10
  have K10 := K9.wr W10 (Or.inl (List.mem_cons_self ..))
  have F10_coder := F9_coder.same W10
  have F10_value := F9_value.other W10 (Or.inr (slot_ne (t := (.array .byte)) (t' := .byte) (Or.inr (hw _ (List.mem_of_getElem? (i := 24) rfl))) (Or.inr (hw _ (List.mem_of_getElem? (i := 25) rfl))) (by decide) (by decide) (by decide)))
  refine WP.retV dSB_14 rfl (by decide) (by decide) ?_
  exact ⟨rfl, K10, A10, F10_value, F10_coder⟩
theorem dS4_0 : decode jdk_42_method_149_code 0 = .ok (.aload_n 0, 1) := by decide +kernel
theorem dS4_1 : decode jdk_42_method_149_code 1 = .ok (.invokespecial 1, 3) := by decide +kernel
theorem dS4_4 : decode jdk_42_method_149_code 4 = .ok (.iload_n 3, 1) := by decide +kernel
theorem dS4_5 : decode jdk_42_method_149_code 5 = .ok (.ifCond .ne 22, 3) := by decide +kernel
theorem dS4_8 : decode jdk_42_method_149_code 8 = .ok (.aload_n 0, 1) := by decide +kernel
theorem dS4_9 : decode jdk_42_method_149_code 9 = .ok (.ldc 7, 2) := by decide +kernel
theorem dS4_11 : decode jdk_42_method_149_code 11 = .ok (.getfield 9, 3) := by decide +kernel
theorem dS4_14 : decode jdk_42_method_149_code 14 = .ok (.putfield 9, 3) := by decide +kernel
theorem dS4_17 : decode jdk_42_method_149_code 17 = .ok (.aload_n 0, 1) := by decide +kernel
theorem dS4_18 : decode jdk_42_method_149_code 18 = .ok (.ldc 7, 2) := by decide +kernel
theorem dS4_20 : decode jdk_42_method_149_code 20 = .ok (.getfield 15, 3) := by decide +kernel
theorem dS4_23 : decode jdk_42_method_149_code 23 = .ok (.putfield 15, 3) := by decide +kernel
theorem dS4_26 : decode jdk_42_method_149_code 26 = .ok (.return_, 1) := by decide +kernel
theorem dS4_27 : decode jdk_42_method_149_code 27 = .ok (.getstatic 38, 3) := by decide +kernel
theorem dS4_30 : decode jdk_42_method_149_code 30 = .ok (.ifCond .eq 28, 3) := by decide +kernel
theorem dS4_33 : decode jdk_42_method_149_code 33 = .ok (.aload_n 1, 1) := by decide +kernel
theorem dS4_34 : decode jdk_42_method_149_code 34 = .ok (.iload_n 2, 1) := by decide +kernel
theorem dS4_35 : decode jdk_42_method_149_code 35 = .ok (.iload_n 3, 1) := by decide +kernel
theorem dS4_36 : decode jdk_42_method_149_code 36 = .ok (.invokestatic 177, 3) := by decide +kernel
theorem dS4_39 : decode jdk_42_method_149_code 39 = .ok (.astore 5, 2) := by decide +kernel
theorem dS4_41 : decode jdk_42_method_149_code 41 = .ok (.aload_n 0, 1) := by decide +kernel
theorem dS4_42 : decode jdk_42_method_149_code 42 = .ok (.aload 5, 2) := by decide +kernel
theorem dS4_44 : decode jdk_42_method_149_code 44 = .ok (.iload_n 3, 1) := by decide +kernel
theorem dS4_45 : decode jdk_42_method_149_code 45 = .ok (.invokestatic 47, 3) := by decide +kernel
theorem dS4_48 : decode jdk_42_method_149_code 48 = .ok (.putfield 15, 3) := by decide +kernel
theorem dS4_51 : decode jdk_42_method_149_code 51 = .ok (.aload_n 0, 1) := by decide +kernel
theorem dS4_52 : decode jdk_42_method_149_code 52 = .ok (.aload 5, 2) := by decide +kernel
theorem dS4_54 : decode jdk_42_method_149_code 54 = .ok (.putfield 9, 3) := by decide +kernel
theorem dS4_57 : decode jdk_42_method_149_code 57 = .ok (.return_, 1) := by decide +kernel
theorem dS4_58 : decode jdk_42_method_149_code 58 = .ok (.aload_n 0, 1) := by decide +kernel
theorem dS4_59 : decode jdk_42_method_149_code 59 = .ok (.iconst 1, 1) := by decide +kernel
theorem dS4_60 : decode jdk_42_method_149_code 60 = .ok (.putfield 15, 3) := by decide +kernel
theorem dS4_63 : decode jdk_42_method_149_code 63 = .ok (.aload_n 0, 1) := by decide +kernel
theorem dS4_64 : decode jdk_42_method_149_code 64 = .ok (.aload_n 1, 1) := by decide +kernel
theorem dS4_65 : decode jdk_42_method_149_code 65 = .ok (.iload_n 2, 1) := by decide +kernel
theorem dS4_66 : decode jdk_42_method_149_code 66 = .ok (.iload_n 3, 1) := by decide +kernel
theorem dS4_67 : decode jdk_42_method_149_code 67 = .ok (.invokestatic 180, 3) := by decide +kernel
theorem dS4_70 : decode jdk_42_method_149_code 70 = .ok (.putfield 9, 3) := by decide +kernel
theorem dS4_73 : decode jdk_42_method_149_code 73 = .ok (.return_, 1) := by decide +kernel
set_option maxRecDepth 65536 in
set_option maxHeartbeats 40000000 in
theorem own_si4 (l : Launch) (Z : State) (a0 : Array Value) (hw : ∀ d ∈ tables_1, d.before a0 Z = true) (EL : List (String × Nat)) (hEL : EW Z a0 EL) (h0 : Heap) (a b : Addr) (v0 c0 : Value) (hN : Z.heap.size ≤ a) (hA : Exa Z h0 a "java/lang/String") (hV : Fld Z h0 a "java/lang/String" "value" "[B" v0) (hK : Fld Z h0 a "java/lang/String" "coder" "B" c0) (hm : ("java/lang/String", 7) ∈ EL) :
    Con l Z EL false [a] (⟨"java/lang/String", "<init>", "([CIILjava/lang/Void;)V"⟩ : MethodName) jdk_42_method_149_code 6 none ({ frames := 1, cells := 2, slots := 4, locals := 12 } : Room) #[(.ref a), (.ref b), (.int (0 : Int32)), (.int (0 : Int32)), .null] h0 (fun v h' => v = none ∧ Keep h0 h' [a] ∧ Str Z h' a []) := by
  have wS : ∀ a ∈ Bundle.stringAtoms, a.before a0 Z = true := fun d hd => hw d ((by decide +kernel : ∀ d ∈ Bundle.stringAtoms, d ∈ tables_1) d hd)
  refine Con.of (Ls := #[.val (.ref a), .val (.ref b), .val (.int (0 : Int32)), .val (.int (0 : Int32)), .val .null, .unset]) (plainFor_of_name own_pn0) hEL (fun m => by first | (simp [entryFrame, mkF, argsToLocals, Value.category]; done) | rfl) ?_
  intro vm0 hZ0 hE0 hC0 hS0
  refine WP.aloadN (n := 1) dS4_0 rfl rfl rfl ?_
  refine WP.initO (n := 4) (Wd := 0) dS4_1 (hw _ (List.mem_of_getElem? (i := 19) rfl)) (hw _ (List.mem_of_getElem? (i := 20) rfl)) (hw _ (List.mem_of_getElem? (i := 21) rfl)) rfl (by decide) (Nat.le_of_eq rfl) (by decide) rfl ?_
  refine WP.iloadN (n := 5) dS4_4 rfl rfl ?_
  refine WP.ifcN (n' := 8) dS4_5 (by decide) rfl ?_
  refine WP.aloadN (n := 9) dS4_8 rfl rfl rfl ?_
  refine WP.ldcC (n := 11) (nn := 0) (ce' := 2) (sl' := 4) (vs := []) (z := 0) dS4_9 rfl (hw _ (List.mem_of_getElem? (i := 22) rfl)) wS hm ⟨by decide, rfl⟩ (by decide) rfl (by decide) (by decide) rfl rfl (by decide) (by decide) hEL rfl (fun a11 b11 k11 vm11 h11 E11 r11 X11 C11 V11 B11 L11 N11 => ?_)
  have S11 := r11.safe hA.lt (hS0 a (List.mem_cons_self ..))
  refine WP.getF (n := 14) (host := "") dS4_11 (Or.inl (hw _ (List.mem_of_getElem? (i := 28) rfl))) Via.refl V11 rfl ?_
  refine WP.putF (n := 17) (host := "") (ty := (.array .byte)) dS4_14 (Or.inl (hw _ (List.mem_of_getElem? (i := 28) rfl))) Via.refl (hV.ext E11) (hA.ext E11) (Or.inr ⟨(hw _ (List.mem_of_getElem? (i := 24) rfl)), rfl, rfl⟩) (hw _ (List.mem_of_getElem? (i := 10) rfl)) (by decide) rfl rfl hN S11 rfl (fun h12 W12 r12 => ?_)
  have A12 := (hA.ext E11).wr W12
  have K12 := ((Keep.refl h0 [a]).ext E11).wr W12 (Or.inl (List.mem_cons_self ..))
  have F12_value := (hV.ext E11).same W12
  have F12_coder := (hK.ext E11).other W12 (Or.inr (slot_ne (t := .byte) (t' := (.array .byte)) (Or.inr (hw _ (List.mem_of_getElem? (i := 25) rfl))) (Or.inr (hw _ (List.mem_of_getElem? (i := 24) rfl))) (by decide) (by decide) (by decide)))
  have C12 := C11.other W12 (Or.inl (Ne.symm (N11 a S11).1))
  have B12 := B11.other W12 (Ne.symm (N11 a S11).2)
  refine WP.inv fun hZ12 hE12 hC12 => ?_
  have S12 := r12.safe (Nat.lt_of_lt_of_le hA.lt r11.2.1) S11
  refine WP.aloadN (n := 18) dS4_17 rfl rfl rfl ?_
  refine WP.ldcA (n := 20) dS4_18 (hw _ (List.mem_of_getElem? (i := 22) rfl)) L11 rfl ?_
  refine WP.getF (n := 23) (host := "") dS4_20 (Or.inl (hw _ (List.mem_of_getElem? (i := 29) rfl))) Via.refl C12 rfl ?_
  refine WP.putF (n := 26) (host := "") (ty := .byte) dS4_23 (Or.inl (hw _ (List.mem_of_getElem? (i := 29) rfl))) Via.refl F12_coder A12 (Or.inr ⟨(hw _ (List.mem_of_getElem? (i := 25) rfl)), rfl, rfl⟩) (hw _ (List.mem_of_getElem? (i := 10) rfl)) (by decide) rfl (by decide) hN S12 rfl (fun h13 W13 r13 => ?_)
  have A13 := A12.wr W13
  have K13 := K12.wr W13 (Or.inl (List.mem_cons_self ..))
  have F13_coder := F12_coder.same W13
  have F13_value := F12_value.other W13 (Or.inr (slot_ne (t := (.array .byte)) (t' := .byte) (Or.inr (hw _ (List.mem_of_getElem? (i := 24) rfl))) (Or.inr (hw _ (List.mem_of_getElem? (i := 25) rfl))) (by decide) (by decide) (by decide)))
  have B13 := B12.other W13 (Ne.symm (N11 a S11).2)
  refine WP.retV dS4_26 rfl (by decide) (by decide) ?_
  exact ⟨rfl, K13, A13, F13_coder, b11, k11, 0, F13_value, B13, rfl⟩
theorem dS1_0 : decode jdk_42_method_3_code 0 = .ok (.aload_n 0, 1) := by decide +kernel
theorem dS1_1 : decode jdk_42_method_3_code 1 = .ok (.aload_n 1, 1) := by decide +kernel
theorem dS1_2 : decode jdk_42_method_3_code 2 = .ok (.iconst 0, 1) := by decide +kernel
theorem dS1_3 : decode jdk_42_method_3_code 3 = .ok (.aload_n 1, 1) := by decide +kernel
theorem dS1_4 : decode jdk_42_method_3_code 4 = .ok (.arraylength, 1) := by decide +kernel
theorem dS1_5 : decode jdk_42_method_3_code 5 = .ok (.aconst_null, 1) := by decide +kernel
theorem dS1_6 : decode jdk_42_method_3_code 6 = .ok (.invokespecial 27, 3) := by decide +kernel
theorem dS1_9 : decode jdk_42_method_3_code 9 = .ok (.return_, 1) := by decide +kernel
set_option maxRecDepth 65536 in
set_option maxHeartbeats 40000000 in
theorem own_si1 (l : Launch) (Z : State) (a0 : Array Value) (hw : ∀ d ∈ tables_1, d.before a0 Z = true) (EL : List (String × Nat)) (hEL : EW Z a0 EL) (h0 : Heap) (a b : Addr) (v0 c0 : Value) (hN : Z.heap.size ≤ a) (hA : Exa Z h0 a "java/lang/String") (hV : Fld Z h0 a "java/lang/String" "value" "[B" v0) (hK : Fld Z h0 a "java/lang/String" "coder" "B" c0) (kb : ClassId) (dv : Value) (hB : Arv Z h0 b kb .char 0 [] dv) (hm : ("java/lang/String", 7) ∈ EL) :
    Con l Z EL false [a] (⟨"java/lang/String", "<init>", "([C)V"⟩ : MethodName) jdk_42_method_3_code 2 none ({ frames := 2, cells := 2, slots := 4, locals := 29 } : Room) #[(.ref a), (.ref b)] h0 (fun v h' => v = none ∧ Keep h0 h' [a] ∧ Str Z h' a []) := by
  refine Con.of (Ls := #[.val (.ref a), .val (.ref b)]) (plainFor_of_name own_pn0) hEL (fun m => by first | (simp [entryFrame, mkF, argsToLocals, Value.category]; done) | rfl) ?_
  intro vm0 hZ0 hE0 hC0 hS0
  refine WP.aloadN (n := 1) dS1_0 rfl rfl rfl ?_
  refine WP.aloadN (n := 2) dS1_1 rfl rfl rfl ?_
  refine WP.iconst (n := 3) (z := (0 : Int32)) dS1_2 rfl rfl ?_
  refine WP.aloadN (n := 4) dS1_3 rfl rfl rfl ?_
  refine WP.alen (n := 5) dS1_4 hB rfl ?_
  refine WP.aconstNull (n := 6) dS1_5  rfl ?_
  refine WP.callP (n := 9) (ce' := 2) (sl' := 4) (Wd := 0) (a := a) (argsL := [(.ref b), (.int (0 : Int32)), (.int (0 : Int32)), .null]) (rest := []) (own_si4 l Z a0 hw EL hEL h0 a b v0 c0 hN hA hV hK hm) dS1_6 rfl (hw _ (List.mem_of_getElem? (i := 15) rfl)) (hw _ (List.mem_of_getElem? (i := 16) rfl)) (hw _ (List.mem_of_getElem? (i := 11) rfl)) (hw _ (List.mem_of_getElem? (i := 18) rfl)) (by decide) (fun y q => by cases List.mem_singleton.mp q; exact ⟨hS0 a (List.mem_cons_self ..), hA.lt⟩) (by decide) (by decide) rfl rfl (by decide) (by decide) rfl rfl (lenOf own_pd4 rfl) rfl (Nat.le_of_eq rfl) rfl (fun v14 vm14 h14 q14 r14 => ?_)
  obtain ⟨rfl, K14, F14⟩ := q14
  refine WP.retV dS1_9 rfl (by decide) (by decide) ?_
  exact ⟨rfl, K14, F14⟩
theorem dR_0 : decode jdk_31_method_11_code 0 = .ok (.aload_n 0, 1) := by decide +kernel
theorem dR_1 : decode jdk_31_method_11_code 1 = .ok (.ifnonnull 12, 3) := by decide +kernel
theorem dR_4 : decode jdk_31_method_11_code 4 = .ok (.new 84, 3) := by decide +kernel
theorem dR_7 : decode jdk_31_method_11_code 7 = .ok (.dup, 1) := by decide +kernel
theorem dR_8 : decode jdk_31_method_11_code 8 = .ok (.aload_n 1, 1) := by decide +kernel
theorem dR_9 : decode jdk_31_method_11_code 9 = .ok (.invokespecial 87, 3) := by decide +kernel
theorem dR_12 : decode jdk_31_method_11_code 12 = .ok (.athrow, 1) := by decide +kernel
theorem dR_13 : decode jdk_31_method_11_code 13 = .ok (.aload_n 0, 1) := by decide +kernel
theorem dR_14 : decode jdk_31_method_11_code 14 = .ok (.areturn, 1) := by decide +kernel
set_option maxRecDepth 65536 in
set_option maxHeartbeats 40000000 in
theorem own_rnn (l : Launch) (Z : State) (a0 : Array Value) (hw : ∀ d ∈ tables_1, d.before a0 Z = true) (EL : List (String × Nat)) (hEL : EW Z a0 EL) (h0 : Heap) (a m : Addr) :
    Con l Z EL false [] (⟨"java/util/Objects", "requireNonNull", "(Ljava/lang/Object;Ljava/lang/String;)Ljava/lang/Object;"⟩ : MethodName) jdk_31_method_11_code 2 (some (.object "java/lang/Object")) ({ frames := 0, cells := 0, slots := 0, locals := 0 } : Room) #[(.ref a), (.ref m)] h0 (fun v h' => v = some (.ref a) ∧ h0 = h') := by
  refine Con.of (Ls := #[.val (.ref a), .val (.ref m)]) (plainFor_of_name own_pn2) hEL (fun m => by first | (simp [entryFrame, mkF, argsToLocals, Value.category]; done) | rfl) ?_
  intro vm0 hZ0 hE0 hC0 hS0
  refine WP.aloadN (n := 1) dR_0 rfl rfl rfl ?_
  refine WP.ifnonnullY (n := 13) dR_1 (by decide) (by decide) ?_
  refine WP.aloadN (n := 14) dR_13 rfl rfl rfl ?_
  exact WP.retA dR_14 rfl rfl rfl rfl (by decide) (by decide) ⟨rfl, rfl⟩
theorem dIL8_0 : decode jdk_42_method_154_code 0 = .ok (.getstatic 38, 3) := by decide +kernel
theorem dIL8_3 : decode jdk_42_method_154_code 3 = .ok (.ifCond .eq 14, 3) := by decide +kernel
theorem dIL8_6 : decode jdk_42_method_154_code 6 = .ok (.aload_n 0, 1) := by decide +kernel
theorem dIL8_7 : decode jdk_42_method_154_code 7 = .ok (.getfield 15, 3) := by decide +kernel
theorem dIL8_10 : decode jdk_42_method_154_code 10 = .ok (.ifCond .ne 7, 3) := by decide +kernel
theorem dIL8_13 : decode jdk_42_method_154_code 13 = .ok (.iconst 1, 1) := by decide +kernel
theorem dIL8_14 : decode jdk_42_method_154_code 14 = .ok (.goto 4, 3) := by decide +kernel
theorem dIL8_17 : decode jdk_42_method_154_code 17 = .ok (.iconst 0, 1) := by decide +kernel
theorem dIL8_18 : decode jdk_42_method_154_code 18 = .ok (.ireturn, 1) := by decide +kernel
set_option maxRecDepth 65536 in
set_option maxHeartbeats 40000000 in
theorem own_il (l : Launch) (Z : State) (a0 : Array Value) (hw : ∀ d ∈ tables_1, d.before a0 Z = true) (EL : List (String × Nat)) (hEL : EW Z a0 EL) (h0 : Heap) (a : Addr) (F : Fld Z h0 a "java/lang/String" "coder" "B" (.int 0)) (cz : Int32) (O : Sta Z Z.heap "java/lang/String" "COMPACT_STRINGS" "Z" (.int cz)) (hO : ¬ cz = 0) :
    Con l Z EL false [] (⟨"java/lang/String", "isLatin1", "()Z"⟩ : MethodName) jdk_42_method_154_code 1 (some .boolean) ({ frames := 0, cells := 0, slots := 0, locals := 0 } : Room) #[(.ref a)] h0 (fun v h' => v = some (.int 1) ∧ h0 = h') := by
  refine Con.of (Ls := #[.val (.ref a)]) (plainFor_of_name own_pn0) hEL (fun m => by first | (simp [entryFrame, mkF, argsToLocals, Value.category]; done) | rfl) ?_
  intro vm0 hZ0 hE0 hC0 hS0
  refine WP.getSZ (n := 3) dIL8_0 (hw _ (List.mem_of_getElem? (i := 68) rfl)) Via.refl O rfl ?_
  refine WP.ifcN (n' := 6) dIL8_3 ((if0 _ _).trans (feq hO).1) rfl ?_
  refine WP.aloadN (n := 7) dIL8_6 rfl rfl rfl ?_
  refine WP.getF (n := 10) (host := "") dIL8_7 (Or.inl (hw _ (List.mem_of_getElem? (i := 29) rfl))) Via.refl F rfl ?_
  refine WP.ifcN (n' := 13) dIL8_10 (by decide) rfl ?_
  refine WP.iconst (n := 14) (z := (1 : Int32)) dIL8_13 rfl rfl ?_
  refine WP.goto (n := 18) dIL8_14 (by decide) (by decide) ?_
  exact WP.retN dIL8_18 rfl (Or.inl rfl) (by decide : nar .boolean 1 = 1) (by decide) (by decide) ⟨rfl, rfl⟩
theorem dPCI_0 : decode jdk_41_method_11_code 0 = .ok (.iload_n 0, 1) := by decide +kernel
theorem dPCI_1 : decode jdk_41_method_11_code 1 = .ok (.ifCond .lt 8, 3) := by decide +kernel
theorem dPCI_4 : decode jdk_41_method_11_code 4 = .ok (.iload_n 0, 1) := by decide +kernel
theorem dPCI_5 : decode jdk_41_method_11_code 5 = .ok (.iload_n 1, 1) := by decide +kernel
theorem dPCI_6 : decode jdk_41_method_11_code 6 = .ok (.if_icmp .lt 10, 3) := by decide +kernel
theorem dPCI_9 : decode jdk_41_method_11_code 9 = .ok (.aload_n 2, 1) := by decide +kernel
theorem dPCI_10 : decode jdk_41_method_11_code 10 = .ok (.iload_n 0, 1) := by decide +kernel
theorem dPCI_11 : decode jdk_41_method_11_code 11 = .ok (.iload_n 1, 1) := by decide +kernel
theorem dPCI_12 : decode jdk_41_method_11_code 12 = .ok (.invokestatic 95, 3) := by decide +kernel
theorem dPCI_15 : decode jdk_41_method_11_code 15 = .ok (.athrow, 1) := by decide +kernel
theorem dPCI_16 : decode jdk_41_method_11_code 16 = .ok (.iload_n 0, 1) := by decide +kernel
theorem dPCI_17 : decode jdk_41_method_11_code 17 = .ok (.ireturn, 1) := by decide +kernel
set_option maxRecDepth 65536 in
set_option maxHeartbeats 40000000 in
theorem own_pci (l : Launch) (Z : State) (a0 : Array Value) (hw : ∀ d ∈ tables_1, d.before a0 Z = true) (EL : List (String × Nat)) (hEL : EW Z a0 EL) (h0 : Heap) (i z : Int32) (fv : Value) (hv : fv.isRef = true) (h1 : ¬ i < 0) (h2 : i < z) :
    Con l Z EL false [] (⟨"jdk/internal/util/Preconditions", "checkIndex", "(IILjava/util/function/BiFunction;)I"⟩ : MethodName) jdk_41_method_11_code 3 (some .int) ({ frames := 0, cells := 0, slots := 0, locals := 0 } : Room) #[(.int i), (.int z), fv] h0 (fun v h' => v = some (.int i) ∧ h0 = h') := by
  refine Con.of (Ls := #[.val (.int i), .val (.int z), .val fv]) (plainFor_of_name own_pn3) hEL (fun m => by rcases ref_cases hv with rfl | ⟨_, rfl⟩ <;> first | (simp [entryFrame, mkF, argsToLocals, Value.category]; done) | rfl) ?_
  intro vm0 hZ0 hE0 hC0 hS0
  refine WP.iloadN (n := 1) dPCI_0 rfl rfl ?_
  refine WP.ifcN (n' := 4) dPCI_1 ((if0 _ _).trans (flt h1).1) rfl ?_
  refine WP.iloadN (n := 5) dPCI_4 rfl rfl ?_
  refine WP.iloadN (n := 6) dPCI_5 rfl rfl ?_
  refine WP.icmpY (n := 16) dPCI_6 (tlt h2).1 (by decide) (by decide) ?_
  refine WP.iloadN (n := 17) dPCI_16 rfl rfl ?_
  exact WP.retI dPCI_17 rfl (by decide) (by decide) ⟨rfl, rfl⟩
theorem dSCI_0 : decode jdk_42_method_155_code 0 = .ok (.iload_n 0, 1) := by decide +kernel
theorem dSCI_1 : decode jdk_42_method_155_code 1 = .ok (.iload_n 1, 1) := by decide +kernel
theorem dSCI_2 : decode jdk_42_method_155_code 2 = .ok (.getstatic 1053, 3) := by decide +kernel
theorem dSCI_5 : decode jdk_42_method_155_code 5 = .ok (.invokestatic 1059, 3) := by decide +kernel
theorem dSCI_8 : decode jdk_42_method_155_code 8 = .ok (.pop, 1) := by decide +kernel
theorem dSCI_9 : decode jdk_42_method_155_code 9 = .ok (.return_, 1) := by decide +kernel
set_option maxRecDepth 65536 in
set_option maxHeartbeats 40000000 in
theorem own_sci (l : Launch) (Z : State) (a0 : Array Value) (hw : ∀ d ∈ tables_1, d.before a0 Z = true) (EL : List (String × Nat)) (hEL : EW Z a0 EL) (h0 : Heap) (i z : Int32) (fv : Value) (hv : fv.isRef = true) (Fm : Sta Z Z.heap "jdk/internal/util/Preconditions" "SIOOBE_FORMATTER" "Ljava/util/function/BiFunction;" fv) (h1 : ¬ i < 0) (h2 : i < z) :
    Con l Z EL false [] (⟨"java/lang/String", "checkIndex", "(II)V"⟩ : MethodName) jdk_42_method_155_code 2 none ({ frames := 1, cells := 0, slots := 0, locals := 14 } : Room) #[(.int i), (.int z)] h0 (fun v h' => v = none ∧ h0 = h') := by
  refine Con.of (Ls := #[.val (.int i), .val (.int z)]) (plainFor_of_name own_pn0) hEL (fun m => by first | (simp [entryFrame, mkF, argsToLocals, Value.category]; done) | rfl) ?_
  intro vm0 hZ0 hE0 hC0 hS0
  refine WP.iloadN (n := 1) dSCI_0 rfl rfl ?_
  refine WP.iloadN (n := 2) dSCI_1 rfl rfl ?_
  refine WP.getSZ (n := 5) dSCI_2 (hw _ (List.mem_of_getElem? (i := 98) rfl)) Via.refl Fm rfl ?_
  refine WP.callS (n := 8) (ce' := 0) (sl' := 0) (Wd := 0) (argsL := [(.int i), (.int z), fv]) (rest := []) (own_pci l Z a0 hw EL hEL h0 i z fv hv h1 h2) dSCI_5 (hw _ (List.mem_of_getElem? (i := 100) rfl)) (hw _ (List.mem_of_getElem? (i := 101) rfl)) (hw _ (List.mem_of_getElem? (i := 99) rfl)) (hw _ (List.mem_of_getElem? (i := 102) rfl)) (by decide) (fun _ q => nomatch q) (by decide) (by decide) rfl rfl (by decide) (by decide) rfl rfl (lenOf own_pd5 rfl) rfl (Nat.le_of_eq rfl) rfl (fun v15 vm15 h15 q15 r15 => ?_)
  obtain ⟨rfl, rfl⟩ := q15
  refine WP.pop (n := 9) dSCI_8 rfl rfl ?_
  refine WP.retV dSCI_9 rfl (by decide) (by decide) ?_
  exact ⟨rfl, rfl⟩
theorem dLCA_0 : decode jdk_43_method_2_code 0 = .ok (.iload_n 1, 1) := by decide +kernel
theorem dLCA_1 : decode jdk_43_method_2_code 1 = .ok (.aload_n 0, 1) := by decide +kernel
theorem dLCA_2 : decode jdk_43_method_2_code 2 = .ok (.arraylength, 1) := by decide +kernel
theorem dLCA_3 : decode jdk_43_method_2_code 3 = .ok (.invokestatic 9, 3) := by decide +kernel
theorem dLCA_6 : decode jdk_43_method_2_code 6 = .ok (.aload_n 0, 1) := by decide +kernel
theorem dLCA_7 : decode jdk_43_method_2_code 7 = .ok (.iload_n 1, 1) := by decide +kernel
theorem dLCA_8 : decode jdk_43_method_2_code 8 = .ok (.baload, 1) := by decide +kernel
theorem dLCA_9 : decode jdk_43_method_2_code 9 = .ok (.sipush 255, 3) := by decide +kernel
theorem dLCA_12 : decode jdk_43_method_2_code 12 = .ok (.iand, 1) := by decide +kernel
theorem dLCA_13 : decode jdk_43_method_2_code 13 = .ok (.i2c, 1) := by decide +kernel
theorem dLCA_14 : decode jdk_43_method_2_code 14 = .ok (.ireturn, 1) := by decide +kernel
set_option maxRecDepth 65536 in
set_option maxHeartbeats 40000000 in
theorem own_lca (l : Launch) (Z : State) (a0 : Array Value) (hw : ∀ d ∈ tables_1, d.before a0 Z = true) (EL : List (String × Nat)) (hEL : EW Z a0 EL) (h0 : Heap) (b : Addr) (kb : ClassId) (z : Int32) (cs : List Int32) (B : Arv Z h0 b kb .byte z ((cs.map own_b).map Value.int) (.int 0)) (hz : z.toNatClampNeg = (cs.map own_b).length) (hr : Rng cs) (k : Nat) (hk : k < cs.length) (fv : Value) (hv : fv.isRef = true) (Fm : Sta Z Z.heap "jdk/internal/util/Preconditions" "SIOOBE_FORMATTER" "Ljava/util/function/BiFunction;" fv)  :
    Con l Z EL false [] (⟨"java/lang/StringLatin1", "charAt", "([BI)C"⟩ : MethodName) jdk_43_method_2_code 2 (some .char) ({ frames := 2, cells := 0, slots := 0, locals := 28 } : Room) #[(.ref b), (.int (Int32.ofNat k))] h0 (fun v h' => v = some (.int cs[k]) ∧ h0 = h') := by
  refine Con.of (Ls := #[.val (.ref b), .val (.int (Int32.ofNat k))]) (plainFor_of_name own_pn4) hEL (fun m => by first | (simp [entryFrame, mkF, argsToLocals, Value.category]; done) | rfl) ?_
  intro vm0 hZ0 hE0 hC0 hS0
  have hz0 : ¬ z < 0 := by obtain ⟨_, _, _, _, q, _⟩ := B; exact q
  have hzb := own_z hz0
  rw [hz, List.length_map] at hzb
  refine WP.iloadN (n := 1) dLCA_0 rfl rfl ?_
  refine WP.aloadN (n := 2) dLCA_1 rfl rfl rfl ?_
  refine WP.alen (n := 3) dLCA_2 B rfl ?_
  refine WP.callS (n := 6) (ce' := 0) (sl' := 0) (Wd := 0) (argsL := [(.int (Int32.ofNat k)), (.int z)]) (rest := []) (own_sci l Z a0 hw EL hEL h0 (Int32.ofNat k) z fv hv Fm (own_nn (by omega)) (by rw [hzb.1, own_ltN (by omega) hzb.2]; exact hk)) dLCA_3 (hw _ (List.mem_of_getElem? (i := 95) rfl)) (hw _ (List.mem_of_getElem? (i := 96) rfl)) (hw _ (List.mem_of_getElem? (i := 11) rfl)) (hw _ (List.mem_of_getElem? (i := 97) rfl)) (by decide) (fun _ q => nomatch q) (by decide) (by decide) rfl rfl (by decide) (by decide) rfl rfl (lenOf own_pd1 rfl) rfl (Nat.le_of_eq rfl) rfl (fun v16 vm16 h16 q16 r16 => ?_)
  obtain ⟨rfl, rfl⟩ := q16
  refine WP.aloadN (n := 7) dLCA_6 rfl rfl rfl ?_
  refine WP.iloadN (n := 8) dLCA_7 rfl rfl ?_
  refine WP.baload (n := 9) (v := .int (own_b cs[k])) dLCA_8 B ⟨own_nn (by omega), by rw [hzb.1, own_ltN (by omega) hzb.2]; exact hk⟩ (by rw [own_clamp (by omega)]; simp [List.getD_eq_getElem?_getD, hk]) rfl ?_
  refine WP.sipush (n := 12) (z := (255 : Int32)) dLCA_9 (by decide) rfl ?_
  refine WP.iand (n := 13) dLCA_12  rfl ?_
  rw [own_unb (hr.get hk)]
  refine WP.i2c (n := 14) (z := cs[k]) dLCA_13 (own_c16 (hr.get hk)) rfl ?_
  exact WP.retN dLCA_14 rfl (Or.inr (Or.inr (Or.inl rfl))) (own_c16 (hr.get hk)) (by decide) (by decide) ⟨rfl, rfl⟩
theorem dCHA_0 : decode jdk_42_method_56_code 0 = .ok (.aload_n 0, 1) := by decide +kernel
theorem dCHA_1 : decode jdk_42_method_56_code 1 = .ok (.invokevirtual 492, 3) := by decide +kernel
theorem dCHA_4 : decode jdk_42_method_56_code 4 = .ok (.ifCond .eq 12, 3) := by decide +kernel
theorem dCHA_7 : decode jdk_42_method_56_code 7 = .ok (.aload_n 0, 1) := by decide +kernel
theorem dCHA_8 : decode jdk_42_method_56_code 8 = .ok (.getfield 9, 3) := by decide +kernel
theorem dCHA_11 : decode jdk_42_method_56_code 11 = .ok (.iload_n 1, 1) := by decide +kernel
theorem dCHA_12 : decode jdk_42_method_56_code 12 = .ok (.invokestatic 495, 3) := by decide +kernel
theorem dCHA_15 : decode jdk_42_method_56_code 15 = .ok (.ireturn, 1) := by decide +kernel
theorem dCHA_16 : decode jdk_42_method_56_code 16 = .ok (.aload_n 0, 1) := by decide +kernel
theorem dCHA_17 : decode jdk_42_method_56_code 17 = .ok (.getfield 9, 3) := by decide +kernel
theorem dCHA_20 : decode jdk_42_method_56_code 20 = .ok (.iload_n 1, 1) := by decide +kernel
theorem dCHA_21 : decode jdk_42_method_56_code 21 = .ok (.invokestatic 498, 3) := by decide +kernel
theorem dCHA_24 : decode jdk_42_method_56_code 24 = .ok (.ireturn, 1) := by decide +kernel
set_option maxRecDepth 65536 in
set_option maxHeartbeats 40000000 in
theorem own_ca (l : Launch) (Z : State) (a0 : Array Value) (hw : ∀ d ∈ tables_1, d.before a0 Z = true) (EL : List (String × Nat)) (hEL : EW Z a0 EL) (h0 : Heap) (a : Addr) (cs : List Int32) (G : SC Z h0 a cs) (k : Nat) (hk : k < cs.length) (fv : Value) (hv : fv.isRef = true) (Fm : Sta Z Z.heap "jdk/internal/util/Preconditions" "SIOOBE_FORMATTER" "Ljava/util/function/BiFunction;" fv) (cz : Int32) (O : Sta Z Z.heap "java/lang/String" "COMPACT_STRINGS" "Z" (.int cz)) (hO : ¬ cz = 0) :
    Con l Z EL false [] (⟨"java/lang/String", "charAt", "(I)C"⟩ : MethodName) jdk_42_method_56_code 2 (some .char) ({ frames := 3, cells := 0, slots := 0, locals := 43 } : Room) #[(.ref a), (.int (Int32.ofNat k))] h0 (fun v h' => v = some (.int cs[k]) ∧ h0 = h') := by
  refine Con.of (Ls := #[.val (.ref a), .val (.int (Int32.ofNat k))]) (plainFor_of_name own_pn0) hEL (fun m => by first | (simp [entryFrame, mkF, argsToLocals, Value.category]; done) | rfl) ?_
  intro vm0 hZ0 hE0 hC0 hS0
  obtain ⟨⟨f1, f2, b, kb, z, f3, f4, f5⟩, hr, hl⟩ := G
  refine WP.aloadN (n := 1) dCHA_0 rfl rfl rfl ?_
  refine WP.callV (n := 4) (ce' := 0) (sl' := 0) (Wd := 0) (a := a) (argsL := []) (rest := []) (own_il l Z a0 hw EL hEL h0 a f2 cz O hO) f1 dCHA_1 (hw _ (List.mem_of_getElem? (i := 86) rfl)) (hw _ (List.mem_of_getElem? (i := 87) rfl)) (hw _ (List.mem_of_getElem? (i := 89) rfl)) (hw _ (List.mem_of_getElem? (i := 88) rfl)) (hw _ (List.mem_of_getElem? (i := 11) rfl)) (hw _ (List.mem_of_getElem? (i := 90) rfl)) (by decide) (fun _ hz => notFace_of_selects (args := #[]) (mvT hz (hw _ (List.mem_of_getElem? (i := 89) rfl)))) (fun _ q => nomatch q) (by decide) (by decide) rfl rfl (by decide) (by decide) rfl rfl (lenOf own_pd6 rfl) rfl (Nat.le_of_eq rfl) rfl (fun v17 vm17 h17 q17 r17 => ?_)
  obtain ⟨rfl, rfl⟩ := q17
  refine WP.ifcN (n' := 7) dCHA_4 (by decide) rfl ?_
  refine WP.aloadN (n := 8) dCHA_7 rfl rfl rfl ?_
  refine WP.getF (n := 11) (host := "") dCHA_8 (Or.inl (hw _ (List.mem_of_getElem? (i := 28) rfl))) Via.refl f3 rfl ?_
  refine WP.iloadN (n := 12) dCHA_11 rfl rfl ?_
  refine WP.callS (n := 15) (ce' := 0) (sl' := 0) (Wd := 0) (argsL := [(.ref b), (.int (Int32.ofNat k))]) (rest := []) (own_lca l Z a0 hw EL hEL h0 b kb z cs f4 f5 hr k hk fv hv Fm) dCHA_12 (hw _ (List.mem_of_getElem? (i := 91) rfl)) (hw _ (List.mem_of_getElem? (i := 92) rfl)) (hw _ (List.mem_of_getElem? (i := 93) rfl)) (hw _ (List.mem_of_getElem? (i := 94) rfl)) (by decide) (fun _ q => nomatch q) (by decide) (by decide) rfl rfl (by decide) (by decide) rfl rfl (lenOf own_pd7 rfl) rfl (Nat.le_of_eq rfl) rfl (fun v18 vm18 h18 q18 r18 => ?_)
  obtain ⟨rfl, rfl⟩ := q18
  exact WP.retN dCHA_15 rfl (Or.inr (Or.inr (Or.inl rfl))) (own_c16 (hr.get hk)) (by decide) (by decide) ⟨rfl, rfl⟩
theorem dCEI_0 : decode jdk_43_method_4_code 0 = .ok (.iload_n 0, 1) := by decide +kernel
theorem dCEI_1 : decode jdk_43_method_4_code 1 = .ok (.ifCond .lt 14, 3) := by decide +kernel
theorem dCEI_4 : decode jdk_43_method_4_code 4 = .ok (.iload_n 0, 1) := by decide +kernel
theorem dCEI_5 : decode jdk_43_method_4_code 5 = .ok (.sipush 255, 3) := by decide +kernel
theorem dCEI_8 : decode jdk_43_method_4_code 8 = .ok (.if_icmp .gt 7, 3) := by decide +kernel
theorem dCEI_11 : decode jdk_43_method_4_code 11 = .ok (.iconst 1, 1) := by decide +kernel
theorem dCEI_12 : decode jdk_43_method_4_code 12 = .ok (.goto 4, 3) := by decide +kernel
theorem dCEI_15 : decode jdk_43_method_4_code 15 = .ok (.iconst 0, 1) := by decide +kernel
theorem dCEI_16 : decode jdk_43_method_4_code 16 = .ok (.ireturn, 1) := by decide +kernel
set_option maxRecDepth 65536 in
set_option maxHeartbeats 40000000 in
theorem own_cei (l : Launch) (Z : State) (a0 : Array Value) (hw : ∀ d ∈ tables_1, d.before a0 Z = true) (EL : List (String × Nat)) (hEL : EW Z a0 EL) (h0 : Heap) (c : Int32) (hc : ¬ c < 0 ∧ ¬ (255 : Int32) < c) :
    Con l Z EL false [] (⟨"java/lang/StringLatin1", "canEncode", "(I)Z"⟩ : MethodName) jdk_43_method_4_code 1 (some .boolean) ({ frames := 0, cells := 0, slots := 0, locals := 0 } : Room) #[(.int c)] h0 (fun v h' => v = some (.int 1) ∧ h0 = h') := by
  refine Con.of (Ls := #[.val (.int c)]) (plainFor_of_name own_pn4) hEL (fun m => by first | (simp [entryFrame, mkF, argsToLocals, Value.category]; done) | rfl) ?_
  intro vm0 hZ0 hE0 hC0 hS0
  refine WP.iloadN (n := 1) dCEI_0 rfl rfl ?_
  refine WP.ifcN (n' := 4) dCEI_1 ((if0 _ _).trans (flt hc.1).1) rfl ?_
  refine WP.iloadN (n := 5) dCEI_4 rfl rfl ?_
  refine WP.sipush (n := 8) (z := (255 : Int32)) dCEI_5 (by decide) rfl ?_
  refine WP.icmpN (n' := 11) dCEI_8 (flt hc.2).2.2.1 rfl ?_
  refine WP.iconst (n := 12) (z := (1 : Int32)) dCEI_11 rfl rfl ?_
  refine WP.goto (n := 16) dCEI_12 (by decide) (by decide) ?_
  exact WP.retN dCEI_16 rfl (Or.inl rfl) (by decide : nar .boolean 1 = 1) (by decide) (by decide) ⟨rfl, rfl⟩
theorem dMAX_0 : decode jdk_29_method_65_code 0 = .ok (.iload_n 0, 1) := by decide +kernel
theorem dMAX_1 : decode jdk_29_method_65_code 1 = .ok (.iload_n 1, 1) := by decide +kernel
theorem dMAX_2 : decode jdk_29_method_65_code 2 = .ok (.if_icmp .lt 7, 3) := by decide +kernel
theorem dMAX_5 : decode jdk_29_method_65_code 5 = .ok (.iload_n 0, 1) := by decide +kernel
theorem dMAX_6 : decode jdk_29_method_65_code 6 = .ok (.goto 4, 3) := by decide +kernel
theorem dMAX_9 : decode jdk_29_method_65_code 9 = .ok (.iload_n 1, 1) := by decide +kernel
theorem dMAX_10 : decode jdk_29_method_65_code 10 = .ok (.ireturn, 1) := by decide +kernel
set_option maxRecDepth 65536 in
set_option maxHeartbeats 40000000 in
theorem own_max (l : Launch) (Z : State) (a0 : Array Value) (hw : ∀ d ∈ tables_1, d.before a0 Z = true) (EL : List (String × Nat)) (hEL : EW Z a0 EL) (h0 : Heap) (x y : Int32) (hx : ¬ x < y) :
    Con l Z EL false [] (⟨"java/lang/Math", "max", "(II)I"⟩ : MethodName) jdk_29_method_65_code 2 (some .int) ({ frames := 0, cells := 0, slots := 0, locals := 0 } : Room) #[(.int x), (.int y)] h0 (fun v h' => v = some (.int x) ∧ h0 = h') := by
  refine Con.of (Ls := #[.val (.int x), .val (.int y)]) (by decide +kernel) hEL (fun m => by first | (simp [entryFrame, mkF, argsToLocals, Value.category]; done) | rfl) ?_
  intro vm0 hZ0 hE0 hC0 hS0
  refine WP.iloadN (n := 1) dMAX_0 rfl rfl ?_
  refine WP.iloadN (n := 2) dMAX_1 rfl rfl ?_
  refine WP.icmpN (n' := 5) dMAX_2 (flt hx).1 rfl ?_
  refine WP.iloadN (n := 6) dMAX_5 rfl rfl ?_
  refine WP.goto (n := 10) dMAX_6 (by decide) (by decide) ?_
  exact WP.retI dMAX_10 rfl (by decide) (by decide) ⟨rfl, rfl⟩
theorem dIOC_0 : decode jdk_43_method_23_code 0 = .ok (.iload_n 1, 1) := by decide +kernel
theorem dIOC_1 : decode jdk_43_method_23_code 1 = .ok (.i2b, 1) := by decide +kernel
theorem dIOC_2 : decode jdk_43_method_23_code 2 = .ok (.istore 4, 2) := by decide +kernel
theorem dIOC_4 : decode jdk_43_method_23_code 4 = .ok (.iload_n 2, 1) := by decide +kernel
theorem dIOC_5 : decode jdk_43_method_23_code 5 = .ok (.istore 5, 2) := by decide +kernel
theorem dIOC_7 : decode jdk_43_method_23_code 7 = .ok (.iload 5, 2) := by decide +kernel
theorem dIOC_9 : decode jdk_43_method_23_code 9 = .ok (.iload_n 3, 1) := by decide +kernel
theorem dIOC_10 : decode jdk_43_method_23_code 10 = .ok (.if_icmp .ge 21, 3) := by decide +kernel
theorem dIOC_13 : decode jdk_43_method_23_code 13 = .ok (.aload_n 0, 1) := by decide +kernel
theorem dIOC_14 : decode jdk_43_method_23_code 14 = .ok (.iload 5, 2) := by decide +kernel
theorem dIOC_16 : decode jdk_43_method_23_code 16 = .ok (.baload, 1) := by decide +kernel
theorem dIOC_17 : decode jdk_43_method_23_code 17 = .ok (.iload 4, 2) := by decide +kernel
theorem dIOC_19 : decode jdk_43_method_23_code 19 = .ok (.if_icmp .ne 6, 3) := by decide +kernel
theorem dIOC_22 : decode jdk_43_method_23_code 22 = .ok (.iload 5, 2) := by decide +kernel
theorem dIOC_24 : decode jdk_43_method_23_code 24 = .ok (.ireturn, 1) := by decide +kernel
theorem dIOC_25 : decode jdk_43_method_23_code 25 = .ok (.iinc 5 1, 3) := by decide +kernel
theorem dIOC_28 : decode jdk_43_method_23_code 28 = .ok (.goto (-21), 3) := by decide +kernel
theorem dIOC_31 : decode jdk_43_method_23_code 31 = .ok (.iconst (-1), 1) := by decide +kernel
theorem dIOC_32 : decode jdk_43_method_23_code 32 = .ok (.ireturn, 1) := by decide +kernel
set_option maxRecDepth 65536 in
set_option maxHeartbeats 40000000 in
theorem own_ioc (l : Launch) (Z : State) (a0 : Array Value) (hw : ∀ d ∈ tables_1, d.before a0 Z = true) (EL : List (String × Nat)) (hEL : EW Z a0 EL) (h0 : Heap) (b : Addr) (kb : ClassId) (z : Int32) (cs : List Int32) (B : Arv Z h0 b kb .byte z ((cs.map own_b).map Value.int) (.int 0)) (hz : z.toNatClampNeg = (cs.map own_b).length) (hr : Rng cs) (ch : Int32) (hch : ¬ ch < 0 ∧ ¬ (255 : Int32) < ch) (k : Nat) (hk : k ≤ cs.length) :
    Con l Z EL false [] (⟨"java/lang/StringLatin1", "indexOfChar", "([BIII)I"⟩ : MethodName) jdk_43_method_23_code 6 (some .int) ({ frames := 0, cells := 0, slots := 0, locals := 0 } : Room) #[(.ref b), (.int ch), (.int (Int32.ofNat k)), (.int (Int32.ofNat cs.length))] h0 (fun v h' => v = some (.int (own_find cs ch (cs.length - k) k)) ∧ h0 = h') := by
  refine Con.of (Ls := #[.val (.ref b), .val (.int ch), .val (.int (Int32.ofNat k)), .val (.int (Int32.ofNat cs.length)), .unset, .unset]) (plainFor_of_name own_pn4) hEL (fun m => by first | (simp [entryFrame, mkF, argsToLocals, Value.category]; done) | rfl) ?_
  intro vm0 hZ0 hE0 hC0 hS0
  have hz0 : ¬ z < 0 := by obtain ⟨_, _, _, _, q, _⟩ := B; exact q
  have hzb := own_z hz0
  rw [hz, List.length_map] at hzb
  have loop : ∀ r j, j + r = cs.length → own_find cs ch (cs.length - k) k = own_find cs ch r j → WP l Z EL false "java/lang/StringLatin1" "indexOfChar" jdk_43_method_23_code 6 (some .int) ({ frames := 0, cells := 0, slots := 0, locals := 0 } : Room) (fun v h' => v = some (.int (own_find cs ch (cs.length - k) k)) ∧ h0 = h') vm0 h0 0 0 7 #[.val (.ref b), .val (.int ch), .val (.int (Int32.ofNat k)), .val (.int (Int32.ofNat cs.length)), .val (.int (ch.toInt8.toInt32)), .val (.int (Int32.ofNat j))] [] := by
    intro r
    induction r with
    | zero =>
      intro j hj he
      refine WP.iload (n := 9) dIOC_7 rfl rfl ?_
      refine WP.iloadN (n := 10) dIOC_9 rfl rfl ?_
      refine WP.icmpY (n := 31) dIOC_10 (flt (by rw [own_ltN (by omega) (by omega)]; omega)).2.1 (by decide) (by decide) ?_
      refine WP.iconst (n := 32) (z := (-1 : Int32)) dIOC_31 rfl rfl ?_
      exact WP.retI dIOC_32 rfl (by decide) (by decide) ⟨by rw [he]; rfl, rfl⟩
    | succ r ih =>
      intro j hj he
      have jl : j < cs.length := by omega
      refine WP.iload (n := 9) dIOC_7 rfl rfl ?_
      refine WP.iloadN (n := 10) dIOC_9 rfl rfl ?_
      refine WP.icmpN (n' := 13) dIOC_10 (tlt (by rw [own_ltN (by omega) (by omega)]; omega)).2.1 rfl ?_
      refine WP.aloadN (n := 14) dIOC_13 rfl rfl rfl ?_
      refine WP.iload (n := 16) dIOC_14 rfl rfl ?_
      refine WP.baload (n := 17) (v := .int (own_b cs[j])) dIOC_16 B ⟨own_nn (by omega), by rw [hzb.1, own_ltN (by omega) hzb.2]; exact jl⟩ (by rw [own_clamp (by omega)]; simp [List.getD_eq_getElem?_getD, jl]) rfl ?_
      refine WP.iload (n := 19) dIOC_17 rfl rfl ?_
      refine WP.icmp_ne (n := 25) (n' := 22) dIOC_19 (by decide) (by decide) rfl (fun b19 => ?_) (fun b19 => ?_)
      · refine WP.iinc (n := 28) (z := Int32.ofNat (j + 1)) (Ls' := #[.val (.ref b), .val (.int ch), .val (.int (Int32.ofNat k)), .val (.int (Int32.ofNat cs.length)), .val (.int (ch.toInt8.toInt32)), .val (.int (Int32.ofNat (j + 1)))]) dIOC_25 rfl (own_inc (by omega)) rfl rfl ?_
        refine WP.goto (n := 7) dIOC_28 (by decide) (by decide) ?_
        refine ih (j + 1) (by omega) ?_
        rw [he]
        have hne : ¬ cs.getD j 0 = ch := by rw [List.getD_eq_getElem?_getD, List.getElem?_eq_getElem jl]; exact fun e => b19 ((own_binj (hr.get jl) hch).mpr e)
        simp only [own_find]; rw [if_neg hne]
      · refine WP.iload (n := 24) dIOC_22 rfl rfl ?_
        have heq : cs.getD j 0 = ch := by rw [List.getD_eq_getElem?_getD, List.getElem?_eq_getElem jl]; exact (own_binj (hr.get jl) hch).mp b19
        exact WP.retI dIOC_24 rfl (by decide) (by decide) ⟨by rw [he]; simp only [own_find]; rw [if_pos heq], rfl⟩
  refine WP.iloadN (n := 1) dIOC_0 rfl rfl ?_
  refine WP.i2b (n := 2) dIOC_1  rfl ?_
  refine WP.istore (n := 4) (Ls' := #[.val (.ref b), .val (.int ch), .val (.int (Int32.ofNat k)), .val (.int (Int32.ofNat cs.length)), .val (.int (ch.toInt8.toInt32)), .unset]) dIOC_2 rfl rfl ?_
  refine WP.iloadN (n := 5) dIOC_4 rfl rfl ?_
  refine WP.istore (n := 7) (Ls' := #[.val (.ref b), .val (.int ch), .val (.int (Int32.ofNat k)), .val (.int (Int32.ofNat cs.length)), .val (.int (ch.toInt8.toInt32)), .val (.int (Int32.ofNat k))]) dIOC_5 rfl rfl ?_
  exact loop (cs.length - k) k (by omega) rfl
theorem dLIX_0 : decode jdk_43_method_22_code 0 = .ok (.iload_n 1, 1) := by decide +kernel
theorem dLIX_1 : decode jdk_43_method_22_code 1 = .ok (.invokestatic 88, 3) := by decide +kernel
theorem dLIX_4 : decode jdk_43_method_22_code 4 = .ok (.ifCond .ne 5, 3) := by decide +kernel
theorem dLIX_7 : decode jdk_43_method_22_code 7 = .ok (.iconst (-1), 1) := by decide +kernel
theorem dLIX_8 : decode jdk_43_method_22_code 8 = .ok (.ireturn, 1) := by decide +kernel
theorem dLIX_9 : decode jdk_43_method_22_code 9 = .ok (.iload_n 2, 1) := by decide +kernel
theorem dLIX_10 : decode jdk_43_method_22_code 10 = .ok (.iconst 0, 1) := by decide +kernel
theorem dLIX_11 : decode jdk_43_method_22_code 11 = .ok (.invokestatic 92, 3) := by decide +kernel
theorem dLIX_14 : decode jdk_43_method_22_code 14 = .ok (.istore_n 2, 1) := by decide +kernel
theorem dLIX_15 : decode jdk_43_method_22_code 15 = .ok (.iload_n 3, 1) := by decide +kernel
theorem dLIX_16 : decode jdk_43_method_22_code 16 = .ok (.aload_n 0, 1) := by decide +kernel
theorem dLIX_17 : decode jdk_43_method_22_code 17 = .ok (.arraylength, 1) := by decide +kernel
theorem dLIX_18 : decode jdk_43_method_22_code 18 = .ok (.invokestatic 38, 3) := by decide +kernel
theorem dLIX_21 : decode jdk_43_method_22_code 21 = .ok (.istore_n 3, 1) := by decide +kernel
theorem dLIX_22 : decode jdk_43_method_22_code 22 = .ok (.iload_n 2, 1) := by decide +kernel
theorem dLIX_23 : decode jdk_43_method_22_code 23 = .ok (.iload_n 3, 1) := by decide +kernel
theorem dLIX_24 : decode jdk_43_method_22_code 24 = .ok (.if_icmp .lt 5, 3) := by decide +kernel
theorem dLIX_27 : decode jdk_43_method_22_code 27 = .ok (.iconst (-1), 1) := by decide +kernel
theorem dLIX_28 : decode jdk_43_method_22_code 28 = .ok (.ireturn, 1) := by decide +kernel
theorem dLIX_29 : decode jdk_43_method_22_code 29 = .ok (.aload_n 0, 1) := by decide +kernel
theorem dLIX_30 : decode jdk_43_method_22_code 30 = .ok (.iload_n 1, 1) := by decide +kernel
theorem dLIX_31 : decode jdk_43_method_22_code 31 = .ok (.iload_n 2, 1) := by decide +kernel
theorem dLIX_32 : decode jdk_43_method_22_code 32 = .ok (.iload_n 3, 1) := by decide +kernel
theorem dLIX_33 : decode jdk_43_method_22_code 33 = .ok (.invokestatic 95, 3) := by decide +kernel
theorem dLIX_36 : decode jdk_43_method_22_code 36 = .ok (.ireturn, 1) := by decide +kernel
set_option maxRecDepth 65536 in
set_option maxHeartbeats 40000000 in
theorem own_lix (l : Launch) (Z : State) (a0 : Array Value) (hw : ∀ d ∈ tables_1, d.before a0 Z = true) (EL : List (String × Nat)) (hEL : EW Z a0 EL) (h0 : Heap) (b : Addr) (kb : ClassId) (z : Int32) (cs : List Int32) (B : Arv Z h0 b kb .byte z ((cs.map own_b).map Value.int) (.int 0)) (hz : z.toNatClampNeg = (cs.map own_b).length) (hr : Rng cs) (ch : Int32) (hch : ¬ ch < 0 ∧ ¬ (255 : Int32) < ch) (k : Nat) (hk : k ≤ cs.length) :
    Con l Z EL false [] (⟨"java/lang/StringLatin1", "indexOf", "([BIII)I"⟩ : MethodName) jdk_43_method_22_code 4 (some .int) ({ frames := 1, cells := 0, slots := 0, locals := 20 } : Room) #[(.ref b), (.int ch), (.int (Int32.ofNat k)), (.int (Int32.ofNat cs.length))] h0 (fun v h' => v = some (.int (own_find cs ch (cs.length - k) k)) ∧ h0 = h') := by
  refine Con.of (Ls := #[.val (.ref b), .val (.int ch), .val (.int (Int32.ofNat k)), .val (.int (Int32.ofNat cs.length))]) (plainFor_of_name own_pn4) hEL (fun m => by first | (simp [entryFrame, mkF, argsToLocals, Value.category]; done) | rfl) ?_
  intro vm0 hZ0 hE0 hC0 hS0
  have hz0 : ¬ z < 0 := by obtain ⟨_, _, _, _, q, _⟩ := B; exact q
  have hzb := own_z hz0
  rw [hz, List.length_map] at hzb
  refine WP.iloadN (n := 1) dLIX_0 rfl rfl ?_
  refine WP.callS (n := 4) (ce' := 0) (sl' := 0) (Wd := 0) (argsL := [(.int ch)]) (rest := []) (own_cei l Z a0 hw EL hEL h0 ch hch) dLIX_1 (hw _ (List.mem_of_getElem? (i := 112) rfl)) (hw _ (List.mem_of_getElem? (i := 113) rfl)) (hw _ (List.mem_of_getElem? (i := 93) rfl)) (hw _ (List.mem_of_getElem? (i := 114) rfl)) (by decide) (fun _ q => nomatch q) (by decide) (by decide) rfl rfl (by decide) (by decide) rfl rfl (lenOf own_pd8 rfl) rfl (Nat.le_of_eq rfl) rfl (fun v20 vm20 h20 q20 r20 => ?_)
  obtain ⟨rfl, rfl⟩ := q20
  refine WP.ifcY (n := 9) dLIX_4 (by decide) (by decide) (by decide) ?_
  refine WP.iloadN (n := 10) dLIX_9 rfl rfl ?_
  refine WP.iconst (n := 11) (z := (0 : Int32)) dLIX_10 rfl rfl ?_
  refine WP.callS (n := 14) (ce' := 0) (sl' := 0) (Wd := 0) (argsL := [(.int (Int32.ofNat k)), (.int (0 : Int32))]) (rest := []) (own_max l Z a0 hw EL hEL h0 (Int32.ofNat k) 0 (own_nn (by omega))) dLIX_11 (hw _ (List.mem_of_getElem? (i := 115) rfl)) (hw _ (List.mem_of_getElem? (i := 116) rfl)) (hw _ (List.mem_of_getElem? (i := 117) rfl)) (hw _ (List.mem_of_getElem? (i := 118) rfl)) (by decide) (fun _ q => nomatch q) (by decide) (by decide) rfl rfl (by decide) (by decide) rfl rfl (lenOf own_pd2 rfl) rfl (Nat.le_of_eq rfl) rfl (fun v21 vm21 h21 q21 r21 => ?_)
  obtain ⟨rfl, rfl⟩ := q21
  refine WP.istoreN (n := 15) (Ls' := #[.val (.ref b), .val (.int ch), .val (.int (Int32.ofNat k)), .val (.int (Int32.ofNat cs.length))]) dLIX_14 rfl rfl ?_
  refine WP.iloadN (n := 16) dLIX_15 rfl rfl ?_
  refine WP.aloadN (n := 17) dLIX_16 rfl rfl rfl ?_
  refine WP.alen (n := 18) dLIX_17 B rfl ?_
  rw [hzb.1]
  refine WP.callS (n := 21) (ce' := 0) (sl' := 0) (Wd := 0) (argsL := [(.int (Int32.ofNat cs.length)), (.int (Int32.ofNat cs.length))]) (rest := []) (own_min l Z a0 hw EL hEL h0 (Int32.ofNat cs.length) (Int32.ofNat cs.length)) dLIX_18 (hw _ (List.mem_of_getElem? (i := 119) rfl)) (hw _ (List.mem_of_getElem? (i := 120) rfl)) (hw _ (List.mem_of_getElem? (i := 117) rfl)) (hw _ (List.mem_of_getElem? (i := 121) rfl)) (by decide) (fun _ q => nomatch q) (by decide) (by decide) rfl rfl (by decide) (by decide) rfl rfl (lenOf own_pd2 rfl) rfl (Nat.le_of_eq rfl) rfl (fun v22 vm22 h22 q22 r22 => ?_)
  obtain ⟨rfl, rfl⟩ := q22
  rw [own_mnN hzb.2 (Nat.le_refl _)]
  refine WP.istoreN (n := 22) (Ls' := #[.val (.ref b), .val (.int ch), .val (.int (Int32.ofNat k)), .val (.int (Int32.ofNat cs.length))]) dLIX_21 rfl rfl ?_
  refine WP.iloadN (n := 23) dLIX_22 rfl rfl ?_
  refine WP.iloadN (n := 24) dLIX_23 rfl rfl ?_
  refine WP.icmp_lt (n := 29) (n' := 27) dLIX_24 (by decide) (by decide) rfl (fun b23 => ?_) (fun b23 => ?_)
  · refine WP.aloadN (n := 30) dLIX_29 rfl rfl rfl ?_
    refine WP.iloadN (n := 31) dLIX_30 rfl rfl ?_
    refine WP.iloadN (n := 32) dLIX_31 rfl rfl ?_
    refine WP.iloadN (n := 33) dLIX_32 rfl rfl ?_
    refine WP.callS (n := 36) (ce' := 0) (sl' := 0) (Wd := 0) (argsL := [(.ref b), (.int ch), (.int (Int32.ofNat k)), (.int (Int32.ofNat cs.length))]) (rest := []) (own_ioc l Z a0 hw EL hEL h0 b kb z cs B hz hr ch hch k hk) dLIX_33 (hw _ (List.mem_of_getElem? (i := 122) rfl)) (hw _ (List.mem_of_getElem? (i := 123) rfl)) (hw _ (List.mem_of_getElem? (i := 93) rfl)) (hw _ (List.mem_of_getElem? (i := 124) rfl)) (by decide) (fun _ q => nomatch q) (by decide) (by decide) rfl rfl (by decide) (by decide) rfl rfl (lenOf own_pd9 rfl) rfl (Nat.le_of_eq rfl) rfl (fun v24 vm24 h24 q24 r24 => ?_)
    obtain ⟨rfl, rfl⟩ := q24
    exact WP.retI dLIX_36 rfl (by decide) (by decide) ⟨rfl, rfl⟩
  · refine WP.iconst (n := 28) (z := (-1 : Int32)) dLIX_27 rfl rfl ?_
    exact WP.retI dLIX_28 rfl (by decide) (by decide) ⟨by rw [own_ltN (by omega) hzb.2] at b23; rw [show cs.length - k = 0 by omega]; rfl, rfl⟩
theorem dIXO_0 : decode jdk_42_method_80_code 0 = .ok (.aload_n 0, 1) := by decide +kernel
theorem dIXO_1 : decode jdk_42_method_80_code 1 = .ok (.invokevirtual 492, 3) := by decide +kernel
theorem dIXO_4 : decode jdk_42_method_80_code 4 = .ok (.ifCond .eq 19, 3) := by decide +kernel
theorem dIXO_7 : decode jdk_42_method_80_code 7 = .ok (.aload_n 0, 1) := by decide +kernel
theorem dIXO_8 : decode jdk_42_method_80_code 8 = .ok (.getfield 9, 3) := by decide +kernel
theorem dIXO_11 : decode jdk_42_method_80_code 11 = .ok (.iload_n 1, 1) := by decide +kernel
theorem dIXO_12 : decode jdk_42_method_80_code 12 = .ok (.iload_n 2, 1) := by decide +kernel
theorem dIXO_13 : decode jdk_42_method_80_code 13 = .ok (.aload_n 0, 1) := by decide +kernel
theorem dIXO_14 : decode jdk_42_method_80_code 14 = .ok (.invokevirtual 505, 3) := by decide +kernel
theorem dIXO_17 : decode jdk_42_method_80_code 17 = .ok (.invokestatic 637, 3) := by decide +kernel
theorem dIXO_20 : decode jdk_42_method_80_code 20 = .ok (.goto 16, 3) := by decide +kernel
theorem dIXO_23 : decode jdk_42_method_80_code 23 = .ok (.aload_n 0, 1) := by decide +kernel
theorem dIXO_24 : decode jdk_42_method_80_code 24 = .ok (.getfield 9, 3) := by decide +kernel
theorem dIXO_27 : decode jdk_42_method_80_code 27 = .ok (.iload_n 1, 1) := by decide +kernel
theorem dIXO_28 : decode jdk_42_method_80_code 28 = .ok (.iload_n 2, 1) := by decide +kernel
theorem dIXO_29 : decode jdk_42_method_80_code 29 = .ok (.aload_n 0, 1) := by decide +kernel
theorem dIXO_30 : decode jdk_42_method_80_code 30 = .ok (.invokevirtual 505, 3) := by decide +kernel
theorem dIXO_33 : decode jdk_42_method_80_code 33 = .ok (.invokestatic 640, 3) := by decide +kernel
theorem dIXO_36 : decode jdk_42_method_80_code 36 = .ok (.ireturn, 1) := by decide +kernel
set_option maxRecDepth 65536 in
set_option maxHeartbeats 40000000 in
theorem own_ixo (l : Launch) (Z : State) (a0 : Array Value) (hw : ∀ d ∈ tables_1, d.before a0 Z = true) (EL : List (String × Nat)) (hEL : EW Z a0 EL) (h0 : Heap) (a : Addr) (cs : List Int32) (G : SC Z h0 a cs) (ch : Int32) (hch : ¬ ch < 0 ∧ ¬ (255 : Int32) < ch) (k : Nat) (hk : k ≤ cs.length) (cz : Int32) (O : Sta Z Z.heap "java/lang/String" "COMPACT_STRINGS" "Z" (.int cz)) (hO : ¬ cz = 0) :
    Con l Z EL false [] (⟨"java/lang/String", "indexOf", "(II)I"⟩ : MethodName) jdk_42_method_80_code 3 (some .int) ({ frames := 2, cells := 0, slots := 0, locals := 40 } : Room) #[(.ref a), (.int ch), (.int (Int32.ofNat k))] h0 (fun v h' => v = some (.int (own_find cs ch (cs.length - k) k)) ∧ h0 = h') := by
  refine Con.of (Ls := #[.val (.ref a), .val (.int ch), .val (.int (Int32.ofNat k))]) (plainFor_of_name own_pn0) hEL (fun m => by first | (simp [entryFrame, mkF, argsToLocals, Value.category]; done) | rfl) ?_
  intro vm0 hZ0 hE0 hC0 hS0
  obtain ⟨⟨f1, f2, b, kb, z, f3, f4, f5⟩, hr, hl⟩ := id G
  refine WP.aloadN (n := 1) dIXO_0 rfl rfl rfl ?_
  refine WP.callV (n := 4) (ce' := 0) (sl' := 0) (Wd := 0) (a := a) (argsL := []) (rest := []) (own_il l Z a0 hw EL hEL h0 a f2 cz O hO) f1 dIXO_1 (hw _ (List.mem_of_getElem? (i := 86) rfl)) (hw _ (List.mem_of_getElem? (i := 87) rfl)) (hw _ (List.mem_of_getElem? (i := 89) rfl)) (hw _ (List.mem_of_getElem? (i := 88) rfl)) (hw _ (List.mem_of_getElem? (i := 11) rfl)) (hw _ (List.mem_of_getElem? (i := 90) rfl)) (by decide) (fun _ hz => notFace_of_selects (args := #[]) (mvT hz (hw _ (List.mem_of_getElem? (i := 89) rfl)))) (fun _ q => nomatch q) (by decide) (by decide) rfl rfl (by decide) (by decide) rfl rfl (lenOf own_pd6 rfl) rfl (Nat.le_of_eq rfl) rfl (fun v25 vm25 h25 q25 r25 => ?_)
  obtain ⟨rfl, rfl⟩ := q25
  refine WP.ifcN (n' := 7) dIXO_4 (by decide) rfl ?_
  refine WP.aloadN (n := 8) dIXO_7 rfl rfl rfl ?_
  refine WP.getF (n := 11) (host := "") dIXO_8 (Or.inl (hw _ (List.mem_of_getElem? (i := 28) rfl))) Via.refl f3 rfl ?_
  refine WP.iloadN (n := 12) dIXO_11 rfl rfl ?_
  refine WP.iloadN (n := 13) dIXO_12 rfl rfl ?_
  refine WP.aloadN (n := 14) dIXO_13 rfl rfl rfl ?_
  refine WP.callV (n := 17) (ce' := 0) (sl' := 0) (Wd := 3) (a := a) (argsL := []) (rest := [(.int (Int32.ofNat k)), (.int ch), (.ref b)]) (own_len l Z a0 hw EL hEL h0 a (cs.map own_b) G.1 cz O hO) f1 dIXO_14 (hw _ (List.mem_of_getElem? (i := 108) rfl)) (hw _ (List.mem_of_getElem? (i := 59) rfl)) (hw _ (List.mem_of_getElem? (i := 61) rfl)) (hw _ (List.mem_of_getElem? (i := 60) rfl)) (hw _ (List.mem_of_getElem? (i := 11) rfl)) (hw _ (List.mem_of_getElem? (i := 62) rfl)) (by decide) (fun _ hz => notFace_of_selects (args := #[]) (mvT hz (hw _ (List.mem_of_getElem? (i := 61) rfl)))) (fun _ q => nomatch q) (by decide) (by decide) rfl rfl (by decide) (by decide) rfl rfl (lenOf own_pd10 rfl) rfl (Nat.le_of_eq rfl) rfl (fun v26 vm26 h26 q26 r26 => ?_)
  obtain ⟨rfl, rfl⟩ := q26
  rw [List.length_map]
  refine WP.callS (n := 20) (ce' := 0) (sl' := 0) (Wd := 0) (argsL := [(.ref b), (.int ch), (.int (Int32.ofNat k)), (.int (Int32.ofNat cs.length))]) (rest := []) (own_lix l Z a0 hw EL hEL h0 b kb z cs f4 f5 hr ch hch k hk) dIXO_17 (hw _ (List.mem_of_getElem? (i := 109) rfl)) (hw _ (List.mem_of_getElem? (i := 110) rfl)) (hw _ (List.mem_of_getElem? (i := 93) rfl)) (hw _ (List.mem_of_getElem? (i := 111) rfl)) (by decide) (fun _ q => nomatch q) (by decide) (by decide) rfl rfl (by decide) (by decide) rfl rfl (lenOf own_pd9 rfl) rfl (Nat.le_of_eq rfl) rfl (fun v27 vm27 h27 q27 r27 => ?_)
  obtain ⟨rfl, rfl⟩ := q27
  refine WP.goto (n := 36) dIXO_20 (by decide) (by decide) ?_
  exact WP.retI dIXO_36 rfl (by decide) (by decide) ⟨rfl, rfl⟩
theorem dPCF_0 : decode jdk_41_method_12_code 0 = .ok (.iload_n 0, 1) := by decide +kernel
theorem dPCF_1 : decode jdk_41_method_12_code 1 = .ok (.ifCond .lt 13, 3) := by decide +kernel
theorem dPCF_4 : decode jdk_41_method_12_code 4 = .ok (.iload_n 0, 1) := by decide +kernel
theorem dPCF_5 : decode jdk_41_method_12_code 5 = .ok (.iload_n 1, 1) := by decide +kernel
theorem dPCF_6 : decode jdk_41_method_12_code 6 = .ok (.if_icmp .gt 8, 3) := by decide +kernel
theorem dPCF_9 : decode jdk_41_method_12_code 9 = .ok (.iload_n 1, 1) := by decide +kernel
theorem dPCF_10 : decode jdk_41_method_12_code 10 = .ok (.iload_n 2, 1) := by decide +kernel
theorem dPCF_11 : decode jdk_41_method_12_code 11 = .ok (.if_icmp .le 11, 3) := by decide +kernel
theorem dPCF_14 : decode jdk_41_method_12_code 14 = .ok (.aload_n 3, 1) := by decide +kernel
theorem dPCF_15 : decode jdk_41_method_12_code 15 = .ok (.iload_n 0, 1) := by decide +kernel
theorem dPCF_16 : decode jdk_41_method_12_code 16 = .ok (.iload_n 1, 1) := by decide +kernel
theorem dPCF_17 : decode jdk_41_method_12_code 17 = .ok (.iload_n 2, 1) := by decide +kernel
theorem dPCF_18 : decode jdk_41_method_12_code 18 = .ok (.invokestatic 99, 3) := by decide +kernel
theorem dPCF_21 : decode jdk_41_method_12_code 21 = .ok (.athrow, 1) := by decide +kernel
theorem dPCF_22 : decode jdk_41_method_12_code 22 = .ok (.iload_n 0, 1) := by decide +kernel
theorem dPCF_23 : decode jdk_41_method_12_code 23 = .ok (.ireturn, 1) := by decide +kernel
set_option maxRecDepth 65536 in
set_option maxHeartbeats 40000000 in
theorem own_pcf (l : Launch) (Z : State) (a0 : Array Value) (hw : ∀ d ∈ tables_1, d.before a0 Z = true) (EL : List (String × Nat)) (hEL : EW Z a0 EL) (h0 : Heap) (f t n : Nat) (hft : f ≤ t) (htn : t ≤ n) (hn : n ≤ 4) (fv : Value) (hv : fv.isRef = true)  :
    Con l Z EL false [] (⟨"jdk/internal/util/Preconditions", "checkFromToIndex", "(IIILjava/util/function/BiFunction;)I"⟩ : MethodName) jdk_41_method_12_code 4 (some .int) ({ frames := 0, cells := 0, slots := 0, locals := 0 } : Room) #[(.int (Int32.ofNat f)), (.int (Int32.ofNat t)), (.int (Int32.ofNat n)), fv] h0 (fun v h' => v = some (.int (Int32.ofNat f)) ∧ h0 = h') := by
  refine Con.of (Ls := #[.val (.int (Int32.ofNat f)), .val (.int (Int32.ofNat t)), .val (.int (Int32.ofNat n)), .val fv]) (plainFor_of_name own_pn3) hEL (fun m => by rcases ref_cases hv with rfl | ⟨_, rfl⟩ <;> first | (simp [entryFrame, mkF, argsToLocals, Value.category]; done) | rfl) ?_
  intro vm0 hZ0 hE0 hC0 hS0
  refine WP.iloadN (n := 1) dPCF_0 rfl rfl ?_
  refine WP.ifcN (n' := 4) dPCF_1 ((if0 _ _).trans (flt (own_nn (by omega))).1) rfl ?_
  refine WP.iloadN (n := 5) dPCF_4 rfl rfl ?_
  refine WP.iloadN (n := 6) dPCF_5 rfl rfl ?_
  refine WP.icmpN (n' := 9) dPCF_6 (flt (by rw [own_ltN (by omega) (by omega)]; omega)).2.2.1 rfl ?_
  refine WP.iloadN (n := 10) dPCF_9 rfl rfl ?_
  refine WP.iloadN (n := 11) dPCF_10 rfl rfl ?_
  refine WP.icmpY (n := 22) dPCF_11 (flt (by rw [own_ltN (by omega) (by omega)]; omega)).2.2.2 (by decide) (by decide) ?_
  refine WP.iloadN (n := 23) dPCF_22 rfl rfl ?_
  exact WP.retI dPCF_23 rfl (by decide) (by decide) ⟨rfl, rfl⟩
theorem dCBE_0 : decode jdk_42_method_158_code 0 = .ok (.iload_n 0, 1) := by decide +kernel
theorem dCBE_1 : decode jdk_42_method_158_code 1 = .ok (.iload_n 1, 1) := by decide +kernel
theorem dCBE_2 : decode jdk_42_method_158_code 2 = .ok (.iload_n 2, 1) := by decide +kernel
theorem dCBE_3 : decode jdk_42_method_158_code 3 = .ok (.getstatic 1053, 3) := by decide +kernel
theorem dCBE_6 : decode jdk_42_method_158_code 6 = .ok (.invokestatic 1062, 3) := by decide +kernel
theorem dCBE_9 : decode jdk_42_method_158_code 9 = .ok (.pop, 1) := by decide +kernel
theorem dCBE_10 : decode jdk_42_method_158_code 10 = .ok (.return_, 1) := by decide +kernel
set_option maxRecDepth 65536 in
set_option maxHeartbeats 40000000 in
theorem own_cbe (l : Launch) (Z : State) (a0 : Array Value) (hw : ∀ d ∈ tables_1, d.before a0 Z = true) (EL : List (String × Nat)) (hEL : EW Z a0 EL) (h0 : Heap) (f t n : Nat) (hft : f ≤ t) (htn : t ≤ n) (hn : n ≤ 4) (fv : Value) (hv : fv.isRef = true) (Fm : Sta Z Z.heap "jdk/internal/util/Preconditions" "SIOOBE_FORMATTER" "Ljava/util/function/BiFunction;" fv)  :
    Con l Z EL false [] (⟨"java/lang/String", "checkBoundsBeginEnd", "(III)V"⟩ : MethodName) jdk_42_method_158_code 3 none ({ frames := 1, cells := 0, slots := 0, locals := 15 } : Room) #[(.int (Int32.ofNat f)), (.int (Int32.ofNat t)), (.int (Int32.ofNat n))] h0 (fun v h' => v = none ∧ h0 = h') := by
  refine Con.of (Ls := #[.val (.int (Int32.ofNat f)), .val (.int (Int32.ofNat t)), .val (.int (Int32.ofNat n))]) (plainFor_of_name own_pn0) hEL (fun m => by first | (simp [entryFrame, mkF, argsToLocals, Value.category]; done) | rfl) ?_
  intro vm0 hZ0 hE0 hC0 hS0
  refine WP.iloadN (n := 1) dCBE_0 rfl rfl ?_
  refine WP.iloadN (n := 2) dCBE_1 rfl rfl ?_
  refine WP.iloadN (n := 3) dCBE_2 rfl rfl ?_
  refine WP.getSZ (n := 6) dCBE_3 (hw _ (List.mem_of_getElem? (i := 98) rfl)) Via.refl Fm rfl ?_
  refine WP.callS (n := 9) (ce' := 0) (sl' := 0) (Wd := 0) (argsL := [(.int (Int32.ofNat f)), (.int (Int32.ofNat t)), (.int (Int32.ofNat n)), fv]) (rest := []) (own_pcf l Z a0 hw EL hEL h0 f t n hft htn hn fv hv) dCBE_6 (hw _ (List.mem_of_getElem? (i := 135) rfl)) (hw _ (List.mem_of_getElem? (i := 136) rfl)) (hw _ (List.mem_of_getElem? (i := 99) rfl)) (hw _ (List.mem_of_getElem? (i := 137) rfl)) (by decide) (fun _ q => nomatch q) (by decide) (by decide) rfl rfl (by decide) (by decide) rfl rfl (lenOf own_pd11 rfl) rfl (Nat.le_of_eq rfl) rfl (fun v28 vm28 h28 q28 r28 => ?_)
  obtain ⟨rfl, rfl⟩ := q28
  refine WP.pop (n := 10) dCBE_9 rfl rfl ?_
  refine WP.retV dCBE_10 rfl (by decide) (by decide) ?_
  exact ⟨rfl, rfl⟩
theorem dNS_0 : decode jdk_43_method_47_code 0 = .ok (.iload_n 2, 1) := by decide +kernel
theorem dNS_1 : decode jdk_43_method_47_code 1 = .ok (.ifCond .ne 6, 3) := by decide +kernel
theorem dNS_4 : decode jdk_43_method_47_code 4 = .ok (.ldc 151, 2) := by decide +kernel
theorem dNS_6 : decode jdk_43_method_47_code 6 = .ok (.areturn, 1) := by decide +kernel
theorem dNS_7 : decode jdk_43_method_47_code 7 = .ok (.new 1, 3) := by decide +kernel
theorem dNS_10 : decode jdk_43_method_47_code 10 = .ok (.dup, 1) := by decide +kernel
theorem dNS_11 : decode jdk_43_method_47_code 11 = .ok (.aload_n 0, 1) := by decide +kernel
theorem dNS_12 : decode jdk_43_method_47_code 12 = .ok (.iload_n 1, 1) := by decide +kernel
theorem dNS_13 : decode jdk_43_method_47_code 13 = .ok (.iload_n 1, 1) := by decide +kernel
theorem dNS_14 : decode jdk_43_method_47_code 14 = .ok (.iload_n 2, 1) := by decide +kernel
theorem dNS_15 : decode jdk_43_method_47_code 15 = .ok (.iadd, 1) := by decide +kernel
theorem dNS_16 : decode jdk_43_method_47_code 16 = .ok (.invokestatic 232, 3) := by decide +kernel
theorem dNS_19 : decode jdk_43_method_47_code 19 = .ok (.iconst 0, 1) := by decide +kernel
theorem dNS_20 : decode jdk_43_method_47_code 20 = .ok (.invokespecial 112, 3) := by decide +kernel
theorem dNS_23 : decode jdk_43_method_47_code 23 = .ok (.areturn, 1) := by decide +kernel
set_option maxRecDepth 65536 in
set_option maxHeartbeats 40000000 in
theorem own_ns (l : Launch) (Z : State) (a0 : Array Value) (hw : ∀ d ∈ tables_1, d.before a0 Z = true) (EL : List (String × Nat)) (hEL : EW Z a0 EL) (h0 : Heap) (b : Addr) (kb : ClassId) (z : Int32) (cs : List Int32) (B : Arv Z h0 b kb .byte z ((cs.map own_b).map Value.int) (.int 0)) (hz : z.toNatClampNeg = (cs.map own_b).length) (hr : Rng cs) (hl : cs.length ≤ 4) (f t : Nat) (hft : f ≤ t) (ht : t ≤ cs.length) (hw' : ¬ (f = 0 ∧ t = cs.length)) (hm : ("java/lang/StringLatin1", 151) ∈ EL) :
    Con l Z EL false [] (⟨"java/lang/StringLatin1", "newString", "([BII)Ljava/lang/String;"⟩ : MethodName) jdk_43_method_47_code 3 (some (.object "java/lang/String")) ({ frames := 3, cells := 4, slots := 12, locals := 84 } : Room) #[(.ref b), (.int (Int32.ofNat f)), (.int (Int32.ofNat (t - f)))] h0 (fun v h' => ∃ s, v = some (.ref s) ∧ SC Z h' s ((cs.drop f).take (t - f)) ∧ Ext h0 h') := by
  have wS : ∀ a ∈ Bundle.stringAtoms, a.before a0 Z = true := fun d hd => hw d ((by decide +kernel : ∀ d ∈ Bundle.stringAtoms, d ∈ tables_1) d hd)
  refine Con.of (Ls := #[.val (.ref b), .val (.int (Int32.ofNat f)), .val (.int (Int32.ofNat (t - f)))]) (plainFor_of_name own_pn4) hEL (fun m => by first | (simp [entryFrame, mkF, argsToLocals, Value.category]; done) | rfl) ?_
  intro vm0 hZ0 hE0 hC0 hS0
  have hlen : ((cs.drop f).take (t - f)).length ≤ 4 := by simp; omega
  refine WP.iloadN (n := 1) dNS_0 rfl rfl ?_
  refine WP.if_ne (n := 7) (n' := 4) dNS_1 (by decide) (by decide) rfl (fun b29 => ?_) (fun b29 => ?_)
  · refine WP.new (n := 10) (ce' := 1) (sl' := 4) dNS_7 (hw _ (List.mem_of_getElem? (i := 169) rfl)) (hw _ (List.mem_of_getElem? (i := 10) rfl)) (hw _ (List.mem_of_getElem? (i := 11) rfl)) rfl rfl (by decide) (by decide) rfl (fun a30 h30 g30 E30 A30 D30 S30 N30 r30 => ?_)
    refine WP.dup (n := 11) dNS_10 rfl rfl ?_
    refine WP.aloadN (n := 12) dNS_11 rfl rfl rfl ?_
    refine WP.iloadN (n := 13) dNS_12 rfl rfl ?_
    refine WP.iloadN (n := 14) dNS_13 rfl rfl ?_
    refine WP.iloadN (n := 15) dNS_14 rfl rfl ?_
    refine WP.iadd (n := 16) dNS_15  rfl ?_
    rw [own_addN (by omega), show f + (t - f) = t by omega]
    refine WP.callS (n := 19) (ce' := 2) (sl' := 8) (Wd := 2) (argsL := [(.ref b), (.int (Int32.ofNat f)), (.int (Int32.ofNat t))]) (rest := [(.ref a30), (.ref a30)]) (own_cor l Z a0 hw EL hEL h30 b kb z ((cs.map own_b).map Value.int) f t (B.ext E30) (by rw [hz, List.length_map, List.length_map, List.length_map]) hft (by simp; exact ht) (by omega) (by rw [List.length_map, List.length_map]; exact hw')) dNS_16 (hw _ (List.mem_of_getElem? (i := 170) rfl)) (hw _ (List.mem_of_getElem? (i := 171) rfl)) (hw _ (List.mem_of_getElem? (i := 172) rfl)) (hw _ (List.mem_of_getElem? (i := 173) rfl)) (by decide) (fun _ q => nomatch q) (by decide) (by decide) rfl rfl (by decide) (by decide) rfl rfl (lenOf own_pd3 rfl) rfl (Nat.le_of_eq rfl) rfl (fun v31 vm31 h31 q31 r31 => ?_)
    obtain ⟨c31, kc31, rfl, n31, E31, V31⟩ := q31
    refine WP.iconst (n := 20) (z := (0 : Int32)) dNS_19 rfl rfl ?_
    have S31 := r31.safe A30.lt S30
    refine WP.callP (n := 23) (ce' := 2) (sl' := 8) (Wd := 1) (a := a30) (argsL := [(.ref c31), (.int (0 : Int32))]) (rest := [(.ref a30)]) (own_sb l Z a0 hw EL hEL h31 a30 c31 _ _ N30 (A30.ext E31) ((D30 (Or.inr (hw _ (List.mem_of_getElem? (i := 24) rfl))) (ty := .array .byte) (by decide)).ext E31) ((D30 (Or.inr (hw _ (List.mem_of_getElem? (i := 25) rfl))) (ty := .byte) (by decide)).ext E31)) dNS_20 rfl (hw _ (List.mem_of_getElem? (i := 185) rfl)) (hw _ (List.mem_of_getElem? (i := 186) rfl)) (hw _ (List.mem_of_getElem? (i := 11) rfl)) (hw _ (List.mem_of_getElem? (i := 187) rfl)) (by decide) (fun y q => by cases List.mem_singleton.mp q; exact ⟨S31, Nat.lt_of_lt_of_le A30.lt E31.1⟩) (by decide) (by decide) rfl rfl (by decide) (by decide) rfl rfl (lenOf own_pd12 rfl) rfl (Nat.le_of_eq rfl) rfl (fun v32 vm32 h32 q32 r32 => ?_)
    obtain ⟨rfl, K32, A32, F32, G32⟩ := q32
    have V32 := V31.keep K32 (fun q => Exa.neArv (A30.ext E31) V31 (hw _ (List.mem_of_getElem? (i := 10) rfl)) (List.mem_singleton.mp q).symm)
    have eb : (((cs.map own_b).map Value.int).drop f).take (t - f) = (((cs.drop f).take (t - f)).map own_b).map Value.int := by rw [← List.map_drop, ← List.map_take, ← List.map_drop, ← List.map_take]
    rw [eb] at V32
    exact WP.retA dNS_23 rfl rfl rfl rfl (by decide) (by decide) ⟨_, rfl, ⟨⟨A32, G32, c31, kc31, Int32.ofNat (t - f), F32, V32, by rw [own_clamp (by omega)]; simp; omega⟩, hr.sub f (t - f), hlen⟩, ext_keep1 (ext_trans E30 E31) K32 (Nat.le_of_eq g30.symm)⟩
  · refine WP.ldcC (n := 6) (nn := 0) (ce' := 2) (sl' := 4) (vs := []) (z := 0) dNS_4 rfl (hw _ (List.mem_of_getElem? (i := 188) rfl)) wS hm ⟨by decide, rfl⟩ (by decide) rfl (by decide) (by decide) rfl rfl (by decide) (by decide) hEL rfl (fun a33 b33 k33 vm33 h33 E33 r33 X33 C33 V33 B33 L33 N33 => ?_)
    have e0 : t - f = 0 := by have e1 := congrArg Int32.toNatClampNeg b29; rw [own_clamp (by omega)] at e1; exact e1
    have e2 : (cs.drop f).take (t - f) = [] := by rw [e0]; rfl
    exact WP.retA dNS_6 rfl rfl rfl rfl (by decide) (by decide) ⟨a33, rfl, by rw [e2]; exact ⟨⟨X33, C33, b33, k33, 0, V33, B33, rfl⟩, fun _ q => (nomatch q), Nat.zero_le _⟩, E33⟩
theorem dSUB_0 : decode jdk_42_method_92_code 0 = .ok (.aload_n 0, 1) := by decide +kernel
theorem dSUB_1 : decode jdk_42_method_92_code 1 = .ok (.invokevirtual 505, 3) := by decide +kernel
theorem dSUB_4 : decode jdk_42_method_92_code 4 = .ok (.istore_n 3, 1) := by decide +kernel
theorem dSUB_5 : decode jdk_42_method_92_code 5 = .ok (.iload_n 1, 1) := by decide +kernel
theorem dSUB_6 : decode jdk_42_method_92_code 6 = .ok (.iload_n 2, 1) := by decide +kernel
theorem dSUB_7 : decode jdk_42_method_92_code 7 = .ok (.iload_n 3, 1) := by decide +kernel
theorem dSUB_8 : decode jdk_42_method_92_code 8 = .ok (.invokestatic 521, 3) := by decide +kernel
theorem dSUB_11 : decode jdk_42_method_92_code 11 = .ok (.iload_n 1, 1) := by decide +kernel
theorem dSUB_12 : decode jdk_42_method_92_code 12 = .ok (.ifCond .ne 10, 3) := by decide +kernel
theorem dSUB_15 : decode jdk_42_method_92_code 15 = .ok (.iload_n 2, 1) := by decide +kernel
theorem dSUB_16 : decode jdk_42_method_92_code 16 = .ok (.iload_n 3, 1) := by decide +kernel
theorem dSUB_17 : decode jdk_42_method_92_code 17 = .ok (.if_icmp .ne 5, 3) := by decide +kernel
theorem dSUB_20 : decode jdk_42_method_92_code 20 = .ok (.aload_n 0, 1) := by decide +kernel
theorem dSUB_21 : decode jdk_42_method_92_code 21 = .ok (.areturn, 1) := by decide +kernel
theorem dSUB_22 : decode jdk_42_method_92_code 22 = .ok (.iload_n 2, 1) := by decide +kernel
theorem dSUB_23 : decode jdk_42_method_92_code 23 = .ok (.iload_n 1, 1) := by decide +kernel
theorem dSUB_24 : decode jdk_42_method_92_code 24 = .ok (.isub, 1) := by decide +kernel
theorem dSUB_25 : decode jdk_42_method_92_code 25 = .ok (.istore 4, 2) := by decide +kernel
theorem dSUB_27 : decode jdk_42_method_92_code 27 = .ok (.aload_n 0, 1) := by decide +kernel
theorem dSUB_28 : decode jdk_42_method_92_code 28 = .ok (.invokevirtual 492, 3) := by decide +kernel
theorem dSUB_31 : decode jdk_42_method_92_code 31 = .ok (.ifCond .eq 16, 3) := by decide +kernel
theorem dSUB_34 : decode jdk_42_method_92_code 34 = .ok (.aload_n 0, 1) := by decide +kernel
theorem dSUB_35 : decode jdk_42_method_92_code 35 = .ok (.getfield 9, 3) := by decide +kernel
theorem dSUB_38 : decode jdk_42_method_92_code 38 = .ok (.iload_n 1, 1) := by decide +kernel
theorem dSUB_39 : decode jdk_42_method_92_code 39 = .ok (.iload 4, 2) := by decide +kernel
theorem dSUB_41 : decode jdk_42_method_92_code 41 = .ok (.invokestatic 685, 3) := by decide +kernel
theorem dSUB_44 : decode jdk_42_method_92_code 44 = .ok (.goto 13, 3) := by decide +kernel
theorem dSUB_47 : decode jdk_42_method_92_code 47 = .ok (.aload_n 0, 1) := by decide +kernel
theorem dSUB_48 : decode jdk_42_method_92_code 48 = .ok (.getfield 9, 3) := by decide +kernel
theorem dSUB_51 : decode jdk_42_method_92_code 51 = .ok (.iload_n 1, 1) := by decide +kernel
theorem dSUB_52 : decode jdk_42_method_92_code 52 = .ok (.iload 4, 2) := by decide +kernel
theorem dSUB_54 : decode jdk_42_method_92_code 54 = .ok (.invokestatic 689, 3) := by decide +kernel
theorem dSUB_57 : decode jdk_42_method_92_code 57 = .ok (.areturn, 1) := by decide +kernel
set_option maxRecDepth 65536 in
set_option maxHeartbeats 40000000 in
theorem own_sub (l : Launch) (Z : State) (a0 : Array Value) (hw : ∀ d ∈ tables_1, d.before a0 Z = true) (EL : List (String × Nat)) (hEL : EW Z a0 EL) (h0 : Heap) (a : Addr) (cs : List Int32) (G : SC Z h0 a cs) (f t : Nat) (hft : f ≤ t) (ht : t ≤ cs.length) (hm : ("java/lang/StringLatin1", 151) ∈ EL) (fv : Value) (hv : fv.isRef = true) (Fm : Sta Z Z.heap "jdk/internal/util/Preconditions" "SIOOBE_FORMATTER" "Ljava/util/function/BiFunction;" fv) (cz : Int32) (O : Sta Z Z.heap "java/lang/String" "COMPACT_STRINGS" "Z" (.int cz)) (hO : ¬ cz = 0) :
    Con l Z EL false [] (⟨"java/lang/String", "substring", "(II)Ljava/lang/String;"⟩ : MethodName) jdk_42_method_92_code 5 (some (.object "java/lang/String")) ({ frames := 4, cells := 4, slots := 12, locals := 100 } : Room) #[(.ref a), (.int (Int32.ofNat f)), (.int (Int32.ofNat t))] h0 (fun v h' => ∃ s, v = some (.ref s) ∧ SC Z h' s ((cs.drop f).take (t - f)) ∧ Ext h0 h') := by
  refine Con.of (Ls := #[.val (.ref a), .val (.int (Int32.ofNat f)), .val (.int (Int32.ofNat t)), .unset, .unset]) (plainFor_of_name own_pn0) hEL (fun m => by first | (simp [entryFrame, mkF, argsToLocals, Value.category]; done) | rfl) ?_
  intro vm0 hZ0 hE0 hC0 hS0
  obtain ⟨⟨f1, f2, b, kb, z, f3, f4, f5⟩, hr, hl⟩ := id G
  refine WP.aloadN (n := 1) dSUB_0 rfl rfl rfl ?_
  refine WP.callV (n := 4) (ce' := 0) (sl' := 0) (Wd := 0) (a := a) (argsL := []) (rest := []) (own_len l Z a0 hw EL hEL h0 a (cs.map own_b) G.1 cz O hO) f1 dSUB_1 (hw _ (List.mem_of_getElem? (i := 108) rfl)) (hw _ (List.mem_of_getElem? (i := 59) rfl)) (hw _ (List.mem_of_getElem? (i := 61) rfl)) (hw _ (List.mem_of_getElem? (i := 60) rfl)) (hw _ (List.mem_of_getElem? (i := 11) rfl)) (hw _ (List.mem_of_getElem? (i := 62) rfl)) (by decide) (fun _ hz => notFace_of_selects (args := #[]) (mvT hz (hw _ (List.mem_of_getElem? (i := 61) rfl)))) (fun _ q => nomatch q) (by decide) (by decide) rfl rfl (by decide) (by decide) rfl rfl (lenOf own_pd10 rfl) rfl (Nat.le_of_eq rfl) rfl (fun v34 vm34 h34 q34 r34 => ?_)
  obtain ⟨rfl, rfl⟩ := q34
  rw [List.length_map]
  refine WP.istoreN (n := 5) (Ls' := #[.val (.ref a), .val (.int (Int32.ofNat f)), .val (.int (Int32.ofNat t)), .val (.int (Int32.ofNat cs.length)), .unset]) dSUB_4 rfl rfl ?_
  refine WP.iloadN (n := 6) dSUB_5 rfl rfl ?_
  refine WP.iloadN (n := 7) dSUB_6 rfl rfl ?_
  refine WP.iloadN (n := 8) dSUB_7 rfl rfl ?_
  refine WP.callS (n := 11) (ce' := 0) (sl' := 0) (Wd := 0) (argsL := [(.int (Int32.ofNat f)), (.int (Int32.ofNat t)), (.int (Int32.ofNat cs.length))]) (rest := []) (own_cbe l Z a0 hw EL hEL h0 f t cs.length hft ht hl fv hv Fm) dSUB_8 (hw _ (List.mem_of_getElem? (i := 132) rfl)) (hw _ (List.mem_of_getElem? (i := 133) rfl)) (hw _ (List.mem_of_getElem? (i := 11) rfl)) (hw _ (List.mem_of_getElem? (i := 134) rfl)) (by decide) (fun _ q => nomatch q) (by decide) (by decide) rfl rfl (by decide) (by decide) rfl rfl (lenOf own_pd13 rfl) rfl (Nat.le_of_eq rfl) rfl (fun v35 vm35 h35 q35 r35 => ?_)
  obtain ⟨rfl, rfl⟩ := q35
  refine WP.iloadN (n := 12) dSUB_11 rfl rfl ?_
  refine WP.if_ne (n := 22) (n' := 15) dSUB_12 (by decide) (by decide) rfl (fun b36 => ?_) (fun b36 => ?_)
  · refine WP.iloadN (n := 23) dSUB_22 rfl rfl ?_
    refine WP.iloadN (n := 24) dSUB_23 rfl rfl ?_
    refine WP.isub (n := 25) dSUB_24  rfl ?_
    rw [own_subN (by omega) hft]
    refine WP.istore (n := 27) (Ls' := #[.val (.ref a), .val (.int (Int32.ofNat f)), .val (.int (Int32.ofNat t)), .val (.int (Int32.ofNat cs.length)), .val (.int (Int32.ofNat (t - f)))]) dSUB_25 rfl rfl ?_
    refine WP.aloadN (n := 28) dSUB_27 rfl rfl rfl ?_
    refine WP.callV (n := 31) (ce' := 0) (sl' := 0) (Wd := 0) (a := a) (argsL := []) (rest := []) (own_il l Z a0 hw EL hEL h0 a f2 cz O hO) f1 dSUB_28 (hw _ (List.mem_of_getElem? (i := 86) rfl)) (hw _ (List.mem_of_getElem? (i := 87) rfl)) (hw _ (List.mem_of_getElem? (i := 89) rfl)) (hw _ (List.mem_of_getElem? (i := 88) rfl)) (hw _ (List.mem_of_getElem? (i := 11) rfl)) (hw _ (List.mem_of_getElem? (i := 90) rfl)) (by decide) (fun _ hz => notFace_of_selects (args := #[]) (mvT hz (hw _ (List.mem_of_getElem? (i := 89) rfl)))) (fun _ q => nomatch q) (by decide) (by decide) rfl rfl (by decide) (by decide) rfl rfl (lenOf own_pd6 rfl) rfl (Nat.le_of_eq rfl) rfl (fun v37 vm37 h37 q37 r37 => ?_)
    obtain ⟨rfl, rfl⟩ := q37
    refine WP.ifcN (n' := 34) dSUB_31 (by decide) rfl ?_
    refine WP.aloadN (n := 35) dSUB_34 rfl rfl rfl ?_
    refine WP.getF (n := 38) (host := "") dSUB_35 (Or.inl (hw _ (List.mem_of_getElem? (i := 28) rfl))) Via.refl f3 rfl ?_
    refine WP.iloadN (n := 39) dSUB_38 rfl rfl ?_
    refine WP.iload (n := 41) dSUB_39 rfl rfl ?_
    refine WP.callS (n := 44) (ce' := 4) (sl' := 12) (Wd := 0) (argsL := [(.ref b), (.int (Int32.ofNat f)), (.int (Int32.ofNat (t - f)))]) (rest := []) (own_ns l Z a0 hw EL hEL h0 b kb z cs f4 f5 hr hl f t hft ht (fun e => by first | exact b36 (by rw [e.1]; rfl) | exact b36 (by rw [e.2])) hm) dSUB_41 (hw _ (List.mem_of_getElem? (i := 166) rfl)) (hw _ (List.mem_of_getElem? (i := 167) rfl)) (hw _ (List.mem_of_getElem? (i := 93) rfl)) (hw _ (List.mem_of_getElem? (i := 168) rfl)) (by decide) (fun _ q => nomatch q) (by decide) (by decide) rfl rfl (by decide) (by decide) rfl rfl (lenOf own_pd14 rfl) rfl (Nat.le_of_eq rfl) rfl (fun v38 vm38 h38 q38 r38 => ?_)
    obtain ⟨s38, rfl, F38, E38⟩ := q38
    refine WP.goto (n := 57) dSUB_44 (by decide) (by decide) ?_
    exact WP.retA dSUB_57 rfl rfl rfl rfl (by decide) (by decide) ⟨_, rfl, F38, E38⟩
  · refine WP.iloadN (n := 16) dSUB_15 rfl rfl ?_
    refine WP.iloadN (n := 17) dSUB_16 rfl rfl ?_
    refine WP.icmp_ne (n := 22) (n' := 20) dSUB_17 (by decide) (by decide) rfl (fun b39 => ?_) (fun b39 => ?_)
    · refine WP.iloadN (n := 23) dSUB_22 rfl rfl ?_
      refine WP.iloadN (n := 24) dSUB_23 rfl rfl ?_
      refine WP.isub (n := 25) dSUB_24  rfl ?_
      rw [own_subN (by omega) hft]
      refine WP.istore (n := 27) (Ls' := #[.val (.ref a), .val (.int (Int32.ofNat f)), .val (.int (Int32.ofNat t)), .val (.int (Int32.ofNat cs.length)), .val (.int (Int32.ofNat (t - f)))]) dSUB_25 rfl rfl ?_
      refine WP.aloadN (n := 28) dSUB_27 rfl rfl rfl ?_
      refine WP.callV (n := 31) (ce' := 0) (sl' := 0) (Wd := 0) (a := a) (argsL := []) (rest := []) (own_il l Z a0 hw EL hEL h0 a f2 cz O hO) f1 dSUB_28 (hw _ (List.mem_of_getElem? (i := 86) rfl)) (hw _ (List.mem_of_getElem? (i := 87) rfl)) (hw _ (List.mem_of_getElem? (i := 89) rfl)) (hw _ (List.mem_of_getElem? (i := 88) rfl)) (hw _ (List.mem_of_getElem? (i := 11) rfl)) (hw _ (List.mem_of_getElem? (i := 90) rfl)) (by decide) (fun _ hz => notFace_of_selects (args := #[]) (mvT hz (hw _ (List.mem_of_getElem? (i := 89) rfl)))) (fun _ q => nomatch q) (by decide) (by decide) rfl rfl (by decide) (by decide) rfl rfl (lenOf own_pd6 rfl) rfl (Nat.le_of_eq rfl) rfl (fun v40 vm40 h40 q40 r40 => ?_)
      obtain ⟨rfl, rfl⟩ := q40
      refine WP.ifcN (n' := 34) dSUB_31 (by decide) rfl ?_
      refine WP.aloadN (n := 35) dSUB_34 rfl rfl rfl ?_
      refine WP.getF (n := 38) (host := "") dSUB_35 (Or.inl (hw _ (List.mem_of_getElem? (i := 28) rfl))) Via.refl f3 rfl ?_
      refine WP.iloadN (n := 39) dSUB_38 rfl rfl ?_
      refine WP.iload (n := 41) dSUB_39 rfl rfl ?_
      refine WP.callS (n := 44) (ce' := 4) (sl' := 12) (Wd := 0) (argsL := [(.ref b), (.int (Int32.ofNat f)), (.int (Int32.ofNat (t - f)))]) (rest := []) (own_ns l Z a0 hw EL hEL h0 b kb z cs f4 f5 hr hl f t hft ht (fun e => by first | exact b36 (by rw [e.1]; rfl) | exact b39 (by rw [e.2])) hm) dSUB_41 (hw _ (List.mem_of_getElem? (i := 166) rfl)) (hw _ (List.mem_of_getElem? (i := 167) rfl)) (hw _ (List.mem_of_getElem? (i := 93) rfl)) (hw _ (List.mem_of_getElem? (i := 168) rfl)) (by decide) (fun _ q => nomatch q) (by decide) (by decide) rfl rfl (by decide) (by decide) rfl rfl (lenOf own_pd14 rfl) rfl (Nat.le_of_eq rfl) rfl (fun v41 vm41 h41 q41 r41 => ?_)
      obtain ⟨s41, rfl, F41, E41⟩ := q41
      refine WP.goto (n := 57) dSUB_44 (by decide) (by decide) ?_
      exact WP.retA dSUB_57 rfl rfl rfl rfl (by decide) (by decide) ⟨_, rfl, F41, E41⟩
    · refine WP.aloadN (n := 21) dSUB_20 rfl rfl rfl ?_
      have e1 : f = 0 := by have e := congrArg Int32.toNatClampNeg b36; rw [own_clamp (by omega)] at e; exact e
      have e2 : t = cs.length := by have e := congrArg Int32.toNatClampNeg b39; rw [own_clamp (by omega), own_clamp (by omega)] at e; exact e
      exact WP.retA dSUB_21 rfl rfl rfl rfl (by decide) (by decide) ⟨a, rfl, by rw [e1, e2, List.drop_zero, Nat.sub_zero, List.take_length]; exact G, ext_refl _⟩
theorem dGI_0 : decode prog_18_method_1_code 0 = .ok (.aload_n 0, 1) := by decide +kernel
theorem dGI_1 : decode prog_18_method_1_code 1 = .ok (.invokespecial 1, 3) := by decide +kernel
theorem dGI_4 : decode prog_18_method_1_code 4 = .ok (.aload_n 0, 1) := by decide +kernel
theorem dGI_5 : decode prog_18_method_1_code 5 = .ok (.iconst 1, 1) := by decide +kernel
theorem dGI_6 : decode prog_18_method_1_code 6 = .ok (.putfield 7, 3) := by decide +kernel
theorem dGI_9 : decode prog_18_method_1_code 9 = .ok (.aload_n 0, 1) := by decide +kernel
theorem dGI_10 : decode prog_18_method_1_code 10 = .ok (.aload_n 1, 1) := by decide +kernel
theorem dGI_11 : decode prog_18_method_1_code 11 = .ok (.ldc 13, 2) := by decide +kernel
theorem dGI_13 : decode prog_18_method_1_code 13 = .ok (.invokestatic 15, 3) := by decide +kernel
theorem dGI_16 : decode prog_18_method_1_code 16 = .ok (.checkcast 21, 3) := by decide +kernel
theorem dGI_19 : decode prog_18_method_1_code 19 = .ok (.putfield 23, 3) := by decide +kernel
theorem dGI_22 : decode prog_18_method_1_code 22 = .ok (.return_, 1) := by decide +kernel
set_option maxRecDepth 65536 in
set_option maxHeartbeats 40000000 in
theorem own_gi (l : Launch) (Z : State) (a0 : Array Value) (hw : ∀ d ∈ tables_1, d.before a0 Z = true) (EL : List (String × Nat)) (hEL : EW Z a0 EL) (h0 : Heap) (a s : Addr) (cs : List Int32) (G : SC Z h0 s cs) (hN : Z.heap.size ≤ a) (hA : Exa Z h0 a "com/example/fionn/fionn/io/SgmlScanner") (hF_content : Fld Z h0 a "com/example/fionn/fionn/io/SgmlScanner" "content" "Ljava/lang/String;" .null) (hF_position : Fld Z h0 a "com/example/fionn/fionn/io/SgmlScanner" "position" "I" (.int 0)) (hF_line : Fld Z h0 a "com/example/fionn/fionn/io/SgmlScanner" "line" "I" (.int 0)) (hF_pieceLine : Fld Z h0 a "com/example/fionn/fionn/io/SgmlScanner" "pieceLine" "I" (.int 0)) (hF_tag : Fld Z h0 a "com/example/fionn/fionn/io/SgmlScanner" "tag" "Z" (.int 0)) (hF_piece : Fld Z h0 a "com/example/fionn/fionn/io/SgmlScanner" "piece" "Ljava/lang/String;" .null) :
    Con l Z EL false [] (⟨"com/example/fionn/fionn/io/SgmlScanner", "<init>", "(Ljava/lang/String;)V"⟩ : MethodName) prog_18_method_1_code 2 none ({ frames := 1, cells := 2, slots := 32, locals := 20 } : Room) #[(.ref a), (.ref s)] h0 (fun v h' => v = none ∧ Keep h0 h' [a] ∧ SG Z h' a s 0 1 0 0 .null) := by
  have wS : ∀ a ∈ Bundle.stringAtoms, a.before a0 Z = true := fun d hd => hw d ((by decide +kernel : ∀ d ∈ Bundle.stringAtoms, d ∈ tables_1) d hd)
  refine Con.of (Ls := #[.val (.ref a), .val (.ref s)]) (plainFor_of_name own_pn5) hEL (fun m => by first | (simp [entryFrame, mkF, argsToLocals, Value.category]; done) | rfl) ?_
  intro vm0 hZ0 hE0 hC0 hS0
  refine WP.aloadN (n := 1) dGI_0 rfl rfl rfl ?_
  refine WP.initO (n := 4) (Wd := 0) dGI_1 (hw _ (List.mem_of_getElem? (i := 36) rfl)) (hw _ (List.mem_of_getElem? (i := 20) rfl)) (hw _ (List.mem_of_getElem? (i := 21) rfl)) rfl (by decide) (Nat.le_of_eq rfl) (by decide) rfl ?_
  refine WP.aloadN (n := 5) dGI_4 rfl rfl rfl ?_
  refine WP.iconst (n := 6) (z := (1 : Int32)) dGI_5 rfl rfl ?_
  refine WP.putFE (n := 9) (host := "") (ty := .int) dGI_6 (Or.inl (hw _ (List.mem_of_getElem? (i := 37) rfl))) Via.refl hF_line hA (Or.inl (hw _ (List.mem_of_getElem? (i := 38) rfl))) (hw _ (List.mem_of_getElem? (i := 31) rfl)) (by decide) rfl (by decide) hN (by decide) rfl (fun h42 W42 r42 => ?_)
  have A42 := hA.wr W42
  have K42 := (Keep.refl h0 [a]).wr W42 (Or.inl (List.mem_cons_self ..))
  have F42_line := hF_line.same W42
  have F42_content := hF_content.other W42 (Or.inr (slot_ne (t := (.object "java/lang/String")) (t' := .int) (Or.inr (hw _ (List.mem_of_getElem? (i := 46) rfl))) (Or.inl (hw _ (List.mem_of_getElem? (i := 38) rfl))) (by decide) (by decide) (by decide)))
  have F42_position := hF_position.other W42 (Or.inr (slot_ne (t := .int) (t' := .int) (Or.inl (hw _ (List.mem_of_getElem? (i := 57) rfl))) (Or.inl (hw _ (List.mem_of_getElem? (i := 38) rfl))) (by decide) (by decide) (by decide)))
  have F42_pieceLine := hF_pieceLine.other W42 (Or.inr (slot_ne (t := .int) (t' := .int) (Or.inl (hw _ (List.mem_of_getElem? (i := 80) rfl))) (Or.inl (hw _ (List.mem_of_getElem? (i := 38) rfl))) (by decide) (by decide) (by decide)))
  have F42_tag := hF_tag.other W42 (Or.inr (slot_ne (t := .boolean) (t' := .int) (Or.inl (hw _ (List.mem_of_getElem? (i := 126) rfl))) (Or.inl (hw _ (List.mem_of_getElem? (i := 38) rfl))) (by decide) (by decide) (by decide)))
  have F42_piece := hF_piece.other W42 (Or.inr (slot_ne (t := (.object "java/lang/String")) (t' := .int) (Or.inl (hw _ (List.mem_of_getElem? (i := 139) rfl))) (Or.inl (hw _ (List.mem_of_getElem? (i := 38) rfl))) (by decide) (by decide) (by decide)))
  have A42_s := G.1.1.wr W42
  refine WP.aloadN (n := 10) dGI_9 rfl rfl rfl ?_
  refine WP.aloadN (n := 11) dGI_10 rfl rfl rfl ?_
  refine WP.ldcO (n := 13) (nn := 28) (ce' := 2) (sl' := 32) dGI_11 rfl (hw _ (List.mem_of_getElem? (i := 39) rfl)) wS (by decide) (by decide) rfl rfl (by decide) (by decide) hEL rfl (fun a43 vm43 h43 E43 r43 => ?_)
  refine WP.callS (n := 16) (ce' := 2) (sl' := 32) (Wd := 1) (argsL := [(.ref s), (.ref a43)]) (rest := [(.ref a)]) (own_rnn l Z a0 hw EL hEL h43 s a43) dGI_13 (hw _ (List.mem_of_getElem? (i := 40) rfl)) (hw _ (List.mem_of_getElem? (i := 41) rfl)) (hw _ (List.mem_of_getElem? (i := 42) rfl)) (hw _ (List.mem_of_getElem? (i := 43) rfl)) (by decide) (fun _ q => nomatch q) (by decide) (by decide) rfl rfl (by decide) (by decide) rfl rfl (lenOf own_pd15 rfl) rfl (Nat.le_of_eq rfl) rfl (fun v44 vm44 h44 q44 r44 => ?_)
  obtain ⟨rfl, rfl⟩ := q44
  refine WP.castY (n := 19) dGI_16 (hw _ (List.mem_of_getElem? (i := 44) rfl)) (Ins.self (A42_s.ext E43)) rfl ?_
  refine WP.putFE (n := 22) (host := "") (ty := (.object "java/lang/String")) dGI_19 (Or.inl (hw _ (List.mem_of_getElem? (i := 45) rfl))) Via.refl (F42_content.ext E43) (A42.ext E43) (Or.inr ⟨(hw _ (List.mem_of_getElem? (i := 46) rfl)), rfl, rfl⟩) (hw _ (List.mem_of_getElem? (i := 31) rfl)) (by decide) rfl rfl hN (by decide) rfl (fun h45 W45 r45 => ?_)
  have A45 := (A42.ext E43).wr W45
  have K45 := (K42.ext E43).wr W45 (Or.inl (List.mem_cons_self ..))
  have F45_content := (F42_content.ext E43).same W45
  have F45_position := (F42_position.ext E43).other W45 (Or.inr (slot_ne (t := .int) (t' := (.object "java/lang/String")) (Or.inl (hw _ (List.mem_of_getElem? (i := 57) rfl))) (Or.inr (hw _ (List.mem_of_getElem? (i := 46) rfl))) (by decide) (by decide) (by decide)))
  have F45_line := (F42_line.ext E43).other W45 (Or.inr (slot_ne (t := .int) (t' := (.object "java/lang/String")) (Or.inl (hw _ (List.mem_of_getElem? (i := 38) rfl))) (Or.inr (hw _ (List.mem_of_getElem? (i := 46) rfl))) (by decide) (by decide) (by decide)))
  have F45_pieceLine := (F42_pieceLine.ext E43).other W45 (Or.inr (slot_ne (t := .int) (t' := (.object "java/lang/String")) (Or.inl (hw _ (List.mem_of_getElem? (i := 80) rfl))) (Or.inr (hw _ (List.mem_of_getElem? (i := 46) rfl))) (by decide) (by decide) (by decide)))
  have F45_tag := (F42_tag.ext E43).other W45 (Or.inr (slot_ne (t := .boolean) (t' := (.object "java/lang/String")) (Or.inl (hw _ (List.mem_of_getElem? (i := 126) rfl))) (Or.inr (hw _ (List.mem_of_getElem? (i := 46) rfl))) (by decide) (by decide) (by decide)))
  have F45_piece := (F42_piece.ext E43).other W45 (Or.inr (slot_ne (t := (.object "java/lang/String")) (t' := (.object "java/lang/String")) (Or.inl (hw _ (List.mem_of_getElem? (i := 139) rfl))) (Or.inr (hw _ (List.mem_of_getElem? (i := 46) rfl))) (by decide) (by decide) (by decide)))
  have A45_s := (A42_s.ext E43).wr W45
  refine WP.retV dGI_22 rfl (by decide) (by decide) ?_
  exact ⟨rfl, K45, ⟨A45, F45_content, F45_position, F45_line, F45_pieceLine, F45_tag, F45_piece, hN⟩⟩
theorem dGT_0 : decode prog_18_method_3_code 0 = .ok (.aload_n 0, 1) := by decide +kernel
theorem dGT_1 : decode prog_18_method_3_code 1 = .ok (.getfield 44, 3) := by decide +kernel
theorem dGT_4 : decode prog_18_method_3_code 4 = .ok (.ireturn, 1) := by decide +kernel
set_option maxRecDepth 65536 in
set_option maxHeartbeats 40000000 in
theorem own_gt (l : Launch) (Z : State) (a0 : Array Value) (hw : ∀ d ∈ tables_1, d.before a0 Z = true) (EL : List (String × Nat)) (hEL : EW Z a0 EL) (h0 : Heap) (a s : Addr) (ps ln pl tg : Int32) (y : Addr) (htg : tg = 0 ∨ tg = 1) (F : SG Z h0 a s ps ln pl tg (.ref y)) :
    Con l Z EL false [] (⟨"com/example/fionn/fionn/io/SgmlScanner", "isTag", "()Z"⟩ : MethodName) prog_18_method_3_code 1 (some .boolean) ({ frames := 0, cells := 0, slots := 0, locals := 0 } : Room) #[(.ref a)] h0 (fun v h' => v = some ((.int tg)) ∧ h0 = h') := by
  refine Con.of (Ls := #[.val (.ref a)]) (plainFor_of_name own_pn5) hEL (fun m => by first | (simp [entryFrame, mkF, argsToLocals, Value.category]; done) | rfl) ?_
  intro vm0 hZ0 hE0 hC0 hS0
  refine WP.aloadN (n := 1) dGT_0 rfl rfl rfl ?_
  refine WP.getF (n := 4) (host := "") dGT_1 (Or.inl (hw _ (List.mem_of_getElem? (i := 125) rfl))) Via.refl F.2.2.2.2.2.1 rfl ?_
  rcases htg with rfl | rfl
  · exact WP.retN dGT_4 rfl (Or.inl rfl) (by decide) (by decide) (by decide) ⟨rfl, rfl⟩
  · exact WP.retN dGT_4 rfl (Or.inl rfl) (by decide) (by decide) (by decide) ⟨rfl, rfl⟩
theorem dGP_0 : decode prog_18_method_4_code 0 = .ok (.aload_n 0, 1) := by decide +kernel
theorem dGP_1 : decode prog_18_method_4_code 1 = .ok (.getfield 52, 3) := by decide +kernel
theorem dGP_4 : decode prog_18_method_4_code 4 = .ok (.areturn, 1) := by decide +kernel
set_option maxRecDepth 65536 in
set_option maxHeartbeats 40000000 in
theorem own_gp (l : Launch) (Z : State) (a0 : Array Value) (hw : ∀ d ∈ tables_1, d.before a0 Z = true) (EL : List (String × Nat)) (hEL : EW Z a0 EL) (h0 : Heap) (a s : Addr) (ps ln pl tg : Int32) (y : Addr) (htg : tg = 0 ∨ tg = 1) (F : SG Z h0 a s ps ln pl tg (.ref y)) :
    Con l Z EL false [] (⟨"com/example/fionn/fionn/io/SgmlScanner", "piece", "()Ljava/lang/String;"⟩ : MethodName) prog_18_method_4_code 1 (some (.object "java/lang/String")) ({ frames := 0, cells := 0, slots := 0, locals := 0 } : Room) #[(.ref a)] h0 (fun v h' => v = some ((.ref y)) ∧ h0 = h') := by
  refine Con.of (Ls := #[.val (.ref a)]) (plainFor_of_name own_pn5) hEL (fun m => by first | (simp [entryFrame, mkF, argsToLocals, Value.category]; done) | rfl) ?_
  intro vm0 hZ0 hE0 hC0 hS0
  refine WP.aloadN (n := 1) dGP_0 rfl rfl rfl ?_
  refine WP.getF (n := 4) (host := "") dGP_1 (Or.inl (hw _ (List.mem_of_getElem? (i := 138) rfl))) Via.refl F.2.2.2.2.2.2.1 rfl ?_
  exact WP.retA dGP_4 rfl rfl rfl rfl (by decide) (by decide) ⟨rfl, rfl⟩
theorem dGL_0 : decode prog_18_method_5_code 0 = .ok (.aload_n 0, 1) := by decide +kernel
theorem dGL_1 : decode prog_18_method_5_code 1 = .ok (.getfield 33, 3) := by decide +kernel
theorem dGL_4 : decode prog_18_method_5_code 4 = .ok (.ireturn, 1) := by decide +kernel
set_option maxRecDepth 65536 in
set_option maxHeartbeats 40000000 in
theorem own_gl (l : Launch) (Z : State) (a0 : Array Value) (hw : ∀ d ∈ tables_1, d.before a0 Z = true) (EL : List (String × Nat)) (hEL : EW Z a0 EL) (h0 : Heap) (a s : Addr) (ps ln pl tg : Int32) (y : Addr) (htg : tg = 0 ∨ tg = 1) (F : SG Z h0 a s ps ln pl tg (.ref y)) :
    Con l Z EL false [] (⟨"com/example/fionn/fionn/io/SgmlScanner", "line", "()I"⟩ : MethodName) prog_18_method_5_code 1 (some .int) ({ frames := 0, cells := 0, slots := 0, locals := 0 } : Room) #[(.ref a)] h0 (fun v h' => v = some ((.int pl)) ∧ h0 = h') := by
  refine Con.of (Ls := #[.val (.ref a)]) (plainFor_of_name own_pn5) hEL (fun m => by first | (simp [entryFrame, mkF, argsToLocals, Value.category]; done) | rfl) ?_
  intro vm0 hZ0 hE0 hC0 hS0
  refine WP.aloadN (n := 1) dGL_0 rfl rfl rfl ?_
  refine WP.getF (n := 4) (host := "") dGL_1 (Or.inl (hw _ (List.mem_of_getElem? (i := 79) rfl))) Via.refl F.2.2.2.2.1 rfl ?_
  exact WP.retI dGL_4 rfl (by decide) (by decide) ⟨rfl, rfl⟩
theorem dNX_0 : decode prog_18_method_2_code 0 = .ok (.aload_n 0, 1) := by decide +kernel
theorem dNX_1 : decode prog_18_method_2_code 1 = .ok (.getfield 26, 3) := by decide +kernel
theorem dNX_4 : decode prog_18_method_2_code 4 = .ok (.aload_n 0, 1) := by decide +kernel
theorem dNX_5 : decode prog_18_method_2_code 5 = .ok (.getfield 23, 3) := by decide +kernel
theorem dNX_8 : decode prog_18_method_2_code 8 = .ok (.invokevirtual 29, 3) := by decide +kernel
theorem dNX_11 : decode prog_18_method_2_code 11 = .ok (.if_icmp .lt 5, 3) := by decide +kernel
theorem dNX_14 : decode prog_18_method_2_code 14 = .ok (.iconst 0, 1) := by decide +kernel
theorem dNX_15 : decode prog_18_method_2_code 15 = .ok (.ireturn, 1) := by decide +kernel
theorem dNX_16 : decode prog_18_method_2_code 16 = .ok (.aload_n 0, 1) := by decide +kernel
theorem dNX_17 : decode prog_18_method_2_code 17 = .ok (.aload_n 0, 1) := by decide +kernel
theorem dNX_18 : decode prog_18_method_2_code 18 = .ok (.getfield 7, 3) := by decide +kernel
theorem dNX_21 : decode prog_18_method_2_code 21 = .ok (.putfield 33, 3) := by decide +kernel
theorem dNX_24 : decode prog_18_method_2_code 24 = .ok (.aload_n 0, 1) := by decide +kernel
theorem dNX_25 : decode prog_18_method_2_code 25 = .ok (.getfield 23, 3) := by decide +kernel
theorem dNX_28 : decode prog_18_method_2_code 28 = .ok (.aload_n 0, 1) := by decide +kernel
theorem dNX_29 : decode prog_18_method_2_code 29 = .ok (.getfield 26, 3) := by decide +kernel
theorem dNX_32 : decode prog_18_method_2_code 32 = .ok (.invokevirtual 36, 3) := by decide +kernel
theorem dNX_35 : decode prog_18_method_2_code 35 = .ok (.bipush 60, 2) := by decide +kernel
theorem dNX_37 : decode prog_18_method_2_code 37 = .ok (.if_icmp .ne 19, 3) := by decide +kernel
theorem dNX_40 : decode prog_18_method_2_code 40 = .ok (.aload_n 0, 1) := by decide +kernel
theorem dNX_41 : decode prog_18_method_2_code 41 = .ok (.getfield 23, 3) := by decide +kernel
theorem dNX_44 : decode prog_18_method_2_code 44 = .ok (.bipush 62, 2) := by decide +kernel
theorem dNX_46 : decode prog_18_method_2_code 46 = .ok (.aload_n 0, 1) := by decide +kernel
theorem dNX_47 : decode prog_18_method_2_code 47 = .ok (.getfield 26, 3) := by decide +kernel
theorem dNX_50 : decode prog_18_method_2_code 50 = .ok (.invokevirtual 40, 3) := by decide +kernel
theorem dNX_53 : decode prog_18_method_2_code 53 = .ok (.goto 4, 3) := by decide +kernel
theorem dNX_56 : decode prog_18_method_2_code 56 = .ok (.iconst (-1), 1) := by decide +kernel
theorem dNX_57 : decode prog_18_method_2_code 57 = .ok (.istore_n 2, 1) := by decide +kernel
theorem dNX_58 : decode prog_18_method_2_code 58 = .ok (.iload_n 2, 1) := by decide +kernel
theorem dNX_59 : decode prog_18_method_2_code 59 = .ok (.ifCond .lt 33, 3) := by decide +kernel
theorem dNX_62 : decode prog_18_method_2_code 62 = .ok (.aload_n 0, 1) := by decide +kernel
theorem dNX_63 : decode prog_18_method_2_code 63 = .ok (.iconst 1, 1) := by decide +kernel
theorem dNX_64 : decode prog_18_method_2_code 64 = .ok (.putfield 44, 3) := by decide +kernel
theorem dNX_67 : decode prog_18_method_2_code 67 = .ok (.aload_n 0, 1) := by decide +kernel
theorem dNX_68 : decode prog_18_method_2_code 68 = .ok (.aload_n 0, 1) := by decide +kernel
theorem dNX_69 : decode prog_18_method_2_code 69 = .ok (.getfield 23, 3) := by decide +kernel
theorem dNX_72 : decode prog_18_method_2_code 72 = .ok (.aload_n 0, 1) := by decide +kernel
theorem dNX_73 : decode prog_18_method_2_code 73 = .ok (.getfield 26, 3) := by decide +kernel
theorem dNX_76 : decode prog_18_method_2_code 76 = .ok (.iconst 1, 1) := by decide +kernel
theorem dNX_77 : decode prog_18_method_2_code 77 = .ok (.iadd, 1) := by decide +kernel
theorem dNX_78 : decode prog_18_method_2_code 78 = .ok (.iload_n 2, 1) := by decide +kernel
theorem dNX_79 : decode prog_18_method_2_code 79 = .ok (.invokevirtual 48, 3) := by decide +kernel
theorem dNX_82 : decode prog_18_method_2_code 82 = .ok (.putfield 52, 3) := by decide +kernel
theorem dNX_85 : decode prog_18_method_2_code 85 = .ok (.iload_n 2, 1) := by decide +kernel
theorem dNX_86 : decode prog_18_method_2_code 86 = .ok (.iconst 1, 1) := by decide +kernel
theorem dNX_87 : decode prog_18_method_2_code 87 = .ok (.iadd, 1) := by decide +kernel
theorem dNX_88 : decode prog_18_method_2_code 88 = .ok (.istore_n 1, 1) := by decide +kernel
theorem dNX_89 : decode prog_18_method_2_code 89 = .ok (.goto 56, 3) := by decide +kernel
theorem dNX_92 : decode prog_18_method_2_code 92 = .ok (.aload_n 0, 1) := by decide +kernel
theorem dNX_93 : decode prog_18_method_2_code 93 = .ok (.iconst 0, 1) := by decide +kernel
theorem dNX_94 : decode prog_18_method_2_code 94 = .ok (.putfield 44, 3) := by decide +kernel
theorem dNX_97 : decode prog_18_method_2_code 97 = .ok (.aload_n 0, 1) := by decide +kernel
theorem dNX_98 : decode prog_18_method_2_code 98 = .ok (.getfield 23, 3) := by decide +kernel
theorem dNX_101 : decode prog_18_method_2_code 101 = .ok (.bipush 60, 2) := by decide +kernel
theorem dNX_103 : decode prog_18_method_2_code 103 = .ok (.aload_n 0, 1) := by decide +kernel
theorem dNX_104 : decode prog_18_method_2_code 104 = .ok (.getfield 26, 3) := by decide +kernel
theorem dNX_107 : decode prog_18_method_2_code 107 = .ok (.iconst 1, 1) := by decide +kernel
theorem dNX_108 : decode prog_18_method_2_code 108 = .ok (.iadd, 1) := by decide +kernel
theorem dNX_109 : decode prog_18_method_2_code 109 = .ok (.invokevirtual 40, 3) := by decide +kernel
theorem dNX_112 : decode prog_18_method_2_code 112 = .ok (.istore_n 3, 1) := by decide +kernel
theorem dNX_113 : decode prog_18_method_2_code 113 = .ok (.iload_n 3, 1) := by decide +kernel
theorem dNX_114 : decode prog_18_method_2_code 114 = .ok (.ifCond .ge 13, 3) := by decide +kernel
theorem dNX_117 : decode prog_18_method_2_code 117 = .ok (.aload_n 0, 1) := by decide +kernel
theorem dNX_118 : decode prog_18_method_2_code 118 = .ok (.getfield 23, 3) := by decide +kernel
theorem dNX_121 : decode prog_18_method_2_code 121 = .ok (.invokevirtual 29, 3) := by decide +kernel
theorem dNX_124 : decode prog_18_method_2_code 124 = .ok (.goto 4, 3) := by decide +kernel
theorem dNX_127 : decode prog_18_method_2_code 127 = .ok (.iload_n 3, 1) := by decide +kernel
theorem dNX_128 : decode prog_18_method_2_code 128 = .ok (.istore_n 1, 1) := by decide +kernel
theorem dNX_129 : decode prog_18_method_2_code 129 = .ok (.aload_n 0, 1) := by decide +kernel
theorem dNX_130 : decode prog_18_method_2_code 130 = .ok (.aload_n 0, 1) := by decide +kernel
theorem dNX_131 : decode prog_18_method_2_code 131 = .ok (.getfield 23, 3) := by decide +kernel
theorem dNX_134 : decode prog_18_method_2_code 134 = .ok (.aload_n 0, 1) := by decide +kernel
theorem dNX_135 : decode prog_18_method_2_code 135 = .ok (.getfield 26, 3) := by decide +kernel
theorem dNX_138 : decode prog_18_method_2_code 138 = .ok (.iload_n 1, 1) := by decide +kernel
theorem dNX_139 : decode prog_18_method_2_code 139 = .ok (.invokevirtual 48, 3) := by decide +kernel
theorem dNX_142 : decode prog_18_method_2_code 142 = .ok (.putfield 52, 3) := by decide +kernel
theorem dNX_145 : decode prog_18_method_2_code 145 = .ok (.aload_n 0, 1) := by decide +kernel
theorem dNX_146 : decode prog_18_method_2_code 146 = .ok (.getfield 26, 3) := by decide +kernel
theorem dNX_149 : decode prog_18_method_2_code 149 = .ok (.istore_n 3, 1) := by decide +kernel
theorem dNX_150 : decode prog_18_method_2_code 150 = .ok (.iload_n 3, 1) := by decide +kernel
theorem dNX_151 : decode prog_18_method_2_code 151 = .ok (.iload_n 1, 1) := by decide +kernel
theorem dNX_152 : decode prog_18_method_2_code 152 = .ok (.if_icmp .ge 32, 3) := by decide +kernel
theorem dNX_155 : decode prog_18_method_2_code 155 = .ok (.aload_n 0, 1) := by decide +kernel
theorem dNX_156 : decode prog_18_method_2_code 156 = .ok (.getfield 23, 3) := by decide +kernel
theorem dNX_159 : decode prog_18_method_2_code 159 = .ok (.iload_n 3, 1) := by decide +kernel
theorem dNX_160 : decode prog_18_method_2_code 160 = .ok (.invokevirtual 36, 3) := by decide +kernel
theorem dNX_163 : decode prog_18_method_2_code 163 = .ok (.bipush 10, 2) := by decide +kernel
theorem dNX_165 : decode prog_18_method_2_code 165 = .ok (.if_icmp .ne 13, 3) := by decide +kernel
theorem dNX_168 : decode prog_18_method_2_code 168 = .ok (.aload_n 0, 1) := by decide +kernel
theorem dNX_169 : decode prog_18_method_2_code 169 = .ok (.dup, 1) := by decide +kernel
theorem dNX_170 : decode prog_18_method_2_code 170 = .ok (.getfield 7, 3) := by decide +kernel
theorem dNX_173 : decode prog_18_method_2_code 173 = .ok (.iconst 1, 1) := by decide +kernel
theorem dNX_174 : decode prog_18_method_2_code 174 = .ok (.iadd, 1) := by decide +kernel
theorem dNX_175 : decode prog_18_method_2_code 175 = .ok (.putfield 7, 3) := by decide +kernel
theorem dNX_178 : decode prog_18_method_2_code 178 = .ok (.iinc 3 1, 3) := by decide +kernel
theorem dNX_181 : decode prog_18_method_2_code 181 = .ok (.goto (-31), 3) := by decide +kernel
theorem dNX_184 : decode prog_18_method_2_code 184 = .ok (.aload_n 0, 1) := by decide +kernel
theorem dNX_185 : decode prog_18_method_2_code 185 = .ok (.iload_n 1, 1) := by decide +kernel
theorem dNX_186 : decode prog_18_method_2_code 186 = .ok (.putfield 26, 3) := by decide +kernel
theorem dNX_189 : decode prog_18_method_2_code 189 = .ok (.iconst 1, 1) := by decide +kernel
theorem dNX_190 : decode prog_18_method_2_code 190 = .ok (.ireturn, 1) := by decide +kernel
set_option maxRecDepth 65536 in
set_option maxHeartbeats 40000000 in
theorem own_nx0 (l : Launch) (Z : State) (a0 : Array Value) (hw : ∀ d ∈ tables_1, d.before a0 Z = true) (EL : List (String × Nat)) (hEL : EW Z a0 EL) (h0 : Heap) (a s : Addr) (cs : List Int32) (G : SC Z h0 s cs) (p : Nat) (ln pl tg : Int32) (pv : Value) (F : SG Z h0 a s (Int32.ofNat p) ln pl tg pv) (hp : ¬ p < cs.length) (hp2 : p ≤ 4) (hm : ("java/lang/StringLatin1", 151) ∈ EL) (fv : Value) (hv : fv.isRef = true) (Fm : Sta Z Z.heap "jdk/internal/util/Preconditions" "SIOOBE_FORMATTER" "Ljava/util/function/BiFunction;" fv) (cz : Int32) (O : Sta Z Z.heap "java/lang/String" "COMPACT_STRINGS" "Z" (.int cz)) (hO : ¬ cz = 0) :
    Con l Z EL false [] (⟨"com/example/fionn/fionn/io/SgmlScanner", "next", "()Z"⟩ : MethodName) prog_18_method_2_code 4 (some .boolean) ({ frames := 5, cells := 4, slots := 12, locals := 120 } : Room) #[(.ref a)] h0 (fun v h' => v = some (.int 0) ∧ h0 = h') := by
  refine Con.of (Ls := #[.val (.ref a), .unset, .unset, .unset]) (plainFor_of_name own_pn5) hEL (fun m => by first | (simp [entryFrame, mkF, argsToLocals, Value.category]; done) | rfl) ?_
  intro vm0 hZ0 hE0 hC0 hS0
  obtain ⟨f1, f2, f3, f4, f5, f6, f7, f8⟩ := id F
  have hl := G.2.2
  refine WP.aloadN (n := 1) dNX_0 rfl rfl rfl ?_
  refine WP.getF (n := 4) (host := "") dNX_1 (Or.inl (hw _ (List.mem_of_getElem? (i := 56) rfl))) Via.refl f3 rfl ?_
  refine WP.aloadN (n := 5) dNX_4 rfl rfl rfl ?_
  refine WP.getF (n := 8) (host := "") dNX_5 (Or.inl (hw _ (List.mem_of_getElem? (i := 45) rfl))) Via.refl f2 rfl ?_
  refine WP.callV (n := 11) (ce' := 0) (sl' := 0) (Wd := 1) (a := s) (argsL := []) (rest := [(.int (Int32.ofNat p))]) (own_len l Z a0 hw EL hEL h0 s (cs.map own_b) G.1 cz O hO) G.1.1 dNX_8 (hw _ (List.mem_of_getElem? (i := 58) rfl)) (hw _ (List.mem_of_getElem? (i := 59) rfl)) (hw _ (List.mem_of_getElem? (i := 61) rfl)) (hw _ (List.mem_of_getElem? (i := 60) rfl)) (hw _ (List.mem_of_getElem? (i := 11) rfl)) (hw _ (List.mem_of_getElem? (i := 62) rfl)) (by decide) (fun _ hz => notFace_of_selects (args := #[]) (mvT hz (hw _ (List.mem_of_getElem? (i := 61) rfl)))) (fun _ q => nomatch q) (by decide) (by decide) rfl rfl (by decide) (by decide) rfl rfl (lenOf own_pd10 rfl) rfl (Nat.le_of_eq rfl) rfl (fun v46 vm46 h46 q46 r46 => ?_)
  obtain ⟨rfl, rfl⟩ := q46
  rw [List.length_map]
  refine WP.icmpN (n' := 14) dNX_11 (flt (by rw [own_ltN (by omega) (by omega)]; exact hp)).1 rfl ?_
  refine WP.iconst (n := 15) (z := (0 : Int32)) dNX_14 rfl rfl ?_
  exact WP.retN dNX_15 rfl (Or.inl rfl) (by decide : nar .boolean 0 = 0) (by decide) (by decide) ⟨rfl, rfl⟩
set_option maxRecDepth 65536 in
set_option maxHeartbeats 40000000 in
theorem own_nxl (l : Launch) (Z : State) (a0 : Array Value) (hw : ∀ d ∈ tables_1, d.before a0 Z = true) (EL : List (String × Nat)) (hEL : EW Z a0 EL) (h0 : Heap) (a s y : Addr) (cs ds : List Int32) (p e : Nat) (ln ln' tg cl : Int32) (he : e ≤ cs.length) (hm : ("java/lang/StringLatin1", 151) ∈ EL) (fv : Value) (hv : fv.isRef = true) (Fm : Sta Z Z.heap "jdk/internal/util/Preconditions" "SIOOBE_FORMATTER" "Ljava/util/function/BiFunction;" fv) (cz : Int32) (O : Sta Z Z.heap "java/lang/String" "COMPACT_STRINGS" "Z" (.int cz)) (hO : ¬ cz = 0) : ∀ r j (vm1 : Vm) (h1 : Heap) (x : Int32), j + r = e → x + own_cnt cs r j = ln' → Keep h0 h1 [a] → SC Z h1 s cs → SC Z h1 y ds → SG Z h1 a s (Int32.ofNat p) x ln tg (.ref y) → WP l Z EL false "com/example/fionn/fionn/io/SgmlScanner" "next" prog_18_method_2_code 4 (some .boolean) ({ frames := 5, cells := 4, slots := 12, locals := 120 } : Room) (fun v h' => v = some (.int 1) ∧ Keep h0 h' [a] ∧ SC Z h' y ds ∧ SG Z h' a s (Int32.ofNat e) ln' ln tg (.ref y)) vm1 h1 4 12 150 #[.val (.ref a), .val (.int (Int32.ofNat e)), .val (.int cl), .val (.int (Int32.ofNat j))] [] := by
  intro r
  induction r with
  | zero =>
    intro j vm1 h1 x hj hx K G Y F
    obtain ⟨f1, f2, f3, f4, f5, f6, f7, f8⟩ := id F
    have hl := G.2.2
    refine WP.iloadN (n := 151) dNX_150 rfl rfl ?_
    refine WP.iloadN (n := 152) dNX_151 rfl rfl ?_
    refine WP.icmpY (n := 184) dNX_152 (flt (by rw [own_ltN (by omega) (by omega)]; omega)).2.1 (by decide) (by decide) ?_
    refine WP.aloadN (n := 185) dNX_184 rfl rfl rfl ?_
    refine WP.iloadN (n := 186) dNX_185 rfl rfl ?_
    refine WP.putFE (n := 189) (host := "") (ty := .int) dNX_186 (Or.inl (hw _ (List.mem_of_getElem? (i := 56) rfl))) Via.refl f3 f1 (Or.inl (hw _ (List.mem_of_getElem? (i := 57) rfl))) (hw _ (List.mem_of_getElem? (i := 31) rfl)) (by decide) rfl rfl f8 (by decide) rfl (fun h47 W47 r47 => ?_)
    have A47 := f1.wr W47
    have K47 := K.wr W47 (Or.inl (List.mem_cons_self ..))
    have F47_position := f3.same W47
    have F47_content := f2.other W47 (Or.inr (slot_ne (t := (.object "java/lang/String")) (t' := .int) (Or.inr (hw _ (List.mem_of_getElem? (i := 46) rfl))) (Or.inl (hw _ (List.mem_of_getElem? (i := 57) rfl))) (by decide) (by decide) (by decide)))
    have F47_line := f4.other W47 (Or.inr (slot_ne (t := .int) (t' := .int) (Or.inl (hw _ (List.mem_of_getElem? (i := 38) rfl))) (Or.inl (hw _ (List.mem_of_getElem? (i := 57) rfl))) (by decide) (by decide) (by decide)))
    have F47_pieceLine := f5.other W47 (Or.inr (slot_ne (t := .int) (t' := .int) (Or.inl (hw _ (List.mem_of_getElem? (i := 80) rfl))) (Or.inl (hw _ (List.mem_of_getElem? (i := 57) rfl))) (by decide) (by decide) (by decide)))
    have F47_tag := f6.other W47 (Or.inr (slot_ne (t := .boolean) (t' := .int) (Or.inl (hw _ (List.mem_of_getElem? (i := 126) rfl))) (Or.inl (hw _ (List.mem_of_getElem? (i := 57) rfl))) (by decide) (by decide) (by decide)))
    have F47_piece := f7.other W47 (Or.inr (slot_ne (t := (.object "java/lang/String")) (t' := .int) (Or.inl (hw _ (List.mem_of_getElem? (i := 139) rfl))) (Or.inl (hw _ (List.mem_of_getElem? (i := 57) rfl))) (by decide) (by decide) (by decide)))
    refine WP.iconst (n := 190) (z := (1 : Int32)) dNX_189 rfl rfl ?_
    exact WP.retN dNX_190 rfl (Or.inl rfl) (by decide : nar .boolean 1 = 1) (by decide) (by decide) ⟨rfl, K47, own_sck Y f1 (Keep.of_wr W47) (by decide) (hw _ (List.mem_of_getElem? (i := 31) rfl)), by rw [← hx]; show SG Z _ a s _ (x + 0) _ _ _; rw [show x + 0 = x by simp]; exact ⟨A47, F47_content, F47_position, F47_line, F47_pieceLine, F47_tag, F47_piece, f8⟩⟩
  | succ r ih =>
    intro j vm1 h1 x hj hx K G Y F
    obtain ⟨f1, f2, f3, f4, f5, f6, f7, f8⟩ := id F
    have hl := G.2.2
    have jl : j < cs.length := by omega
    refine WP.iloadN (n := 151) dNX_150 rfl rfl ?_
    refine WP.iloadN (n := 152) dNX_151 rfl rfl ?_
    refine WP.icmpN (n' := 155) dNX_152 (tlt (by rw [own_ltN (by omega) (by omega)]; omega)).2.1 rfl ?_
    refine WP.aloadN (n := 156) dNX_155 rfl rfl rfl ?_
    refine WP.getF (n := 159) (host := "") dNX_156 (Or.inl (hw _ (List.mem_of_getElem? (i := 45) rfl))) Via.refl f2 rfl ?_
    refine WP.iloadN (n := 160) dNX_159 rfl rfl ?_
    refine WP.callV (n := 163) (ce' := 4) (sl' := 12) (Wd := 0) (a := s) (argsL := [(.int (Int32.ofNat j))]) (rest := []) (own_ca l Z a0 hw EL hEL h1 s cs G j jl fv hv Fm cz O hO) G.1.1 dNX_160 (hw _ (List.mem_of_getElem? (i := 81) rfl)) (hw _ (List.mem_of_getElem? (i := 82) rfl)) (hw _ (List.mem_of_getElem? (i := 84) rfl)) (hw _ (List.mem_of_getElem? (i := 83) rfl)) (hw _ (List.mem_of_getElem? (i := 11) rfl)) (hw _ (List.mem_of_getElem? (i := 85) rfl)) (by decide) (fun _ hz => notFace_of_selects (args := #[]) (mvT hz (hw _ (List.mem_of_getElem? (i := 84) rfl)))) (fun _ q => nomatch q) (by decide) (by decide) rfl rfl (by decide) (by decide) rfl rfl (lenOf own_pd16 rfl) rfl (Nat.le_of_eq rfl) rfl (fun v48 vm48 h48 q48 r48 => ?_)
    obtain ⟨rfl, rfl⟩ := q48
    refine WP.bipush (n := 165) (z := (10 : Int32)) dNX_163 (by decide) rfl ?_
    refine WP.icmp_ne (n := 178) (n' := 168) dNX_165 (by decide) (by decide) rfl (fun b49 => ?_) (fun b49 => ?_)
    · refine WP.iinc (n := 181) (z := Int32.ofNat (j + 1)) (Ls' := #[.val (.ref a), .val (.int (Int32.ofNat e)), .val (.int cl), .val (.int (Int32.ofNat (j + 1)))]) dNX_178 rfl (own_inc (by omega)) rfl rfl ?_
      refine WP.goto (n := 150) dNX_181 (by decide) (by decide) ?_
      have hb : ¬ cs.getD j 0 = 10 := by rw [own_getD jl]; exact b49
      exact ih (j + 1) _ _ x (by omega) (by rw [← hx]; simp only [own_cnt]; rw [if_neg hb]; simp) K G Y ⟨f1, f2, f3, f4, f5, f6, f7, f8⟩
    · refine WP.aloadN (n := 169) dNX_168 rfl rfl rfl ?_
      refine WP.dup (n := 170) dNX_169 rfl rfl ?_
      refine WP.getF (n := 173) (host := "") dNX_170 (Or.inl (hw _ (List.mem_of_getElem? (i := 37) rfl))) Via.refl f4 rfl ?_
      refine WP.iconst (n := 174) (z := (1 : Int32)) dNX_173 rfl rfl ?_
      refine WP.iadd (n := 175) dNX_174  rfl ?_
      refine WP.putFE (n := 178) (host := "") (ty := .int) dNX_175 (Or.inl (hw _ (List.mem_of_getElem? (i := 37) rfl))) Via.refl f4 f1 (Or.inl (hw _ (List.mem_of_getElem? (i := 38) rfl))) (hw _ (List.mem_of_getElem? (i := 31) rfl)) (by decide) rfl rfl f8 (by decide) rfl (fun h50 W50 r50 => ?_)
      have A50 := f1.wr W50
      have K50 := K.wr W50 (Or.inl (List.mem_cons_self ..))
      have F50_line := f4.same W50
      have F50_content := f2.other W50 (Or.inr (slot_ne (t := (.object "java/lang/String")) (t' := .int) (Or.inr (hw _ (List.mem_of_getElem? (i := 46) rfl))) (Or.inl (hw _ (List.mem_of_getElem? (i := 38) rfl))) (by decide) (by decide) (by decide)))
      have F50_position := f3.other W50 (Or.inr (slot_ne (t := .int) (t' := .int) (Or.inl (hw _ (List.mem_of_getElem? (i := 57) rfl))) (Or.inl (hw _ (List.mem_of_getElem? (i := 38) rfl))) (by decide) (by decide) (by decide)))
      have F50_pieceLine := f5.other W50 (Or.inr (slot_ne (t := .int) (t' := .int) (Or.inl (hw _ (List.mem_of_getElem? (i := 80) rfl))) (Or.inl (hw _ (List.mem_of_getElem? (i := 38) rfl))) (by decide) (by decide) (by decide)))
      have F50_tag := f6.other W50 (Or.inr (slot_ne (t := .boolean) (t' := .int) (Or.inl (hw _ (List.mem_of_getElem? (i := 126) rfl))) (Or.inl (hw _ (List.mem_of_getElem? (i := 38) rfl))) (by decide) (by decide) (by decide)))
      have F50_piece := f7.other W50 (Or.inr (slot_ne (t := (.object "java/lang/String")) (t' := .int) (Or.inl (hw _ (List.mem_of_getElem? (i := 139) rfl))) (Or.inl (hw _ (List.mem_of_getElem? (i := 38) rfl))) (by decide) (by decide) (by decide)))
      have G50 := own_sck G f1 (Keep.of_wr W50) (by decide) (hw _ (List.mem_of_getElem? (i := 31) rfl))
      have Y50 := own_sck Y f1 (Keep.of_wr W50) (by decide) (hw _ (List.mem_of_getElem? (i := 31) rfl))
      refine WP.iinc (n := 181) (z := Int32.ofNat (j + 1)) (Ls' := #[.val (.ref a), .val (.int (Int32.ofNat e)), .val (.int cl), .val (.int (Int32.ofNat (j + 1)))]) dNX_178 rfl (own_inc (by omega)) rfl rfl ?_
      refine WP.goto (n := 150) dNX_181 (by decide) (by decide) ?_
      have hb : cs.getD j 0 = 10 := by rw [own_getD jl]; exact b49
      exact ih (j + 1) _ _ (x + 1) (by omega) (by rw [← hx]; simp only [own_cnt]; rw [if_pos hb, Int32.add_assoc]) K50 G50 Y50 ⟨A50, F50_content, F50_position, F50_line, F50_pieceLine, F50_tag, F50_piece, f8⟩
theorem dNY_0 : decode prog_18_method_2_code 0 = .ok (.aload_n 0, 1) := by decide +kernel
theorem dNY_1 : decode prog_18_method_2_code 1 = .ok (.getfield 26, 3) := by decide +kernel
theorem dNY_4 : decode prog_18_method_2_code 4 = .ok (.aload_n 0, 1) := by decide +kernel
theorem dNY_5 : decode prog_18_method_2_code 5 = .ok (.getfield 23, 3) := by decide +kernel
theorem dNY_8 : decode prog_18_method_2_code 8 = .ok (.invokevirtual 29, 3) := by decide +kernel
theorem dNY_11 : decode prog_18_method_2_code 11 = .ok (.if_icmp .lt 5, 3) := by decide +kernel
theorem dNY_14 : decode prog_18_method_2_code 14 = .ok (.iconst 0, 1) := by decide +kernel
theorem dNY_15 : decode prog_18_method_2_code 15 = .ok (.ireturn, 1) := by decide +kernel
theorem dNY_16 : decode prog_18_method_2_code 16 = .ok (.aload_n 0, 1) := by decide +kernel
theorem dNY_17 : decode prog_18_method_2_code 17 = .ok (.aload_n 0, 1) := by decide +kernel
theorem dNY_18 : decode prog_18_method_2_code 18 = .ok (.getfield 7, 3) := by decide +kernel
theorem dNY_21 : decode prog_18_method_2_code 21 = .ok (.putfield 33, 3) := by decide +kernel
theorem dNY_24 : decode prog_18_method_2_code 24 = .ok (.aload_n 0, 1) := by decide +kernel
theorem dNY_25 : decode prog_18_method_2_code 25 = .ok (.getfield 23, 3) := by decide +kernel
theorem dNY_28 : decode prog_18_method_2_code 28 = .ok (.aload_n 0, 1) := by decide +kernel
theorem dNY_29 : decode prog_18_method_2_code 29 = .ok (.getfield 26, 3) := by decide +kernel
theorem dNY_32 : decode prog_18_method_2_code 32 = .ok (.invokevirtual 36, 3) := by decide +kernel
theorem dNY_35 : decode prog_18_method_2_code 35 = .ok (.bipush 60, 2) := by decide +kernel
theorem dNY_37 : decode prog_18_method_2_code 37 = .ok (.if_icmp .ne 19, 3) := by decide +kernel
theorem dNY_40 : decode prog_18_method_2_code 40 = .ok (.aload_n 0, 1) := by decide +kernel
theorem dNY_41 : decode prog_18_method_2_code 41 = .ok (.getfield 23, 3) := by decide +kernel
theorem dNY_44 : decode prog_18_method_2_code 44 = .ok (.bipush 62, 2) := by decide +kernel
theorem dNY_46 : decode prog_18_method_2_code 46 = .ok (.aload_n 0, 1) := by decide +kernel
theorem dNY_47 : decode prog_18_method_2_code 47 = .ok (.getfield 26, 3) := by decide +kernel
theorem dNY_50 : decode prog_18_method_2_code 50 = .ok (.invokevirtual 40, 3) := by decide +kernel
theorem dNY_53 : decode prog_18_method_2_code 53 = .ok (.goto 4, 3) := by decide +kernel
theorem dNY_56 : decode prog_18_method_2_code 56 = .ok (.iconst (-1), 1) := by decide +kernel
theorem dNY_57 : decode prog_18_method_2_code 57 = .ok (.istore_n 2, 1) := by decide +kernel
theorem dNY_58 : decode prog_18_method_2_code 58 = .ok (.iload_n 2, 1) := by decide +kernel
theorem dNY_59 : decode prog_18_method_2_code 59 = .ok (.ifCond .lt 33, 3) := by decide +kernel
theorem dNY_62 : decode prog_18_method_2_code 62 = .ok (.aload_n 0, 1) := by decide +kernel
theorem dNY_63 : decode prog_18_method_2_code 63 = .ok (.iconst 1, 1) := by decide +kernel
theorem dNY_64 : decode prog_18_method_2_code 64 = .ok (.putfield 44, 3) := by decide +kernel
theorem dNY_67 : decode prog_18_method_2_code 67 = .ok (.aload_n 0, 1) := by decide +kernel
theorem dNY_68 : decode prog_18_method_2_code 68 = .ok (.aload_n 0, 1) := by decide +kernel
theorem dNY_69 : decode prog_18_method_2_code 69 = .ok (.getfield 23, 3) := by decide +kernel
theorem dNY_72 : decode prog_18_method_2_code 72 = .ok (.aload_n 0, 1) := by decide +kernel
theorem dNY_73 : decode prog_18_method_2_code 73 = .ok (.getfield 26, 3) := by decide +kernel
theorem dNY_76 : decode prog_18_method_2_code 76 = .ok (.iconst 1, 1) := by decide +kernel
theorem dNY_77 : decode prog_18_method_2_code 77 = .ok (.iadd, 1) := by decide +kernel
theorem dNY_78 : decode prog_18_method_2_code 78 = .ok (.iload_n 2, 1) := by decide +kernel
theorem dNY_79 : decode prog_18_method_2_code 79 = .ok (.invokevirtual 48, 3) := by decide +kernel
theorem dNY_82 : decode prog_18_method_2_code 82 = .ok (.putfield 52, 3) := by decide +kernel
theorem dNY_85 : decode prog_18_method_2_code 85 = .ok (.iload_n 2, 1) := by decide +kernel
theorem dNY_86 : decode prog_18_method_2_code 86 = .ok (.iconst 1, 1) := by decide +kernel
theorem dNY_87 : decode prog_18_method_2_code 87 = .ok (.iadd, 1) := by decide +kernel
theorem dNY_88 : decode prog_18_method_2_code 88 = .ok (.istore_n 1, 1) := by decide +kernel
theorem dNY_89 : decode prog_18_method_2_code 89 = .ok (.goto 56, 3) := by decide +kernel
theorem dNY_92 : decode prog_18_method_2_code 92 = .ok (.aload_n 0, 1) := by decide +kernel
theorem dNY_93 : decode prog_18_method_2_code 93 = .ok (.iconst 0, 1) := by decide +kernel
theorem dNY_94 : decode prog_18_method_2_code 94 = .ok (.putfield 44, 3) := by decide +kernel
theorem dNY_97 : decode prog_18_method_2_code 97 = .ok (.aload_n 0, 1) := by decide +kernel
theorem dNY_98 : decode prog_18_method_2_code 98 = .ok (.getfield 23, 3) := by decide +kernel
theorem dNY_101 : decode prog_18_method_2_code 101 = .ok (.bipush 60, 2) := by decide +kernel
theorem dNY_103 : decode prog_18_method_2_code 103 = .ok (.aload_n 0, 1) := by decide +kernel
theorem dNY_104 : decode prog_18_method_2_code 104 = .ok (.getfield 26, 3) := by decide +kernel
theorem dNY_107 : decode prog_18_method_2_code 107 = .ok (.iconst 1, 1) := by decide +kernel
theorem dNY_108 : decode prog_18_method_2_code 108 = .ok (.iadd, 1) := by decide +kernel
theorem dNY_109 : decode prog_18_method_2_code 109 = .ok (.invokevirtual 40, 3) := by decide +kernel
theorem dNY_112 : decode prog_18_method_2_code 112 = .ok (.istore_n 3, 1) := by decide +kernel
theorem dNY_113 : decode prog_18_method_2_code 113 = .ok (.iload_n 3, 1) := by decide +kernel
theorem dNY_114 : decode prog_18_method_2_code 114 = .ok (.ifCond .ge 13, 3) := by decide +kernel
theorem dNY_117 : decode prog_18_method_2_code 117 = .ok (.aload_n 0, 1) := by decide +kernel
theorem dNY_118 : decode prog_18_method_2_code 118 = .ok (.getfield 23, 3) := by decide +kernel
theorem dNY_121 : decode prog_18_method_2_code 121 = .ok (.invokevirtual 29, 3) := by decide +kernel
theorem dNY_124 : decode prog_18_method_2_code 124 = .ok (.goto 4, 3) := by decide +kernel
theorem dNY_127 : decode prog_18_method_2_code 127 = .ok (.iload_n 3, 1) := by decide +kernel
theorem dNY_128 : decode prog_18_method_2_code 128 = .ok (.istore_n 1, 1) := by decide +kernel
theorem dNY_129 : decode prog_18_method_2_code 129 = .ok (.aload_n 0, 1) := by decide +kernel
theorem dNY_130 : decode prog_18_method_2_code 130 = .ok (.aload_n 0, 1) := by decide +kernel
theorem dNY_131 : decode prog_18_method_2_code 131 = .ok (.getfield 23, 3) := by decide +kernel
theorem dNY_134 : decode prog_18_method_2_code 134 = .ok (.aload_n 0, 1) := by decide +kernel
theorem dNY_135 : decode prog_18_method_2_code 135 = .ok (.getfield 26, 3) := by decide +kernel
theorem dNY_138 : decode prog_18_method_2_code 138 = .ok (.iload_n 1, 1) := by decide +kernel
theorem dNY_139 : decode prog_18_method_2_code 139 = .ok (.invokevirtual 48, 3) := by decide +kernel
theorem dNY_142 : decode prog_18_method_2_code 142 = .ok (.putfield 52, 3) := by decide +kernel
theorem dNY_145 : decode prog_18_method_2_code 145 = .ok (.aload_n 0, 1) := by decide +kernel
theorem dNY_146 : decode prog_18_method_2_code 146 = .ok (.getfield 26, 3) := by decide +kernel
theorem dNY_149 : decode prog_18_method_2_code 149 = .ok (.istore_n 3, 1) := by decide +kernel
theorem dNY_150 : decode prog_18_method_2_code 150 = .ok (.iload_n 3, 1) := by decide +kernel
theorem dNY_151 : decode prog_18_method_2_code 151 = .ok (.iload_n 1, 1) := by decide +kernel
theorem dNY_152 : decode prog_18_method_2_code 152 = .ok (.if_icmp .ge 32, 3) := by decide +kernel
theorem dNY_155 : decode prog_18_method_2_code 155 = .ok (.aload_n 0, 1) := by decide +kernel
theorem dNY_156 : decode prog_18_method_2_code 156 = .ok (.getfield 23, 3) := by decide +kernel
theorem dNY_159 : decode prog_18_method_2_code 159 = .ok (.iload_n 3, 1) := by decide +kernel
theorem dNY_160 : decode prog_18_method_2_code 160 = .ok (.invokevirtual 36, 3) := by decide +kernel
theorem dNY_163 : decode prog_18_method_2_code 163 = .ok (.bipush 10, 2) := by decide +kernel
theorem dNY_165 : decode prog_18_method_2_code 165 = .ok (.if_icmp .ne 13, 3) := by decide +kernel
theorem dNY_168 : decode prog_18_method_2_code 168 = .ok (.aload_n 0, 1) := by decide +kernel
theorem dNY_169 : decode prog_18_method_2_code 169 = .ok (.dup, 1) := by decide +kernel
theorem dNY_170 : decode prog_18_method_2_code 170 = .ok (.getfield 7, 3) := by decide +kernel
theorem dNY_173 : decode prog_18_method_2_code 173 = .ok (.iconst 1, 1) := by decide +kernel
theorem dNY_174 : decode prog_18_method_2_code 174 = .ok (.iadd, 1) := by decide +kernel
theorem dNY_175 : decode prog_18_method_2_code 175 = .ok (.putfield 7, 3) := by decide +kernel
theorem dNY_178 : decode prog_18_method_2_code 178 = .ok (.iinc 3 1, 3) := by decide +kernel
theorem dNY_181 : decode prog_18_method_2_code 181 = .ok (.goto (-31), 3) := by decide +kernel
theorem dNY_184 : decode prog_18_method_2_code 184 = .ok (.aload_n 0, 1) := by decide +kernel
theorem dNY_185 : decode prog_18_method_2_code 185 = .ok (.iload_n 1, 1) := by decide +kernel
theorem dNY_186 : decode prog_18_method_2_code 186 = .ok (.putfield 26, 3) := by decide +kernel
theorem dNY_189 : decode prog_18_method_2_code 189 = .ok (.iconst 1, 1) := by decide +kernel
theorem dNY_190 : decode prog_18_method_2_code 190 = .ok (.ireturn, 1) := by decide +kernel
set_option maxRecDepth 65536 in
set_option maxHeartbeats 40000000 in
theorem own_nx1 (l : Launch) (Z : State) (a0 : Array Value) (hw : ∀ d ∈ tables_1, d.before a0 Z = true) (EL : List (String × Nat)) (hEL : EW Z a0 EL) (h0 : Heap) (a s : Addr) (cs : List Int32) (G : SC Z h0 s cs) (p : Nat) (ln pl tg : Int32) (pv : Value) (F : SG Z h0 a s (Int32.ofNat p) ln pl tg pv) (tg' : Int32) (f t e : Nat) (hc : own_cut cs p tg' f t e) (hm : ("java/lang/StringLatin1", 151) ∈ EL) (fv : Value) (hv : fv.isRef = true) (Fm : Sta Z Z.heap "jdk/internal/util/Preconditions" "SIOOBE_FORMATTER" "Ljava/util/function/BiFunction;" fv) (cz : Int32) (O : Sta Z Z.heap "java/lang/String" "COMPACT_STRINGS" "Z" (.int cz)) (hO : ¬ cz = 0) :
    Con l Z EL false [] (⟨"com/example/fionn/fionn/io/SgmlScanner", "next", "()Z"⟩ : MethodName) prog_18_method_2_code 4 (some .boolean) ({ frames := 5, cells := 4, slots := 12, locals := 120 } : Room) #[(.ref a)] h0 (fun v h' => v = some (.int 1) ∧ Keep h0 h' [a] ∧ ∃ y, SC Z h' y ((cs.drop f).take (t - f)) ∧ SG Z h' a s (Int32.ofNat e) (ln + own_cnt cs (e - p) p) ln tg' (.ref y)) := by
  refine Con.of (Ls := #[.val (.ref a), .unset, .unset, .unset]) (plainFor_of_name own_pn5) hEL (fun m => by first | (simp [entryFrame, mkF, argsToLocals, Value.category]; done) | rfl) ?_
  intro vm0 hZ0 hE0 hC0 hS0
  obtain ⟨f1, f2, f3, f4, f5, f6, f7, f8⟩ := id F
  have hl := G.2.2
  obtain ⟨c1, c2, c3, c4, c5⟩ := own_cut_le hc
  have pl' : p < cs.length := by omega
  refine WP.aloadN (n := 1) dNY_0 rfl rfl rfl ?_
  refine WP.getF (n := 4) (host := "") dNY_1 (Or.inl (hw _ (List.mem_of_getElem? (i := 56) rfl))) Via.refl f3 rfl ?_
  refine WP.aloadN (n := 5) dNY_4 rfl rfl rfl ?_
  refine WP.getF (n := 8) (host := "") dNY_5 (Or.inl (hw _ (List.mem_of_getElem? (i := 45) rfl))) Via.refl f2 rfl ?_
  refine WP.callV (n := 11) (ce' := 0) (sl' := 0) (Wd := 1) (a := s) (argsL := []) (rest := [(.int (Int32.ofNat p))]) (own_len l Z a0 hw EL hEL h0 s (cs.map own_b) G.1 cz O hO) G.1.1 dNY_8 (hw _ (List.mem_of_getElem? (i := 58) rfl)) (hw _ (List.mem_of_getElem? (i := 59) rfl)) (hw _ (List.mem_of_getElem? (i := 61) rfl)) (hw _ (List.mem_of_getElem? (i := 60) rfl)) (hw _ (List.mem_of_getElem? (i := 11) rfl)) (hw _ (List.mem_of_getElem? (i := 62) rfl)) (by decide) (fun _ hz => notFace_of_selects (args := #[]) (mvT hz (hw _ (List.mem_of_getElem? (i := 61) rfl)))) (fun _ q => nomatch q) (by decide) (by decide) rfl rfl (by decide) (by decide) rfl rfl (lenOf own_pd10 rfl) rfl (Nat.le_of_eq rfl) rfl (fun v51 vm51 h51 q51 r51 => ?_)
  obtain ⟨rfl, rfl⟩ := q51
  rw [List.length_map]
  refine WP.icmpY (n := 16) dNY_11 (tlt (by rw [own_ltN (by omega) (by omega)]; omega)).1 (by decide) (by decide) ?_
  refine WP.aloadN (n := 17) dNY_16 rfl rfl rfl ?_
  refine WP.aloadN (n := 18) dNY_17 rfl rfl rfl ?_
  refine WP.getF (n := 21) (host := "") dNY_18 (Or.inl (hw _ (List.mem_of_getElem? (i := 37) rfl))) Via.refl f4 rfl ?_
  refine WP.putFE (n := 24) (host := "") (ty := .int) dNY_21 (Or.inl (hw _ (List.mem_of_getElem? (i := 79) rfl))) Via.refl f5 f1 (Or.inl (hw _ (List.mem_of_getElem? (i := 80) rfl))) (hw _ (List.mem_of_getElem? (i := 31) rfl)) (by decide) rfl rfl f8 (by decide) rfl (fun h52 W52 r52 => ?_)
  have A52 := f1.wr W52
  have K52 := (Keep.refl h0 [a]).wr W52 (Or.inl (List.mem_cons_self ..))
  have F52_pieceLine := f5.same W52
  have F52_content := f2.other W52 (Or.inr (slot_ne (t := (.object "java/lang/String")) (t' := .int) (Or.inr (hw _ (List.mem_of_getElem? (i := 46) rfl))) (Or.inl (hw _ (List.mem_of_getElem? (i := 80) rfl))) (by decide) (by decide) (by decide)))
  have F52_position := f3.other W52 (Or.inr (slot_ne (t := .int) (t' := .int) (Or.inl (hw _ (List.mem_of_getElem? (i := 57) rfl))) (Or.inl (hw _ (List.mem_of_getElem? (i := 80) rfl))) (by decide) (by decide) (by decide)))
  have F52_line := f4.other W52 (Or.inr (slot_ne (t := .int) (t' := .int) (Or.inl (hw _ (List.mem_of_getElem? (i := 38) rfl))) (Or.inl (hw _ (List.mem_of_getElem? (i := 80) rfl))) (by decide) (by decide) (by decide)))
  have F52_tag := f6.other W52 (Or.inr (slot_ne (t := .boolean) (t' := .int) (Or.inl (hw _ (List.mem_of_getElem? (i := 126) rfl))) (Or.inl (hw _ (List.mem_of_getElem? (i := 80) rfl))) (by decide) (by decide) (by decide)))
  have F52_piece := f7.other W52 (Or.inr (slot_ne (t := (.object "java/lang/String")) (t' := .int) (Or.inl (hw _ (List.mem_of_getElem? (i := 139) rfl))) (Or.inl (hw _ (List.mem_of_getElem? (i := 80) rfl))) (by decide) (by decide) (by decide)))
  have G52 := own_sck G f1 (Keep.of_wr W52) (by decide) (hw _ (List.mem_of_getElem? (i := 31) rfl))
  refine WP.aloadN (n := 25) dNY_24 rfl rfl rfl ?_
  refine WP.getF (n := 28) (host := "") dNY_25 (Or.inl (hw _ (List.mem_of_getElem? (i := 45) rfl))) Via.refl F52_content rfl ?_
  refine WP.aloadN (n := 29) dNY_28 rfl rfl rfl ?_
  refine WP.getF (n := 32) (host := "") dNY_29 (Or.inl (hw _ (List.mem_of_getElem? (i := 56) rfl))) Via.refl F52_position rfl ?_
  refine WP.callV (n := 35) (ce' := 0) (sl' := 0) (Wd := 0) (a := s) (argsL := [(.int (Int32.ofNat p))]) (rest := []) (own_ca l Z a0 hw EL hEL h52 s cs G52 p pl' fv hv Fm cz O hO) G52.1.1 dNY_32 (hw _ (List.mem_of_getElem? (i := 81) rfl)) (hw _ (List.mem_of_getElem? (i := 82) rfl)) (hw _ (List.mem_of_getElem? (i := 84) rfl)) (hw _ (List.mem_of_getElem? (i := 83) rfl)) (hw _ (List.mem_of_getElem? (i := 11) rfl)) (hw _ (List.mem_of_getElem? (i := 85) rfl)) (by decide) (fun _ hz => notFace_of_selects (args := #[]) (mvT hz (hw _ (List.mem_of_getElem? (i := 84) rfl)))) (fun _ q => nomatch q) (by decide) (by decide) rfl rfl (by decide) (by decide) rfl rfl (lenOf own_pd16 rfl) rfl (Nat.le_of_eq rfl) rfl (fun v53 vm53 h53 q53 r53 => ?_)
  obtain ⟨rfl, rfl⟩ := q53
  refine WP.bipush (n := 37) (z := (60 : Int32)) dNY_35 (by decide) rfl ?_
  rcases hc with ⟨rfl, d2, d3, rfl, rfl, d6, d7⟩ | ⟨rfl, d2, df, dt, d5, d6, d7⟩
  · have hcp : cs[p] = 60 := by rw [← own_getD pl']; exact d2
    refine WP.icmpN (n' := 40) dNY_37 (teq hcp).2 rfl ?_
    refine WP.aloadN (n := 41) dNY_40 rfl rfl rfl ?_
    refine WP.getF (n := 44) (host := "") dNY_41 (Or.inl (hw _ (List.mem_of_getElem? (i := 45) rfl))) Via.refl F52_content rfl ?_
    refine WP.bipush (n := 46) (z := (62 : Int32)) dNY_44 (by decide) rfl ?_
    refine WP.aloadN (n := 47) dNY_46 rfl rfl rfl ?_
    refine WP.getF (n := 50) (host := "") dNY_47 (Or.inl (hw _ (List.mem_of_getElem? (i := 56) rfl))) Via.refl F52_position rfl ?_
    refine WP.callV (n := 53) (ce' := 0) (sl' := 0) (Wd := 0) (a := s) (argsL := [(.int (62 : Int32)), (.int (Int32.ofNat p))]) (rest := []) (own_ixo l Z a0 hw EL hEL h52 s cs G52 62 (by decide) p (by omega) cz O hO) G52.1.1 dNY_50 (hw _ (List.mem_of_getElem? (i := 103) rfl)) (hw _ (List.mem_of_getElem? (i := 104) rfl)) (hw _ (List.mem_of_getElem? (i := 106) rfl)) (hw _ (List.mem_of_getElem? (i := 105) rfl)) (hw _ (List.mem_of_getElem? (i := 11) rfl)) (hw _ (List.mem_of_getElem? (i := 107) rfl)) (by decide) (fun _ hz => notFace_of_selects (args := #[]) (mvT hz (hw _ (List.mem_of_getElem? (i := 106) rfl)))) (fun _ q => nomatch q) (by decide) (by decide) rfl rfl (by decide) (by decide) rfl rfl (lenOf own_pd2 rfl) rfl (Nat.le_of_eq rfl) rfl (fun v54 vm54 h54 q54 r54 => ?_)
    obtain ⟨rfl, rfl⟩ := q54
    refine WP.goto (n := 57) dNY_53 (by decide) (by decide) ?_
    rw [d3]
    refine WP.istoreN (n := 58) (Ls' := #[.val (.ref a), .unset, .val (.int (Int32.ofNat t)), .unset]) dNY_57 rfl rfl ?_
    refine WP.iloadN (n := 59) dNY_58 rfl rfl ?_
    refine WP.ifcN (n' := 62) dNY_59 ((if0 _ _).trans (flt (own_nn (by omega))).1) rfl ?_
    refine WP.aloadN (n := 63) dNY_62 rfl rfl rfl ?_
    refine WP.iconst (n := 64) (z := (1 : Int32)) dNY_63 rfl rfl ?_
    refine WP.putFE (n := 67) (host := "") (ty := .boolean) dNY_64 (Or.inl (hw _ (List.mem_of_getElem? (i := 125) rfl))) Via.refl F52_tag A52 (Or.inl (hw _ (List.mem_of_getElem? (i := 126) rfl))) (hw _ (List.mem_of_getElem? (i := 31) rfl)) (by decide) rfl (by decide) f8 (by decide) rfl (fun h55 W55 r55 => ?_)
    have A55 := A52.wr W55
    have K55 := K52.wr W55 (Or.inl (List.mem_cons_self ..))
    have F55_tag := F52_tag.same W55
    have F55_content := F52_content.other W55 (Or.inr (slot_ne (t := (.object "java/lang/String")) (t' := .boolean) (Or.inr (hw _ (List.mem_of_getElem? (i := 46) rfl))) (Or.inl (hw _ (List.mem_of_getElem? (i := 126) rfl))) (by decide) (by decide) (by decide)))
    have F55_position := F52_position.other W55 (Or.inr (slot_ne (t := .int) (t' := .boolean) (Or.inl (hw _ (List.mem_of_getElem? (i := 57) rfl))) (Or.inl (hw _ (List.mem_of_getElem? (i := 126) rfl))) (by decide) (by decide) (by decide)))
    have F55_line := F52_line.other W55 (Or.inr (slot_ne (t := .int) (t' := .boolean) (Or.inl (hw _ (List.mem_of_getElem? (i := 38) rfl))) (Or.inl (hw _ (List.mem_of_getElem? (i := 126) rfl))) (by decide) (by decide) (by decide)))
    have F55_pieceLine := F52_pieceLine.other W55 (Or.inr (slot_ne (t := .int) (t' := .boolean) (Or.inl (hw _ (List.mem_of_getElem? (i := 80) rfl))) (Or.inl (hw _ (List.mem_of_getElem? (i := 126) rfl))) (by decide) (by decide) (by decide)))
    have F55_piece := F52_piece.other W55 (Or.inr (slot_ne (t := (.object "java/lang/String")) (t' := .boolean) (Or.inl (hw _ (List.mem_of_getElem? (i := 139) rfl))) (Or.inl (hw _ (List.mem_of_getElem? (i := 126) rfl))) (by decide) (by decide) (by decide)))
    have G55 := own_sck G52 A52 (Keep.of_wr W55) (by decide) (hw _ (List.mem_of_getElem? (i := 31) rfl))
    refine WP.aloadN (n := 68) dNY_67 rfl rfl rfl ?_
    refine WP.aloadN (n := 69) dNY_68 rfl rfl rfl ?_
    refine WP.getF (n := 72) (host := "") dNY_69 (Or.inl (hw _ (List.mem_of_getElem? (i := 45) rfl))) Via.refl F55_content rfl ?_
    refine WP.aloadN (n := 73) dNY_72 rfl rfl rfl ?_
    refine WP.getF (n := 76) (host := "") dNY_73 (Or.inl (hw _ (List.mem_of_getElem? (i := 56) rfl))) Via.refl F55_position rfl ?_
    refine WP.iconst (n := 77) (z := (1 : Int32)) dNY_76 rfl rfl ?_
    refine WP.iadd (n := 78) dNY_77  rfl ?_
    rw [show Int32.ofNat p + 1 = Int32.ofNat (p + 1) from own_inc (by omega)]
    refine WP.iloadN (n := 79) dNY_78 rfl rfl ?_
    refine WP.callV (n := 82) (ce' := 4) (sl' := 12) (Wd := 1) (a := s) (argsL := [(.int (Int32.ofNat (p + 1))), (.int (Int32.ofNat t))]) (rest := [(.ref a)]) (own_sub l Z a0 hw EL hEL h55 s cs G55 (p + 1) t (by omega) (by omega) hm fv hv Fm cz O hO) G55.1.1 dNY_79 (hw _ (List.mem_of_getElem? (i := 127) rfl)) (hw _ (List.mem_of_getElem? (i := 128) rfl)) (hw _ (List.mem_of_getElem? (i := 130) rfl)) (hw _ (List.mem_of_getElem? (i := 129) rfl)) (hw _ (List.mem_of_getElem? (i := 11) rfl)) (hw _ (List.mem_of_getElem? (i := 131) rfl)) (by decide) (fun _ hz => notFace_of_selects (args := #[]) (mvT hz (hw _ (List.mem_of_getElem? (i := 130) rfl)))) (fun _ q => nomatch q) (by decide) (by decide) rfl rfl (by decide) (by decide) rfl rfl (lenOf own_pd17 rfl) rfl (Nat.le_of_eq rfl) rfl (fun v56 vm56 h56 q56 r56 => ?_)
    obtain ⟨y56, rfl, Y56, E56⟩ := q56
    refine WP.putFE (n := 85) (host := "") (ty := (.object "java/lang/String")) dNY_82 (Or.inl (hw _ (List.mem_of_getElem? (i := 138) rfl))) Via.refl (F55_piece.ext E56) (A55.ext E56) (Or.inl (hw _ (List.mem_of_getElem? (i := 139) rfl))) (hw _ (List.mem_of_getElem? (i := 31) rfl)) (by decide) rfl rfl f8 (by decide) rfl (fun h57 W57 r57 => ?_)
    have A57 := (A55.ext E56).wr W57
    have K57 := (K55.ext E56).wr W57 (Or.inl (List.mem_cons_self ..))
    have F57_piece := (F55_piece.ext E56).same W57
    have F57_content := (F55_content.ext E56).other W57 (Or.inr (slot_ne (t := (.object "java/lang/String")) (t' := (.object "java/lang/String")) (Or.inr (hw _ (List.mem_of_getElem? (i := 46) rfl))) (Or.inl (hw _ (List.mem_of_getElem? (i := 139) rfl))) (by decide) (by decide) (by decide)))
    have F57_position := (F55_position.ext E56).other W57 (Or.inr (slot_ne (t := .int) (t' := (.object "java/lang/String")) (Or.inl (hw _ (List.mem_of_getElem? (i := 57) rfl))) (Or.inl (hw _ (List.mem_of_getElem? (i := 139) rfl))) (by decide) (by decide) (by decide)))
    have F57_line := (F55_line.ext E56).other W57 (Or.inr (slot_ne (t := .int) (t' := (.object "java/lang/String")) (Or.inl (hw _ (List.mem_of_getElem? (i := 38) rfl))) (Or.inl (hw _ (List.mem_of_getElem? (i := 139) rfl))) (by decide) (by decide) (by decide)))
    have F57_pieceLine := (F55_pieceLine.ext E56).other W57 (Or.inr (slot_ne (t := .int) (t' := (.object "java/lang/String")) (Or.inl (hw _ (List.mem_of_getElem? (i := 80) rfl))) (Or.inl (hw _ (List.mem_of_getElem? (i := 139) rfl))) (by decide) (by decide) (by decide)))
    have F57_tag := (F55_tag.ext E56).other W57 (Or.inr (slot_ne (t := .boolean) (t' := (.object "java/lang/String")) (Or.inl (hw _ (List.mem_of_getElem? (i := 126) rfl))) (Or.inl (hw _ (List.mem_of_getElem? (i := 139) rfl))) (by decide) (by decide) (by decide)))
    have Y57 := own_sck Y56 (A55.ext E56) (Keep.of_wr W57) (by decide) (hw _ (List.mem_of_getElem? (i := 31) rfl))
    have G57 := own_sck (G55.ext E56) (A55.ext E56) (Keep.of_wr W57) (by decide) (hw _ (List.mem_of_getElem? (i := 31) rfl))
    refine WP.iloadN (n := 86) dNY_85 rfl rfl ?_
    refine WP.iconst (n := 87) (z := (1 : Int32)) dNY_86 rfl rfl ?_
    refine WP.iadd (n := 88) dNY_87  rfl ?_
    rw [show Int32.ofNat t + 1 = Int32.ofNat (t + 1) from own_inc (by omega)]
    refine WP.istoreN (n := 89) (Ls' := #[.val (.ref a), .val (.int (Int32.ofNat (t + 1))), .val (.int (Int32.ofNat t)), .unset]) dNY_88 rfl rfl ?_
    refine WP.goto (n := 145) dNY_89 (by decide) (by decide) ?_
    refine WP.aloadN (n := 146) dNY_145 rfl rfl rfl ?_
    refine WP.getF (n := 149) (host := "") dNY_146 (Or.inl (hw _ (List.mem_of_getElem? (i := 56) rfl))) Via.refl F57_position rfl ?_
    refine WP.istoreN (n := 150) (Ls' := #[.val (.ref a), .val (.int (Int32.ofNat (t + 1))), .val (.int (Int32.ofNat t)), .val (.int (Int32.ofNat p))]) dNY_149 rfl rfl ?_
    exact WP.post (fun v h' q => ⟨q.1, q.2.1, _, q.2.2.1, q.2.2.2⟩) (own_nxl l Z a0 hw EL hEL h0 a s y56 cs _ p _ ln _ _ (Int32.ofNat t) c2 hm fv hv Fm cz O hO (_ - p) p _ _ ln (by omega) rfl K57 G57 Y57 ⟨A57, F57_content, F57_position, F57_line, F57_pieceLine, F57_tag, F57_piece, f8⟩)
  · obtain rfl : p = f := df.symm
    obtain rfl : e = t := dt.symm
    by_cases hcp : cs[p] = 60
    · refine WP.icmpN (n' := 40) dNY_37 (teq hcp).2 rfl ?_
      refine WP.aloadN (n := 41) dNY_40 rfl rfl rfl ?_
      refine WP.getF (n := 44) (host := "") dNY_41 (Or.inl (hw _ (List.mem_of_getElem? (i := 45) rfl))) Via.refl F52_content rfl ?_
      refine WP.bipush (n := 46) (z := (62 : Int32)) dNY_44 (by decide) rfl ?_
      refine WP.aloadN (n := 47) dNY_46 rfl rfl rfl ?_
      refine WP.getF (n := 50) (host := "") dNY_47 (Or.inl (hw _ (List.mem_of_getElem? (i := 56) rfl))) Via.refl F52_position rfl ?_
      refine WP.callV (n := 53) (ce' := 0) (sl' := 0) (Wd := 0) (a := s) (argsL := [(.int (62 : Int32)), (.int (Int32.ofNat p))]) (rest := []) (own_ixo l Z a0 hw EL hEL h52 s cs G52 62 (by decide) p (by omega) cz O hO) G52.1.1 dNY_50 (hw _ (List.mem_of_getElem? (i := 103) rfl)) (hw _ (List.mem_of_getElem? (i := 104) rfl)) (hw _ (List.mem_of_getElem? (i := 106) rfl)) (hw _ (List.mem_of_getElem? (i := 105) rfl)) (hw _ (List.mem_of_getElem? (i := 11) rfl)) (hw _ (List.mem_of_getElem? (i := 107) rfl)) (by decide) (fun _ hz => notFace_of_selects (args := #[]) (mvT hz (hw _ (List.mem_of_getElem? (i := 106) rfl)))) (fun _ q => nomatch q) (by decide) (by decide) rfl rfl (by decide) (by decide) rfl rfl (lenOf own_pd2 rfl) rfl (Nat.le_of_eq rfl) rfl (fun v58 vm58 h58 q58 r58 => ?_)
      obtain ⟨rfl, rfl⟩ := q58
      refine WP.goto (n := 57) dNY_53 (by decide) (by decide) ?_
      rw [d2 (by rw [own_getD pl']; exact hcp)]
      refine WP.istoreN (n := 58) (Ls' := #[.val (.ref a), .unset, .val (.int (-1 : Int32)), .unset]) dNY_57 rfl rfl ?_
      refine WP.iloadN (n := 59) dNY_58 rfl rfl ?_
      refine WP.ifcY (n := 92) dNY_59 (by decide) (by decide) (by decide) ?_
      refine WP.aloadN (n := 93) dNY_92 rfl rfl rfl ?_
      refine WP.iconst (n := 94) (z := (0 : Int32)) dNY_93 rfl rfl ?_
      refine WP.putFE (n := 97) (host := "") (ty := .boolean) dNY_94 (Or.inl (hw _ (List.mem_of_getElem? (i := 125) rfl))) Via.refl F52_tag A52 (Or.inl (hw _ (List.mem_of_getElem? (i := 126) rfl))) (hw _ (List.mem_of_getElem? (i := 31) rfl)) (by decide) rfl (by decide) f8 (by decide) rfl (fun h59 W59 r59 => ?_)
      have A59 := A52.wr W59
      have K59 := K52.wr W59 (Or.inl (List.mem_cons_self ..))
      have F59_tag := F52_tag.same W59
      have F59_content := F52_content.other W59 (Or.inr (slot_ne (t := (.object "java/lang/String")) (t' := .boolean) (Or.inr (hw _ (List.mem_of_getElem? (i := 46) rfl))) (Or.inl (hw _ (List.mem_of_getElem? (i := 126) rfl))) (by decide) (by decide) (by decide)))
      have F59_position := F52_position.other W59 (Or.inr (slot_ne (t := .int) (t' := .boolean) (Or.inl (hw _ (List.mem_of_getElem? (i := 57) rfl))) (Or.inl (hw _ (List.mem_of_getElem? (i := 126) rfl))) (by decide) (by decide) (by decide)))
      have F59_line := F52_line.other W59 (Or.inr (slot_ne (t := .int) (t' := .boolean) (Or.inl (hw _ (List.mem_of_getElem? (i := 38) rfl))) (Or.inl (hw _ (List.mem_of_getElem? (i := 126) rfl))) (by decide) (by decide) (by decide)))
      have F59_pieceLine := F52_pieceLine.other W59 (Or.inr (slot_ne (t := .int) (t' := .boolean) (Or.inl (hw _ (List.mem_of_getElem? (i := 80) rfl))) (Or.inl (hw _ (List.mem_of_getElem? (i := 126) rfl))) (by decide) (by decide) (by decide)))
      have F59_piece := F52_piece.other W59 (Or.inr (slot_ne (t := (.object "java/lang/String")) (t' := .boolean) (Or.inl (hw _ (List.mem_of_getElem? (i := 139) rfl))) (Or.inl (hw _ (List.mem_of_getElem? (i := 126) rfl))) (by decide) (by decide) (by decide)))
      have G59 := own_sck G52 A52 (Keep.of_wr W59) (by decide) (hw _ (List.mem_of_getElem? (i := 31) rfl))
      refine WP.aloadN (n := 98) dNY_97 rfl rfl rfl ?_
      refine WP.getF (n := 101) (host := "") dNY_98 (Or.inl (hw _ (List.mem_of_getElem? (i := 45) rfl))) Via.refl F59_content rfl ?_
      refine WP.bipush (n := 103) (z := (60 : Int32)) dNY_101 (by decide) rfl ?_
      refine WP.aloadN (n := 104) dNY_103 rfl rfl rfl ?_
      refine WP.getF (n := 107) (host := "") dNY_104 (Or.inl (hw _ (List.mem_of_getElem? (i := 56) rfl))) Via.refl F59_position rfl ?_
      refine WP.iconst (n := 108) (z := (1 : Int32)) dNY_107 rfl rfl ?_
      refine WP.iadd (n := 109) dNY_108  rfl ?_
      rw [show Int32.ofNat p + 1 = Int32.ofNat (p + 1) from own_inc (by omega)]
      refine WP.callV (n := 112) (ce' := 0) (sl' := 0) (Wd := 0) (a := s) (argsL := [(.int (60 : Int32)), (.int (Int32.ofNat (p + 1)))]) (rest := []) (own_ixo l Z a0 hw EL hEL h59 s cs G59 60 (by decide) (p + 1) (by omega) cz O hO) G59.1.1 dNY_109 (hw _ (List.mem_of_getElem? (i := 103) rfl)) (hw _ (List.mem_of_getElem? (i := 104) rfl)) (hw _ (List.mem_of_getElem? (i := 106) rfl)) (hw _ (List.mem_of_getElem? (i := 105) rfl)) (hw _ (List.mem_of_getElem? (i := 11) rfl)) (hw _ (List.mem_of_getElem? (i := 107) rfl)) (by decide) (fun _ hz => notFace_of_selects (args := #[]) (mvT hz (hw _ (List.mem_of_getElem? (i := 106) rfl)))) (fun _ q => nomatch q) (by decide) (by decide) rfl rfl (by decide) (by decide) rfl rfl (lenOf own_pd2 rfl) rfl (Nat.le_of_eq rfl) rfl (fun v60 vm60 h60 q60 r60 => ?_)
      obtain ⟨rfl, rfl⟩ := q60
      rcases d7 with ⟨d7, d8⟩ | d7
      · rw [d7]
        refine WP.istoreN (n := 113) (Ls' := #[.val (.ref a), .unset, .val (.int (-1 : Int32)), .val (.int (-1 : Int32))]) dNY_112 rfl rfl ?_
        refine WP.iloadN (n := 114) dNY_113 rfl rfl ?_
        refine WP.ifcN (n' := 117) dNY_114 (by decide) rfl ?_
        refine WP.aloadN (n := 118) dNY_117 rfl rfl rfl ?_
        refine WP.getF (n := 121) (host := "") dNY_118 (Or.inl (hw _ (List.mem_of_getElem? (i := 45) rfl))) Via.refl F59_content rfl ?_
        refine WP.callV (n := 124) (ce' := 0) (sl' := 0) (Wd := 0) (a := s) (argsL := []) (rest := []) (own_len l Z a0 hw EL hEL h59 s (cs.map own_b) G59.1 cz O hO) G59.1.1 dNY_121 (hw _ (List.mem_of_getElem? (i := 58) rfl)) (hw _ (List.mem_of_getElem? (i := 59) rfl)) (hw _ (List.mem_of_getElem? (i := 61) rfl)) (hw _ (List.mem_of_getElem? (i := 60) rfl)) (hw _ (List.mem_of_getElem? (i := 11) rfl)) (hw _ (List.mem_of_getElem? (i := 62) rfl)) (by decide) (fun _ hz => notFace_of_selects (args := #[]) (mvT hz (hw _ (List.mem_of_getElem? (i := 61) rfl)))) (fun _ q => nomatch q) (by decide) (by decide) rfl rfl (by decide) (by decide) rfl rfl (lenOf own_pd10 rfl) rfl (Nat.le_of_eq rfl) rfl (fun v61 vm61 h61 q61 r61 => ?_)
        obtain ⟨rfl, rfl⟩ := q61
        rw [List.length_map]
        refine WP.goto (n := 128) dNY_124 (by decide) (by decide) ?_
        rw [← d8]
        refine WP.istoreN (n := 129) (Ls' := #[.val (.ref a), .val (.int (Int32.ofNat e)), .val (.int (-1 : Int32)), .val (.int (-1 : Int32))]) dNY_128 rfl rfl ?_
        refine WP.aloadN (n := 130) dNY_129 rfl rfl rfl ?_
        refine WP.aloadN (n := 131) dNY_130 rfl rfl rfl ?_
        refine WP.getF (n := 134) (host := "") dNY_131 (Or.inl (hw _ (List.mem_of_getElem? (i := 45) rfl))) Via.refl F59_content rfl ?_
        refine WP.aloadN (n := 135) dNY_134 rfl rfl rfl ?_
        refine WP.getF (n := 138) (host := "") dNY_135 (Or.inl (hw _ (List.mem_of_getElem? (i := 56) rfl))) Via.refl F59_position rfl ?_
        refine WP.iloadN (n := 139) dNY_138 rfl rfl ?_
        refine WP.callV (n := 142) (ce' := 4) (sl' := 12) (Wd := 1) (a := s) (argsL := [(.int (Int32.ofNat p)), (.int (Int32.ofNat e))]) (rest := [(.ref a)]) (own_sub l Z a0 hw EL hEL h59 s cs G59 p e (by omega) (by omega) hm fv hv Fm cz O hO) G59.1.1 dNY_139 (hw _ (List.mem_of_getElem? (i := 127) rfl)) (hw _ (List.mem_of_getElem? (i := 128) rfl)) (hw _ (List.mem_of_getElem? (i := 130) rfl)) (hw _ (List.mem_of_getElem? (i := 129) rfl)) (hw _ (List.mem_of_getElem? (i := 11) rfl)) (hw _ (List.mem_of_getElem? (i := 131) rfl)) (by decide) (fun _ hz => notFace_of_selects (args := #[]) (mvT hz (hw _ (List.mem_of_getElem? (i := 130) rfl)))) (fun _ q => nomatch q) (by decide) (by decide) rfl rfl (by decide) (by decide) rfl rfl (lenOf own_pd17 rfl) rfl (Nat.le_of_eq rfl) rfl (fun v62 vm62 h62 q62 r62 => ?_)
        obtain ⟨y62, rfl, Y62, E62⟩ := q62
        refine WP.putFE (n := 145) (host := "") (ty := (.object "java/lang/String")) dNY_142 (Or.inl (hw _ (List.mem_of_getElem? (i := 138) rfl))) Via.refl (F59_piece.ext E62) (A59.ext E62) (Or.inl (hw _ (List.mem_of_getElem? (i := 139) rfl))) (hw _ (List.mem_of_getElem? (i := 31) rfl)) (by decide) rfl rfl f8 (by decide) rfl (fun h63 W63 r63 => ?_)
        have A63 := (A59.ext E62).wr W63
        have K63 := (K59.ext E62).wr W63 (Or.inl (List.mem_cons_self ..))
        have F63_piece := (F59_piece.ext E62).same W63
        have F63_content := (F59_content.ext E62).other W63 (Or.inr (slot_ne (t := (.object "java/lang/String")) (t' := (.object "java/lang/String")) (Or.inr (hw _ (List.mem_of_getElem? (i := 46) rfl))) (Or.inl (hw _ (List.mem_of_getElem? (i := 139) rfl))) (by decide) (by decide) (by decide)))
        have F63_position := (F59_position.ext E62).other W63 (Or.inr (slot_ne (t := .int) (t' := (.object "java/lang/String")) (Or.inl (hw _ (List.mem_of_getElem? (i := 57) rfl))) (Or.inl (hw _ (List.mem_of_getElem? (i := 139) rfl))) (by decide) (by decide) (by decide)))
        have F63_line := (F59_line.ext E62).other W63 (Or.inr (slot_ne (t := .int) (t' := (.object "java/lang/String")) (Or.inl (hw _ (List.mem_of_getElem? (i := 38) rfl))) (Or.inl (hw _ (List.mem_of_getElem? (i := 139) rfl))) (by decide) (by decide) (by decide)))
        have F63_pieceLine := (F59_pieceLine.ext E62).other W63 (Or.inr (slot_ne (t := .int) (t' := (.object "java/lang/String")) (Or.inl (hw _ (List.mem_of_getElem? (i := 80) rfl))) (Or.inl (hw _ (List.mem_of_getElem? (i := 139) rfl))) (by decide) (by decide) (by decide)))
        have F63_tag := (F59_tag.ext E62).other W63 (Or.inr (slot_ne (t := .boolean) (t' := (.object "java/lang/String")) (Or.inl (hw _ (List.mem_of_getElem? (i := 126) rfl))) (Or.inl (hw _ (List.mem_of_getElem? (i := 139) rfl))) (by decide) (by decide) (by decide)))
        have Y63 := own_sck Y62 (A59.ext E62) (Keep.of_wr W63) (by decide) (hw _ (List.mem_of_getElem? (i := 31) rfl))
        have G63 := own_sck (G59.ext E62) (A59.ext E62) (Keep.of_wr W63) (by decide) (hw _ (List.mem_of_getElem? (i := 31) rfl))
        refine WP.aloadN (n := 146) dNY_145 rfl rfl rfl ?_
        refine WP.getF (n := 149) (host := "") dNY_146 (Or.inl (hw _ (List.mem_of_getElem? (i := 56) rfl))) Via.refl F63_position rfl ?_
        refine WP.istoreN (n := 150) (Ls' := #[.val (.ref a), .val (.int (Int32.ofNat e)), .val (.int (-1 : Int32)), .val (.int (Int32.ofNat p))]) dNY_149 rfl rfl ?_
        exact WP.post (fun v h' q => ⟨q.1, q.2.1, _, q.2.2.1, q.2.2.2⟩) (own_nxl l Z a0 hw EL hEL h0 a s y62 cs _ p _ ln _ _ (-1 : Int32) c2 hm fv hv Fm cz O hO (_ - p) p _ _ ln (by omega) rfl K63 G63 Y63 ⟨A63, F63_content, F63_position, F63_line, F63_pieceLine, F63_tag, F63_piece, f8⟩)
      · rw [d7]
        refine WP.istoreN (n := 113) (Ls' := #[.val (.ref a), .unset, .val (.int (-1 : Int32)), .val (.int (Int32.ofNat e))]) dNY_112 rfl rfl ?_
        refine WP.iloadN (n := 114) dNY_113 rfl rfl ?_
        refine WP.ifcY (n := 127) dNY_114 ((if0 _ _).trans (flt (own_nn (by omega))).2.1) (by decide) (by decide) ?_
        refine WP.iloadN (n := 128) dNY_127 rfl rfl ?_
        refine WP.istoreN (n := 129) (Ls' := #[.val (.ref a), .val (.int (Int32.ofNat e)), .val (.int (-1 : Int32)), .val (.int (Int32.ofNat e))]) dNY_128 rfl rfl ?_
        refine WP.aloadN (n := 130) dNY_129 rfl rfl rfl ?_
        refine WP.aloadN (n := 131) dNY_130 rfl rfl rfl ?_
        refine WP.getF (n := 134) (host := "") dNY_131 (Or.inl (hw _ (List.mem_of_getElem? (i := 45) rfl))) Via.refl F59_content rfl ?_
        refine WP.aloadN (n := 135) dNY_134 rfl rfl rfl ?_
        refine WP.getF (n := 138) (host := "") dNY_135 (Or.inl (hw _ (List.mem_of_getElem? (i := 56) rfl))) Via.refl F59_position rfl ?_
        refine WP.iloadN (n := 139) dNY_138 rfl rfl ?_
        refine WP.callV (n := 142) (ce' := 4) (sl' := 12) (Wd := 1) (a := s) (argsL := [(.int (Int32.ofNat p)), (.int (Int32.ofNat e))]) (rest := [(.ref a)]) (own_sub l Z a0 hw EL hEL h59 s cs G59 p e (by omega) (by omega) hm fv hv Fm cz O hO) G59.1.1 dNY_139 (hw _ (List.mem_of_getElem? (i := 127) rfl)) (hw _ (List.mem_of_getElem? (i := 128) rfl)) (hw _ (List.mem_of_getElem? (i := 130) rfl)) (hw _ (List.mem_of_getElem? (i := 129) rfl)) (hw _ (List.mem_of_getElem? (i := 11) rfl)) (hw _ (List.mem_of_getElem? (i := 131) rfl)) (by decide) (fun _ hz => notFace_of_selects (args := #[]) (mvT hz (hw _ (List.mem_of_getElem? (i := 130) rfl)))) (fun _ q => nomatch q) (by decide) (by decide) rfl rfl (by decide) (by decide) rfl rfl (lenOf own_pd17 rfl) rfl (Nat.le_of_eq rfl) rfl (fun v64 vm64 h64 q64 r64 => ?_)
        obtain ⟨y64, rfl, Y64, E64⟩ := q64
        refine WP.putFE (n := 145) (host := "") (ty := (.object "java/lang/String")) dNY_142 (Or.inl (hw _ (List.mem_of_getElem? (i := 138) rfl))) Via.refl (F59_piece.ext E64) (A59.ext E64) (Or.inl (hw _ (List.mem_of_getElem? (i := 139) rfl))) (hw _ (List.mem_of_getElem? (i := 31) rfl)) (by decide) rfl rfl f8 (by decide) rfl (fun h65 W65 r65 => ?_)
        have A65 := (A59.ext E64).wr W65
        have K65 := (K59.ext E64).wr W65 (Or.inl (List.mem_cons_self ..))
        have F65_piece := (F59_piece.ext E64).same W65
        have F65_content := (F59_content.ext E64).other W65 (Or.inr (slot_ne (t := (.object "java/lang/String")) (t' := (.object "java/lang/String")) (Or.inr (hw _ (List.mem_of_getElem? (i := 46) rfl))) (Or.inl (hw _ (List.mem_of_getElem? (i := 139) rfl))) (by decide) (by decide) (by decide)))
        have F65_position := (F59_position.ext E64).other W65 (Or.inr (slot_ne (t := .int) (t' := (.object "java/lang/String")) (Or.inl (hw _ (List.mem_of_getElem? (i := 57) rfl))) (Or.inl (hw _ (List.mem_of_getElem? (i := 139) rfl))) (by decide) (by decide) (by decide)))
        have F65_line := (F59_line.ext E64).other W65 (Or.inr (slot_ne (t := .int) (t' := (.object "java/lang/String")) (Or.inl (hw _ (List.mem_of_getElem? (i := 38) rfl))) (Or.inl (hw _ (List.mem_of_getElem? (i := 139) rfl))) (by decide) (by decide) (by decide)))
        have F65_pieceLine := (F59_pieceLine.ext E64).other W65 (Or.inr (slot_ne (t := .int) (t' := (.object "java/lang/String")) (Or.inl (hw _ (List.mem_of_getElem? (i := 80) rfl))) (Or.inl (hw _ (List.mem_of_getElem? (i := 139) rfl))) (by decide) (by decide) (by decide)))
        have F65_tag := (F59_tag.ext E64).other W65 (Or.inr (slot_ne (t := .boolean) (t' := (.object "java/lang/String")) (Or.inl (hw _ (List.mem_of_getElem? (i := 126) rfl))) (Or.inl (hw _ (List.mem_of_getElem? (i := 139) rfl))) (by decide) (by decide) (by decide)))
        have Y65 := own_sck Y64 (A59.ext E64) (Keep.of_wr W65) (by decide) (hw _ (List.mem_of_getElem? (i := 31) rfl))
        have G65 := own_sck (G59.ext E64) (A59.ext E64) (Keep.of_wr W65) (by decide) (hw _ (List.mem_of_getElem? (i := 31) rfl))
        refine WP.aloadN (n := 146) dNY_145 rfl rfl rfl ?_
        refine WP.getF (n := 149) (host := "") dNY_146 (Or.inl (hw _ (List.mem_of_getElem? (i := 56) rfl))) Via.refl F65_position rfl ?_
        refine WP.istoreN (n := 150) (Ls' := #[.val (.ref a), .val (.int (Int32.ofNat e)), .val (.int (-1 : Int32)), .val (.int (Int32.ofNat p))]) dNY_149 rfl rfl ?_
        exact WP.post (fun v h' q => ⟨q.1, q.2.1, _, q.2.2.1, q.2.2.2⟩) (own_nxl l Z a0 hw EL hEL h0 a s y64 cs _ p _ ln _ _ (-1 : Int32) c2 hm fv hv Fm cz O hO (_ - p) p _ _ ln (by omega) rfl K65 G65 Y65 ⟨A65, F65_content, F65_position, F65_line, F65_pieceLine, F65_tag, F65_piece, f8⟩)
    · refine WP.icmpY (n := 56) dNY_37 (feq hcp).2 (by decide) (by decide) ?_
      refine WP.iconst (n := 57) (z := (-1 : Int32)) dNY_56 rfl rfl ?_
      refine WP.istoreN (n := 58) (Ls' := #[.val (.ref a), .unset, .val (.int (-1 : Int32)), .unset]) dNY_57 rfl rfl ?_
      refine WP.iloadN (n := 59) dNY_58 rfl rfl ?_
      refine WP.ifcY (n := 92) dNY_59 (by decide) (by decide) (by decide) ?_
      refine WP.aloadN (n := 93) dNY_92 rfl rfl rfl ?_
      refine WP.iconst (n := 94) (z := (0 : Int32)) dNY_93 rfl rfl ?_
      refine WP.putFE (n := 97) (host := "") (ty := .boolean) dNY_94 (Or.inl (hw _ (List.mem_of_getElem? (i := 125) rfl))) Via.refl F52_tag A52 (Or.inl (hw _ (List.mem_of_getElem? (i := 126) rfl))) (hw _ (List.mem_of_getElem? (i := 31) rfl)) (by decide) rfl (by decide) f8 (by decide) rfl (fun h66 W66 r66 => ?_)
      have A66 := A52.wr W66
      have K66 := K52.wr W66 (Or.inl (List.mem_cons_self ..))
      have F66_tag := F52_tag.same W66
      have F66_content := F52_content.other W66 (Or.inr (slot_ne (t := (.object "java/lang/String")) (t' := .boolean) (Or.inr (hw _ (List.mem_of_getElem? (i := 46) rfl))) (Or.inl (hw _ (List.mem_of_getElem? (i := 126) rfl))) (by decide) (by decide) (by decide)))
      have F66_position := F52_position.other W66 (Or.inr (slot_ne (t := .int) (t' := .boolean) (Or.inl (hw _ (List.mem_of_getElem? (i := 57) rfl))) (Or.inl (hw _ (List.mem_of_getElem? (i := 126) rfl))) (by decide) (by decide) (by decide)))
      have F66_line := F52_line.other W66 (Or.inr (slot_ne (t := .int) (t' := .boolean) (Or.inl (hw _ (List.mem_of_getElem? (i := 38) rfl))) (Or.inl (hw _ (List.mem_of_getElem? (i := 126) rfl))) (by decide) (by decide) (by decide)))
      have F66_pieceLine := F52_pieceLine.other W66 (Or.inr (slot_ne (t := .int) (t' := .boolean) (Or.inl (hw _ (List.mem_of_getElem? (i := 80) rfl))) (Or.inl (hw _ (List.mem_of_getElem? (i := 126) rfl))) (by decide) (by decide) (by decide)))
      have F66_piece := F52_piece.other W66 (Or.inr (slot_ne (t := (.object "java/lang/String")) (t' := .boolean) (Or.inl (hw _ (List.mem_of_getElem? (i := 139) rfl))) (Or.inl (hw _ (List.mem_of_getElem? (i := 126) rfl))) (by decide) (by decide) (by decide)))
      have G66 := own_sck G52 A52 (Keep.of_wr W66) (by decide) (hw _ (List.mem_of_getElem? (i := 31) rfl))
      refine WP.aloadN (n := 98) dNY_97 rfl rfl rfl ?_
      refine WP.getF (n := 101) (host := "") dNY_98 (Or.inl (hw _ (List.mem_of_getElem? (i := 45) rfl))) Via.refl F66_content rfl ?_
      refine WP.bipush (n := 103) (z := (60 : Int32)) dNY_101 (by decide) rfl ?_
      refine WP.aloadN (n := 104) dNY_103 rfl rfl rfl ?_
      refine WP.getF (n := 107) (host := "") dNY_104 (Or.inl (hw _ (List.mem_of_getElem? (i := 56) rfl))) Via.refl F66_position rfl ?_
      refine WP.iconst (n := 108) (z := (1 : Int32)) dNY_107 rfl rfl ?_
      refine WP.iadd (n := 109) dNY_108  rfl ?_
      rw [show Int32.ofNat p + 1 = Int32.ofNat (p + 1) from own_inc (by omega)]
      refine WP.callV (n := 112) (ce' := 0) (sl' := 0) (Wd := 0) (a := s) (argsL := [(.int (60 : Int32)), (.int (Int32.ofNat (p + 1)))]) (rest := []) (own_ixo l Z a0 hw EL hEL h66 s cs G66 60 (by decide) (p + 1) (by omega) cz O hO) G66.1.1 dNY_109 (hw _ (List.mem_of_getElem? (i := 103) rfl)) (hw _ (List.mem_of_getElem? (i := 104) rfl)) (hw _ (List.mem_of_getElem? (i := 106) rfl)) (hw _ (List.mem_of_getElem? (i := 105) rfl)) (hw _ (List.mem_of_getElem? (i := 11) rfl)) (hw _ (List.mem_of_getElem? (i := 107) rfl)) (by decide) (fun _ hz => notFace_of_selects (args := #[]) (mvT hz (hw _ (List.mem_of_getElem? (i := 106) rfl)))) (fun _ q => nomatch q) (by decide) (by decide) rfl rfl (by decide) (by decide) rfl rfl (lenOf own_pd2 rfl) rfl (Nat.le_of_eq rfl) rfl (fun v67 vm67 h67 q67 r67 => ?_)
      obtain ⟨rfl, rfl⟩ := q67
      rcases d7 with ⟨d7, d8⟩ | d7
      · rw [d7]
        refine WP.istoreN (n := 113) (Ls' := #[.val (.ref a), .unset, .val (.int (-1 : Int32)), .val (.int (-1 : Int32))]) dNY_112 rfl rfl ?_
        refine WP.iloadN (n := 114) dNY_113 rfl rfl ?_
        refine WP.ifcN (n' := 117) dNY_114 (by decide) rfl ?_
        refine WP.aloadN (n := 118) dNY_117 rfl rfl rfl ?_
        refine WP.getF (n := 121) (host := "") dNY_118 (Or.inl (hw _ (List.mem_of_getElem? (i := 45) rfl))) Via.refl F66_content rfl ?_
        refine WP.callV (n := 124) (ce' := 0) (sl' := 0) (Wd := 0) (a := s) (argsL := []) (rest := []) (own_len l Z a0 hw EL hEL h66 s (cs.map own_b) G66.1 cz O hO) G66.1.1 dNY_121 (hw _ (List.mem_of_getElem? (i := 58) rfl)) (hw _ (List.mem_of_getElem? (i := 59) rfl)) (hw _ (List.mem_of_getElem? (i := 61) rfl)) (hw _ (List.mem_of_getElem? (i := 60) rfl)) (hw _ (List.mem_of_getElem? (i := 11) rfl)) (hw _ (List.mem_of_getElem? (i := 62) rfl)) (by decide) (fun _ hz => notFace_of_selects (args := #[]) (mvT hz (hw _ (List.mem_of_getElem? (i := 61) rfl)))) (fun _ q => nomatch q) (by decide) (by decide) rfl rfl (by decide) (by decide) rfl rfl (lenOf own_pd10 rfl) rfl (Nat.le_of_eq rfl) rfl (fun v68 vm68 h68 q68 r68 => ?_)
        obtain ⟨rfl, rfl⟩ := q68
        rw [List.length_map]
        refine WP.goto (n := 128) dNY_124 (by decide) (by decide) ?_
        rw [← d8]
        refine WP.istoreN (n := 129) (Ls' := #[.val (.ref a), .val (.int (Int32.ofNat e)), .val (.int (-1 : Int32)), .val (.int (-1 : Int32))]) dNY_128 rfl rfl ?_
        refine WP.aloadN (n := 130) dNY_129 rfl rfl rfl ?_
        refine WP.aloadN (n := 131) dNY_130 rfl rfl rfl ?_
        refine WP.getF (n := 134) (host := "") dNY_131 (Or.inl (hw _ (List.mem_of_getElem? (i := 45) rfl))) Via.refl F66_content rfl ?_
        refine WP.aloadN (n := 135) dNY_134 rfl rfl rfl ?_
        refine WP.getF (n := 138) (host := "") dNY_135 (Or.inl (hw _ (List.mem_of_getElem? (i := 56) rfl))) Via.refl F66_position rfl ?_
        refine WP.iloadN (n := 139) dNY_138 rfl rfl ?_
        refine WP.callV (n := 142) (ce' := 4) (sl' := 12) (Wd := 1) (a := s) (argsL := [(.int (Int32.ofNat p)), (.int (Int32.ofNat e))]) (rest := [(.ref a)]) (own_sub l Z a0 hw EL hEL h66 s cs G66 p e (by omega) (by omega) hm fv hv Fm cz O hO) G66.1.1 dNY_139 (hw _ (List.mem_of_getElem? (i := 127) rfl)) (hw _ (List.mem_of_getElem? (i := 128) rfl)) (hw _ (List.mem_of_getElem? (i := 130) rfl)) (hw _ (List.mem_of_getElem? (i := 129) rfl)) (hw _ (List.mem_of_getElem? (i := 11) rfl)) (hw _ (List.mem_of_getElem? (i := 131) rfl)) (by decide) (fun _ hz => notFace_of_selects (args := #[]) (mvT hz (hw _ (List.mem_of_getElem? (i := 130) rfl)))) (fun _ q => nomatch q) (by decide) (by decide) rfl rfl (by decide) (by decide) rfl rfl (lenOf own_pd17 rfl) rfl (Nat.le_of_eq rfl) rfl (fun v69 vm69 h69 q69 r69 => ?_)
        obtain ⟨y69, rfl, Y69, E69⟩ := q69
        refine WP.putFE (n := 145) (host := "") (ty := (.object "java/lang/String")) dNY_142 (Or.inl (hw _ (List.mem_of_getElem? (i := 138) rfl))) Via.refl (F66_piece.ext E69) (A66.ext E69) (Or.inl (hw _ (List.mem_of_getElem? (i := 139) rfl))) (hw _ (List.mem_of_getElem? (i := 31) rfl)) (by decide) rfl rfl f8 (by decide) rfl (fun h70 W70 r70 => ?_)
        have A70 := (A66.ext E69).wr W70
        have K70 := (K66.ext E69).wr W70 (Or.inl (List.mem_cons_self ..))
        have F70_piece := (F66_piece.ext E69).same W70
        have F70_content := (F66_content.ext E69).other W70 (Or.inr (slot_ne (t := (.object "java/lang/String")) (t' := (.object "java/lang/String")) (Or.inr (hw _ (List.mem_of_getElem? (i := 46) rfl))) (Or.inl (hw _ (List.mem_of_getElem? (i := 139) rfl))) (by decide) (by decide) (by decide)))
        have F70_position := (F66_position.ext E69).other W70 (Or.inr (slot_ne (t := .int) (t' := (.object "java/lang/String")) (Or.inl (hw _ (List.mem_of_getElem? (i := 57) rfl))) (Or.inl (hw _ (List.mem_of_getElem? (i := 139) rfl))) (by decide) (by decide) (by decide)))
        have F70_line := (F66_line.ext E69).other W70 (Or.inr (slot_ne (t := .int) (t' := (.object "java/lang/String")) (Or.inl (hw _ (List.mem_of_getElem? (i := 38) rfl))) (Or.inl (hw _ (List.mem_of_getElem? (i := 139) rfl))) (by decide) (by decide) (by decide)))
        have F70_pieceLine := (F66_pieceLine.ext E69).other W70 (Or.inr (slot_ne (t := .int) (t' := (.object "java/lang/String")) (Or.inl (hw _ (List.mem_of_getElem? (i := 80) rfl))) (Or.inl (hw _ (List.mem_of_getElem? (i := 139) rfl))) (by decide) (by decide) (by decide)))
        have F70_tag := (F66_tag.ext E69).other W70 (Or.inr (slot_ne (t := .boolean) (t' := (.object "java/lang/String")) (Or.inl (hw _ (List.mem_of_getElem? (i := 126) rfl))) (Or.inl (hw _ (List.mem_of_getElem? (i := 139) rfl))) (by decide) (by decide) (by decide)))
        have Y70 := own_sck Y69 (A66.ext E69) (Keep.of_wr W70) (by decide) (hw _ (List.mem_of_getElem? (i := 31) rfl))
        have G70 := own_sck (G66.ext E69) (A66.ext E69) (Keep.of_wr W70) (by decide) (hw _ (List.mem_of_getElem? (i := 31) rfl))
        refine WP.aloadN (n := 146) dNY_145 rfl rfl rfl ?_
        refine WP.getF (n := 149) (host := "") dNY_146 (Or.inl (hw _ (List.mem_of_getElem? (i := 56) rfl))) Via.refl F70_position rfl ?_
        refine WP.istoreN (n := 150) (Ls' := #[.val (.ref a), .val (.int (Int32.ofNat e)), .val (.int (-1 : Int32)), .val (.int (Int32.ofNat p))]) dNY_149 rfl rfl ?_
        exact WP.post (fun v h' q => ⟨q.1, q.2.1, _, q.2.2.1, q.2.2.2⟩) (own_nxl l Z a0 hw EL hEL h0 a s y69 cs _ p _ ln _ _ (-1 : Int32) c2 hm fv hv Fm cz O hO (_ - p) p _ _ ln (by omega) rfl K70 G70 Y70 ⟨A70, F70_content, F70_position, F70_line, F70_pieceLine, F70_tag, F70_piece, f8⟩)
      · rw [d7]
        refine WP.istoreN (n := 113) (Ls' := #[.val (.ref a), .unset, .val (.int (-1 : Int32)), .val (.int (Int32.ofNat e))]) dNY_112 rfl rfl ?_
        refine WP.iloadN (n := 114) dNY_113 rfl rfl ?_
        refine WP.ifcY (n := 127) dNY_114 ((if0 _ _).trans (flt (own_nn (by omega))).2.1) (by decide) (by decide) ?_
        refine WP.iloadN (n := 128) dNY_127 rfl rfl ?_
        refine WP.istoreN (n := 129) (Ls' := #[.val (.ref a), .val (.int (Int32.ofNat e)), .val (.int (-1 : Int32)), .val (.int (Int32.ofNat e))]) dNY_128 rfl rfl ?_
        refine WP.aloadN (n := 130) dNY_129 rfl rfl rfl ?_
        refine WP.aloadN (n := 131) dNY_130 rfl rfl rfl ?_
        refine WP.getF (n := 134) (host := "") dNY_131 (Or.inl (hw _ (List.mem_of_getElem? (i := 45) rfl))) Via.refl F66_content rfl ?_
        refine WP.aloadN (n := 135) dNY_134 rfl rfl rfl ?_
        refine WP.getF (n := 138) (host := "") dNY_135 (Or.inl (hw _ (List.mem_of_getElem? (i := 56) rfl))) Via.refl F66_position rfl ?_
        refine WP.iloadN (n := 139) dNY_138 rfl rfl ?_
        refine WP.callV (n := 142) (ce' := 4) (sl' := 12) (Wd := 1) (a := s) (argsL := [(.int (Int32.ofNat p)), (.int (Int32.ofNat e))]) (rest := [(.ref a)]) (own_sub l Z a0 hw EL hEL h66 s cs G66 p e (by omega) (by omega) hm fv hv Fm cz O hO) G66.1.1 dNY_139 (hw _ (List.mem_of_getElem? (i := 127) rfl)) (hw _ (List.mem_of_getElem? (i := 128) rfl)) (hw _ (List.mem_of_getElem? (i := 130) rfl)) (hw _ (List.mem_of_getElem? (i := 129) rfl)) (hw _ (List.mem_of_getElem? (i := 11) rfl)) (hw _ (List.mem_of_getElem? (i := 131) rfl)) (by decide) (fun _ hz => notFace_of_selects (args := #[]) (mvT hz (hw _ (List.mem_of_getElem? (i := 130) rfl)))) (fun _ q => nomatch q) (by decide) (by decide) rfl rfl (by decide) (by decide) rfl rfl (lenOf own_pd17 rfl) rfl (Nat.le_of_eq rfl) rfl (fun v71 vm71 h71 q71 r71 => ?_)
        obtain ⟨y71, rfl, Y71, E71⟩ := q71
        refine WP.putFE (n := 145) (host := "") (ty := (.object "java/lang/String")) dNY_142 (Or.inl (hw _ (List.mem_of_getElem? (i := 138) rfl))) Via.refl (F66_piece.ext E71) (A66.ext E71) (Or.inl (hw _ (List.mem_of_getElem? (i := 139) rfl))) (hw _ (List.mem_of_getElem? (i := 31) rfl)) (by decide) rfl rfl f8 (by decide) rfl (fun h72 W72 r72 => ?_)
        have A72 := (A66.ext E71).wr W72
        have K72 := (K66.ext E71).wr W72 (Or.inl (List.mem_cons_self ..))
        have F72_piece := (F66_piece.ext E71).same W72
        have F72_content := (F66_content.ext E71).other W72 (Or.inr (slot_ne (t := (.object "java/lang/String")) (t' := (.object "java/lang/String")) (Or.inr (hw _ (List.mem_of_getElem? (i := 46) rfl))) (Or.inl (hw _ (List.mem_of_getElem? (i := 139) rfl))) (by decide) (by decide) (by decide)))
        have F72_position := (F66_position.ext E71).other W72 (Or.inr (slot_ne (t := .int) (t' := (.object "java/lang/String")) (Or.inl (hw _ (List.mem_of_getElem? (i := 57) rfl))) (Or.inl (hw _ (List.mem_of_getElem? (i := 139) rfl))) (by decide) (by decide) (by decide)))
        have F72_line := (F66_line.ext E71).other W72 (Or.inr (slot_ne (t := .int) (t' := (.object "java/lang/String")) (Or.inl (hw _ (List.mem_of_getElem? (i := 38) rfl))) (Or.inl (hw _ (List.mem_of_getElem? (i := 139) rfl))) (by decide) (by decide) (by decide)))
        have F72_pieceLine := (F66_pieceLine.ext E71).other W72 (Or.inr (slot_ne (t := .int) (t' := (.object "java/lang/String")) (Or.inl (hw _ (List.mem_of_getElem? (i := 80) rfl))) (Or.inl (hw _ (List.mem_of_getElem? (i := 139) rfl))) (by decide) (by decide) (by decide)))
        have F72_tag := (F66_tag.ext E71).other W72 (Or.inr (slot_ne (t := .boolean) (t' := (.object "java/lang/String")) (Or.inl (hw _ (List.mem_of_getElem? (i := 126) rfl))) (Or.inl (hw _ (List.mem_of_getElem? (i := 139) rfl))) (by decide) (by decide) (by decide)))
        have Y72 := own_sck Y71 (A66.ext E71) (Keep.of_wr W72) (by decide) (hw _ (List.mem_of_getElem? (i := 31) rfl))
        have G72 := own_sck (G66.ext E71) (A66.ext E71) (Keep.of_wr W72) (by decide) (hw _ (List.mem_of_getElem? (i := 31) rfl))
        refine WP.aloadN (n := 146) dNY_145 rfl rfl rfl ?_
        refine WP.getF (n := 149) (host := "") dNY_146 (Or.inl (hw _ (List.mem_of_getElem? (i := 56) rfl))) Via.refl F72_position rfl ?_
        refine WP.istoreN (n := 150) (Ls' := #[.val (.ref a), .val (.int (Int32.ofNat e)), .val (.int (-1 : Int32)), .val (.int (Int32.ofNat p))]) dNY_149 rfl rfl ?_
        exact WP.post (fun v h' q => ⟨q.1, q.2.1, _, q.2.2.1, q.2.2.2⟩) (own_nxl l Z a0 hw EL hEL h0 a s y71 cs _ p _ ln _ _ (-1 : Int32) c2 hm fv hv Fm cz O hO (_ - p) p _ _ ln (by omega) rfl K72 G72 Y72 ⟨A72, F72_content, F72_position, F72_line, F72_pieceLine, F72_tag, F72_piece, f8⟩)
theorem dPK_0 : decode method_2_code 0 = .ok (.iload_n 0, 1) := by decide +kernel
theorem dPK_1 : decode method_2_code 1 = .ok (.ifCond .ne 6, 3) := by decide +kernel
theorem dPK_4 : decode method_2_code 4 = .ok (.bipush 60, 2) := by decide +kernel
theorem dPK_6 : decode method_2_code 6 = .ok (.ireturn, 1) := by decide +kernel
theorem dPK_7 : decode method_2_code 7 = .ok (.iload_n 0, 1) := by decide +kernel
theorem dPK_8 : decode method_2_code 8 = .ok (.iconst 1, 1) := by decide +kernel
theorem dPK_9 : decode method_2_code 9 = .ok (.if_icmp .ne 6, 3) := by decide +kernel
theorem dPK_12 : decode method_2_code 12 = .ok (.bipush 62, 2) := by decide +kernel
theorem dPK_14 : decode method_2_code 14 = .ok (.ireturn, 1) := by decide +kernel
theorem dPK_15 : decode method_2_code 15 = .ok (.iload_n 0, 1) := by decide +kernel
theorem dPK_16 : decode method_2_code 16 = .ok (.iconst 2, 1) := by decide +kernel
theorem dPK_17 : decode method_2_code 17 = .ok (.if_icmp .ne 6, 3) := by decide +kernel
theorem dPK_20 : decode method_2_code 20 = .ok (.bipush 10, 2) := by decide +kernel
theorem dPK_22 : decode method_2_code 22 = .ok (.ireturn, 1) := by decide +kernel
theorem dPK_23 : decode method_2_code 23 = .ok (.iload_n 1, 1) := by decide +kernel
theorem dPK_24 : decode method_2_code 24 = .ok (.i2c, 1) := by decide +kernel
theorem dPK_25 : decode method_2_code 25 = .ok (.ireturn, 1) := by decide +kernel
set_option maxRecDepth 65536 in
set_option maxHeartbeats 40000000 in
theorem own_pk (l : Launch) (Z : State) (a0 : Array Value) (hw : ∀ d ∈ tables_1, d.before a0 Z = true) (EL : List (String × Nat)) (hEL : EW Z a0 EL) (h0 : Heap) (k f : Int32) (hf : ¬ f < 0 ∧ ¬ (255 : Int32) < f) :
    Con l Z EL false [] (⟨"com/example/fionn/fionn/io/SgmlScannerNextPinLaw", "pick", "(II)C"⟩ : MethodName) method_2_code 2 (some .char) ({ frames := 0, cells := 0, slots := 0, locals := 0 } : Room) #[(.int k), (.int f)] h0 (fun v h' => ∃ x : Int32, v = some (.int x) ∧ (¬ x < 0 ∧ ¬ (255 : Int32) < x) ∧ h0 = h') := by
  refine Con.of (Ls := #[.val (.int k), .val (.int f)]) (plainFor_of_name own_pn6) hEL (fun m => by first | (simp [entryFrame, mkF, argsToLocals, Value.category]; done) | rfl) ?_
  intro vm0 hZ0 hE0 hC0 hS0
  refine WP.iloadN (n := 1) dPK_0 rfl rfl ?_
  refine WP.if_ne (n := 7) (n' := 4) dPK_1 (by decide) (by decide) rfl (fun b73 => ?_) (fun b73 => ?_)
  · refine WP.iloadN (n := 8) dPK_7 rfl rfl ?_
    refine WP.iconst (n := 9) (z := (1 : Int32)) dPK_8 rfl rfl ?_
    refine WP.icmp_ne (n := 15) (n' := 12) dPK_9 (by decide) (by decide) rfl (fun b74 => ?_) (fun b74 => ?_)
    · refine WP.iloadN (n := 16) dPK_15 rfl rfl ?_
      refine WP.iconst (n := 17) (z := (2 : Int32)) dPK_16 rfl rfl ?_
      refine WP.icmp_ne (n := 23) (n' := 20) dPK_17 (by decide) (by decide) rfl (fun b75 => ?_) (fun b75 => ?_)
      · refine WP.iloadN (n := 24) dPK_23 rfl rfl ?_
        refine WP.i2c (n := 25) (z := f) dPK_24 (own_c16 hf) rfl ?_
        exact WP.retN dPK_25 rfl (Or.inr (Or.inr (Or.inl rfl))) (own_c16 hf) (by decide) (by decide) ⟨f, rfl, hf, rfl⟩
      · refine WP.bipush (n := 22) (z := (10 : Int32)) dPK_20 (by decide) rfl ?_
        exact WP.retN dPK_22 rfl (Or.inr (Or.inr (Or.inl rfl))) (by decide) (by decide) (by decide) ⟨(10 : Int32), rfl, (by decide), rfl⟩
    · refine WP.bipush (n := 14) (z := (62 : Int32)) dPK_12 (by decide) rfl ?_
      exact WP.retN dPK_14 rfl (Or.inr (Or.inr (Or.inl rfl))) (by decide) (by decide) (by decide) ⟨(62 : Int32), rfl, (by decide), rfl⟩
  · refine WP.bipush (n := 6) (z := (60 : Int32)) dPK_4 (by decide) rfl ?_
    exact WP.retN dPK_6 rfl (Or.inr (Or.inr (Or.inl rfl))) (by decide) (by decide) (by decide) ⟨(60 : Int32), rfl, (by decide), rfl⟩
theorem dMK_0 : decode method_3_code 0 = .ok (.iload_n 1, 1) := by decide +kernel
theorem dMK_1 : decode method_3_code 1 = .ok (.ifCond .ne 14, 3) := by decide +kernel
theorem dMK_4 : decode method_3_code 4 = .ok (.new 7, 3) := by decide +kernel
theorem dMK_7 : decode method_3_code 7 = .ok (.dup, 1) := by decide +kernel
theorem dMK_8 : decode method_3_code 8 = .ok (.iconst 0, 1) := by decide +kernel
theorem dMK_9 : decode method_3_code 9 = .ok (.newarray .char, 2) := by decide +kernel
theorem dMK_11 : decode method_3_code 11 = .ok (.invokespecial 9, 3) := by decide +kernel
theorem dMK_14 : decode method_3_code 14 = .ok (.areturn, 1) := by decide +kernel
theorem dMK_15 : decode method_3_code 15 = .ok (.iload_n 1, 1) := by decide +kernel
theorem dMK_16 : decode method_3_code 16 = .ok (.iconst 1, 1) := by decide +kernel
theorem dMK_17 : decode method_3_code 17 = .ok (.if_icmp .ne 20, 3) := by decide +kernel
theorem dMK_20 : decode method_3_code 20 = .ok (.new 7, 3) := by decide +kernel
theorem dMK_23 : decode method_3_code 23 = .ok (.dup, 1) := by decide +kernel
theorem dMK_24 : decode method_3_code 24 = .ok (.iconst 1, 1) := by decide +kernel
theorem dMK_25 : decode method_3_code 25 = .ok (.newarray .char, 2) := by decide +kernel
theorem dMK_27 : decode method_3_code 27 = .ok (.dup, 1) := by decide +kernel
theorem dMK_28 : decode method_3_code 28 = .ok (.iconst 0, 1) := by decide +kernel
theorem dMK_29 : decode method_3_code 29 = .ok (.aload_n 0, 1) := by decide +kernel
theorem dMK_30 : decode method_3_code 30 = .ok (.iconst 0, 1) := by decide +kernel
theorem dMK_31 : decode method_3_code 31 = .ok (.caload, 1) := by decide +kernel
theorem dMK_32 : decode method_3_code 32 = .ok (.castore, 1) := by decide +kernel
theorem dMK_33 : decode method_3_code 33 = .ok (.invokespecial 9, 3) := by decide +kernel
theorem dMK_36 : decode method_3_code 36 = .ok (.areturn, 1) := by decide +kernel
theorem dMK_37 : decode method_3_code 37 = .ok (.iload_n 1, 1) := by decide +kernel
theorem dMK_38 : decode method_3_code 38 = .ok (.iconst 2, 1) := by decide +kernel
theorem dMK_39 : decode method_3_code 39 = .ok (.if_icmp .ne 26, 3) := by decide +kernel
theorem dMK_42 : decode method_3_code 42 = .ok (.new 7, 3) := by decide +kernel
theorem dMK_45 : decode method_3_code 45 = .ok (.dup, 1) := by decide +kernel
theorem dMK_46 : decode method_3_code 46 = .ok (.iconst 2, 1) := by decide +kernel
theorem dMK_47 : decode method_3_code 47 = .ok (.newarray .char, 2) := by decide +kernel
theorem dMK_49 : decode method_3_code 49 = .ok (.dup, 1) := by decide +kernel
theorem dMK_50 : decode method_3_code 50 = .ok (.iconst 0, 1) := by decide +kernel
theorem dMK_51 : decode method_3_code 51 = .ok (.aload_n 0, 1) := by decide +kernel
theorem dMK_52 : decode method_3_code 52 = .ok (.iconst 0, 1) := by decide +kernel
theorem dMK_53 : decode method_3_code 53 = .ok (.caload, 1) := by decide +kernel
theorem dMK_54 : decode method_3_code 54 = .ok (.castore, 1) := by decide +kernel
theorem dMK_55 : decode method_3_code 55 = .ok (.dup, 1) := by decide +kernel
theorem dMK_56 : decode method_3_code 56 = .ok (.iconst 1, 1) := by decide +kernel
theorem dMK_57 : decode method_3_code 57 = .ok (.aload_n 0, 1) := by decide +kernel
theorem dMK_58 : decode method_3_code 58 = .ok (.iconst 1, 1) := by decide +kernel
theorem dMK_59 : decode method_3_code 59 = .ok (.caload, 1) := by decide +kernel
theorem dMK_60 : decode method_3_code 60 = .ok (.castore, 1) := by decide +kernel
theorem dMK_61 : decode method_3_code 61 = .ok (.invokespecial 9, 3) := by decide +kernel
theorem dMK_64 : decode method_3_code 64 = .ok (.areturn, 1) := by decide +kernel
theorem dMK_65 : decode method_3_code 65 = .ok (.iload_n 1, 1) := by decide +kernel
theorem dMK_66 : decode method_3_code 66 = .ok (.iconst 3, 1) := by decide +kernel
theorem dMK_67 : decode method_3_code 67 = .ok (.if_icmp .ne 32, 3) := by decide +kernel
theorem dMK_70 : decode method_3_code 70 = .ok (.new 7, 3) := by decide +kernel
theorem dMK_73 : decode method_3_code 73 = .ok (.dup, 1) := by decide +kernel
theorem dMK_74 : decode method_3_code 74 = .ok (.iconst 3, 1) := by decide +kernel
theorem dMK_75 : decode method_3_code 75 = .ok (.newarray .char, 2) := by decide +kernel
theorem dMK_77 : decode method_3_code 77 = .ok (.dup, 1) := by decide +kernel
theorem dMK_78 : decode method_3_code 78 = .ok (.iconst 0, 1) := by decide +kernel
theorem dMK_79 : decode method_3_code 79 = .ok (.aload_n 0, 1) := by decide +kernel
theorem dMK_80 : decode method_3_code 80 = .ok (.iconst 0, 1) := by decide +kernel
theorem dMK_81 : decode method_3_code 81 = .ok (.caload, 1) := by decide +kernel
theorem dMK_82 : decode method_3_code 82 = .ok (.castore, 1) := by decide +kernel
theorem dMK_83 : decode method_3_code 83 = .ok (.dup, 1) := by decide +kernel
theorem dMK_84 : decode method_3_code 84 = .ok (.iconst 1, 1) := by decide +kernel
theorem dMK_85 : decode method_3_code 85 = .ok (.aload_n 0, 1) := by decide +kernel
theorem dMK_86 : decode method_3_code 86 = .ok (.iconst 1, 1) := by decide +kernel
theorem dMK_87 : decode method_3_code 87 = .ok (.caload, 1) := by decide +kernel
theorem dMK_88 : decode method_3_code 88 = .ok (.castore, 1) := by decide +kernel
theorem dMK_89 : decode method_3_code 89 = .ok (.dup, 1) := by decide +kernel
theorem dMK_90 : decode method_3_code 90 = .ok (.iconst 2, 1) := by decide +kernel
theorem dMK_91 : decode method_3_code 91 = .ok (.aload_n 0, 1) := by decide +kernel
theorem dMK_92 : decode method_3_code 92 = .ok (.iconst 2, 1) := by decide +kernel
theorem dMK_93 : decode method_3_code 93 = .ok (.caload, 1) := by decide +kernel
theorem dMK_94 : decode method_3_code 94 = .ok (.castore, 1) := by decide +kernel
theorem dMK_95 : decode method_3_code 95 = .ok (.invokespecial 9, 3) := by decide +kernel
theorem dMK_98 : decode method_3_code 98 = .ok (.areturn, 1) := by decide +kernel
theorem dMK_99 : decode method_3_code 99 = .ok (.new 7, 3) := by decide +kernel
theorem dMK_102 : decode method_3_code 102 = .ok (.dup, 1) := by decide +kernel
theorem dMK_103 : decode method_3_code 103 = .ok (.iconst 4, 1) := by decide +kernel
theorem dMK_104 : decode method_3_code 104 = .ok (.newarray .char, 2) := by decide +kernel
theorem dMK_106 : decode method_3_code 106 = .ok (.dup, 1) := by decide +kernel
theorem dMK_107 : decode method_3_code 107 = .ok (.iconst 0, 1) := by decide +kernel
theorem dMK_108 : decode method_3_code 108 = .ok (.aload_n 0, 1) := by decide +kernel
theorem dMK_109 : decode method_3_code 109 = .ok (.iconst 0, 1) := by decide +kernel
theorem dMK_110 : decode method_3_code 110 = .ok (.caload, 1) := by decide +kernel
theorem dMK_111 : decode method_3_code 111 = .ok (.castore, 1) := by decide +kernel
theorem dMK_112 : decode method_3_code 112 = .ok (.dup, 1) := by decide +kernel
theorem dMK_113 : decode method_3_code 113 = .ok (.iconst 1, 1) := by decide +kernel
theorem dMK_114 : decode method_3_code 114 = .ok (.aload_n 0, 1) := by decide +kernel
theorem dMK_115 : decode method_3_code 115 = .ok (.iconst 1, 1) := by decide +kernel
theorem dMK_116 : decode method_3_code 116 = .ok (.caload, 1) := by decide +kernel
theorem dMK_117 : decode method_3_code 117 = .ok (.castore, 1) := by decide +kernel
theorem dMK_118 : decode method_3_code 118 = .ok (.dup, 1) := by decide +kernel
theorem dMK_119 : decode method_3_code 119 = .ok (.iconst 2, 1) := by decide +kernel
theorem dMK_120 : decode method_3_code 120 = .ok (.aload_n 0, 1) := by decide +kernel
theorem dMK_121 : decode method_3_code 121 = .ok (.iconst 2, 1) := by decide +kernel
theorem dMK_122 : decode method_3_code 122 = .ok (.caload, 1) := by decide +kernel
theorem dMK_123 : decode method_3_code 123 = .ok (.castore, 1) := by decide +kernel
theorem dMK_124 : decode method_3_code 124 = .ok (.dup, 1) := by decide +kernel
theorem dMK_125 : decode method_3_code 125 = .ok (.iconst 3, 1) := by decide +kernel
theorem dMK_126 : decode method_3_code 126 = .ok (.aload_n 0, 1) := by decide +kernel
theorem dMK_127 : decode method_3_code 127 = .ok (.iconst 3, 1) := by decide +kernel
theorem dMK_128 : decode method_3_code 128 = .ok (.caload, 1) := by decide +kernel
theorem dMK_129 : decode method_3_code 129 = .ok (.castore, 1) := by decide +kernel
theorem dMK_130 : decode method_3_code 130 = .ok (.invokespecial 9, 3) := by decide +kernel
theorem dMK_133 : decode method_3_code 133 = .ok (.areturn, 1) := by decide +kernel
set_option maxRecDepth 65536 in
set_option maxHeartbeats 40000000 in
theorem own_mk (l : Launch) (Z : State) (a0 : Array Value) (hw : ∀ d ∈ tables_1, d.before a0 Z = true) (EL : List (String × Nat)) (hEL : EW Z a0 EL) (h0 : Heap) (c : Addr) (kc : ClassId) (c0 c1 c2 c3 : Int32) (B : Arv Z h0 c kc .char 4 ([c0, c1, c2, c3].map Value.int) (.int 0)) (hr : Rng [c0, c1, c2, c3]) (n : Nat) (hn : n ≤ 4) (hm : ("java/lang/String", 7) ∈ EL) (cz : Int32) (O : Sta Z Z.heap "java/lang/String" "COMPACT_STRINGS" "Z" (.int cz)) (hO : ¬ cz = 0) :
    Con l Z EL false [] (⟨"com/example/fionn/fionn/io/SgmlScannerNextPinLaw", "mk", "([CI)Ljava/lang/String;"⟩ : MethodName) method_3_code 2 (some (.object "java/lang/String")) ({ frames := 5, cells := 5, slots := 12, locals := 90 } : Room) #[(.ref c), (.int (Int32.ofNat n))] h0 (fun v h' => ∃ s, v = some (.ref s) ∧ SC Z h' s ([c0, c1, c2, c3].take n) ∧ Ext h0 h') := by
  refine Con.of (Ls := #[.val (.ref c), .val (.int (Int32.ofNat n))]) (plainFor_of_name own_pn6) hEL (fun m => by first | (simp [entryFrame, mkF, argsToLocals, Value.category]; done) | rfl) ?_
  intro vm0 hZ0 hE0 hC0 hS0
  have hr0 := hr c0 (by simp)
  have hr1 := hr c1 (by simp)
  have hr2 := hr c2 (by simp)
  have hr3 := hr c3 (by simp)
  have hc5 : n = 0 ∨ n = 1 ∨ n = 2 ∨ n = 3 ∨ n = 4 := by omega
  rcases hc5 with rfl | rfl | rfl | rfl | rfl
  · refine WP.iloadN (n := 1) dMK_0 rfl rfl ?_
    refine WP.ifcN (n' := 4) dMK_1 (by decide) rfl ?_
    refine WP.new (n := 7) (ce' := 1) (sl' := 4) dMK_4 (hw _ (List.mem_of_getElem? (i := 9) rfl)) (hw _ (List.mem_of_getElem? (i := 10) rfl)) (hw _ (List.mem_of_getElem? (i := 11) rfl)) rfl rfl (by decide) (by decide) rfl (fun a76 h76 g76 E76 A76 D76 S76 N76 r76 => ?_)
    refine WP.dup (n := 8) dMK_7 rfl rfl ?_
    refine WP.iconst (n := 9) (z := (0 : Int32)) dMK_8 rfl rfl ?_
    refine WP.newP (n := 11) (ce' := 2) (sl' := 4) (cap := 0) (ty := .char) dMK_9 (hw _ (List.mem_of_getElem? (i := 0) rfl)) rfl (by decide) (by decide) (by decide) rfl rfl (by decide) (by decide) rfl (fun a77 h77 k77 g77 E77 V77 S77 N77 r77 => ?_)
    have V77_ : Arv Z h77 a77 k77 .char (0 : Int32) [] (.int 0) := V77.pad (pad_rep [] (.int 0) 0)
    have SA77 := r77.safe A76.lt S76
    have XA77 := A76.ext E77
    have XV77 := (D76 (Or.inr (hw _ (List.mem_of_getElem? (i := 24) rfl))) (ty := .array .byte) (by decide)).ext E77
    have XC77 := (D76 (Or.inr (hw _ (List.mem_of_getElem? (i := 25) rfl))) (ty := .byte) (by decide)).ext E77
    have XN77 : a76 ≠ a77 := Nat.ne_of_lt (Nat.lt_of_lt_of_le A76.lt (Nat.le_of_eq g77.symm))
    refine WP.callP (n := 14) (ce' := 4) (sl' := 8) (Wd := 1) (a := a76) (argsL := [(.ref a77)]) (rest := [(.ref a76)]) (own_si1 l Z a0 hw EL hEL h77 a76 a77 _ _ N76 XA77 XV77 XC77 _ _ V77 hm) dMK_11 rfl (hw _ (List.mem_of_getElem? (i := 12) rfl)) (hw _ (List.mem_of_getElem? (i := 13) rfl)) (hw _ (List.mem_of_getElem? (i := 11) rfl)) (hw _ (List.mem_of_getElem? (i := 14) rfl)) (by decide) (fun y q => by cases List.mem_singleton.mp q; exact ⟨SA77, XA77.lt⟩) (by decide) (by decide) rfl rfl (by decide) (by decide) rfl rfl (lenOf own_pd18 rfl) rfl (Nat.le_of_eq rfl) rfl (fun v78 vm78 h78 q78 r78 => ?_)
    obtain ⟨rfl, K78, F78⟩ := q78
    have E78 := ext_keep1 (ext_trans E76 E77) K78 (Nat.le_of_eq g76.symm)
    exact WP.retA dMK_14 rfl rfl rfl rfl (by decide) (by decide) ⟨a76, rfl, ⟨F78, fun y hy => hr y (List.mem_of_mem_take hy), Nat.le_of_ble_eq_true rfl⟩, E78⟩
  · refine WP.iloadN (n := 1) dMK_0 rfl rfl ?_
    refine WP.ifcY (n := 15) dMK_1 (by decide) (by decide) (by decide) ?_
    refine WP.iloadN (n := 16) dMK_15 rfl rfl ?_
    refine WP.iconst (n := 17) (z := (1 : Int32)) dMK_16 rfl rfl ?_
    refine WP.icmpN (n' := 20) dMK_17 (by decide) rfl ?_
    refine WP.new (n := 23) (ce' := 1) (sl' := 4) dMK_20 (hw _ (List.mem_of_getElem? (i := 9) rfl)) (hw _ (List.mem_of_getElem? (i := 10) rfl)) (hw _ (List.mem_of_getElem? (i := 11) rfl)) rfl rfl (by decide) (by decide) rfl (fun a79 h79 g79 E79 A79 D79 S79 N79 r79 => ?_)
    refine WP.dup (n := 24) dMK_23 rfl rfl ?_
    refine WP.iconst (n := 25) (z := (1 : Int32)) dMK_24 rfl rfl ?_
    refine WP.newP (n := 27) (ce' := 2) (sl' := 5) (cap := 1) (ty := .char) dMK_25 (hw _ (List.mem_of_getElem? (i := 0) rfl)) rfl (by decide) (by decide) (by decide) rfl rfl (by decide) (by decide) rfl (fun a80 h80 k80 g80 E80 V80 S80 N80 r80 => ?_)
    have V80_ : Arv Z h80 a80 k80 .char (1 : Int32) [.int 0] (.int 0) := V80.pad (pad_rep [] (.int 0) 1)
    have SA80 := r80.safe A79.lt S79
    have XA80 := A79.ext E80
    have XV80 := (D79 (Or.inr (hw _ (List.mem_of_getElem? (i := 24) rfl))) (ty := .array .byte) (by decide)).ext E80
    have XC80 := (D79 (Or.inr (hw _ (List.mem_of_getElem? (i := 25) rfl))) (ty := .byte) (by decide)).ext E80
    have XN80 : a79 ≠ a80 := Nat.ne_of_lt (Nat.lt_of_lt_of_le A79.lt (Nat.le_of_eq g80.symm))
    refine WP.dup (n := 28) dMK_27 rfl rfl ?_
    refine WP.iconst (n := 29) (z := (0 : Int32)) dMK_28 rfl rfl ?_
    refine WP.aloadN (n := 30) dMK_29 rfl rfl rfl ?_
    refine WP.iconst (n := 31) (z := (0 : Int32)) dMK_30 rfl rfl ?_
    refine WP.caload (n := 32) (v := .int c0) dMK_31 (B.ext (ext_trans E79 E80)) ⟨by decide, by decide⟩ rfl rfl ?_
    refine WP.stC (n := 33) (i := 0) (y := c0) dMK_32 V80_ (by decide) rfl (Nat.le_of_ble_eq_true rfl) (own_c16 hr0) N80 S80 rfl (fun h81 W81 V81 r81 => ?_)
    have SS81 := r81.safe V80_.lt S80
    have SA81 := r81.safe XA80.lt SA80
    have XA81 := XA80.wr W81
    have XV81 := XV80.other W81 (Or.inl XN80)
    have XC81 := XC80.other W81 (Or.inl XN80)
    have hws : ∀ d ∈ StrChars.Road.words, d.before a0 Z = true := fun d hd => hw d ((by decide +kernel : ∀ d ∈ StrChars.Road.words, d ∈ tables_1) d hd)
    refine WP.inv fun hZ82 hE82 hC82 => ?_
    refine WP.backP (n := 36) (ce' := 3) (sl' := 6) (Wd := 1) (a := a79) (argsL := [(.ref a80)]) (rest := [(.ref a79)]) (Qy := StrChars.Road.QV Z a79 1 (([c0] : List Int32).map (fun c => c.toInt8.toInt32)) h81 Z.heap.size)
      (fun p e below s args hz => StrChars.Road.backV (W := 1) hz hws (kI := 4) (hw _ (List.mem_of_getElem? (i := 10) rfl)) (cs := [c0]) (n := 1) (n0 := Z.heap.size) N79 hE82.1 XA81 XV81 XC81 V81 (O.ext hE82) hO rfl rfl (by decide) (by decide) (own_rng_cons hr0 own_rng_nil) rfl (by decide) (by decide))
      (fun v h' L hq => ⟨hq.2.1, ext_keep1 hE82 hq.2.2.1 N79, CHr.keep hq.2.2.1 (fun z hz => by cases List.mem_singleton.mp hz; exact SA81) hC82⟩)
      dMK_33 rfl (hw _ (List.mem_of_getElem? (i := 12) rfl)) (hw _ (List.mem_of_getElem? (i := 13) rfl)) (hw _ (List.mem_of_getElem? (i := 14) rfl)) (by decide) rfl rfl (by decide) (by decide) rfl rfl (lenOf own_pd18 rfl) rfl (Nat.le_of_eq rfl) rfl (fun v82 h82 L82 q82 r82 => ?_)
    obtain ⟨rfl, -, K82, QA82, QC82, t82, kb82, -, -, -, QV82, QB82⟩ := q82
    have F82 : Str Z h82 a79 [c0.toInt8.toInt32] := ⟨QA82, QC82, t82, kb82, 1, QV82, QB82, rfl⟩
    have E82 := ext_keep1 (ext_wr (ext_trans E79 E80) W81 (Nat.le_trans E79.1 (Nat.le_of_eq g80.symm))) K82 (Nat.le_of_eq g79.symm)
    exact WP.retA dMK_36 rfl rfl rfl rfl (by decide) (by decide) ⟨a79, rfl, ⟨F82, fun y hy => hr y (List.mem_of_mem_take hy), Nat.le_of_ble_eq_true rfl⟩, E82⟩
  · refine WP.iloadN (n := 1) dMK_0 rfl rfl ?_
    refine WP.ifcY (n := 15) dMK_1 (by decide) (by decide) (by decide) ?_
    refine WP.iloadN (n := 16) dMK_15 rfl rfl ?_
    refine WP.iconst (n := 17) (z := (1 : Int32)) dMK_16 rfl rfl ?_
    refine WP.icmpY (n := 37) dMK_17 (by decide) (by decide) (by decide) ?_
    refine WP.iloadN (n := 38) dMK_37 rfl rfl ?_
    refine WP.iconst (n := 39) (z := (2 : Int32)) dMK_38 rfl rfl ?_
    refine WP.icmpN (n' := 42) dMK_39 (by decide) rfl ?_
    refine WP.new (n := 45) (ce' := 1) (sl' := 4) dMK_42 (hw _ (List.mem_of_getElem? (i := 9) rfl)) (hw _ (List.mem_of_getElem? (i := 10) rfl)) (hw _ (List.mem_of_getElem? (i := 11) rfl)) rfl rfl (by decide) (by decide) rfl (fun a83 h83 g83 E83 A83 D83 S83 N83 r83 => ?_)
    refine WP.dup (n := 46) dMK_45 rfl rfl ?_
    refine WP.iconst (n := 47) (z := (2 : Int32)) dMK_46 rfl rfl ?_
    refine WP.newP (n := 49) (ce' := 2) (sl' := 6) (cap := 2) (ty := .char) dMK_47 (hw _ (List.mem_of_getElem? (i := 0) rfl)) rfl (by decide) (by decide) (by decide) rfl rfl (by decide) (by decide) rfl (fun a84 h84 k84 g84 E84 V84 S84 N84 r84 => ?_)
    have V84_ : Arv Z h84 a84 k84 .char (2 : Int32) [.int 0, .int 0] (.int 0) := V84.pad (pad_rep [] (.int 0) 2)
    have SA84 := r84.safe A83.lt S83
    have XA84 := A83.ext E84
    have XV84 := (D83 (Or.inr (hw _ (List.mem_of_getElem? (i := 24) rfl))) (ty := .array .byte) (by decide)).ext E84
    have XC84 := (D83 (Or.inr (hw _ (List.mem_of_getElem? (i := 25) rfl))) (ty := .byte) (by decide)).ext E84
    have XN84 : a83 ≠ a84 := Nat.ne_of_lt (Nat.lt_of_lt_of_le A83.lt (Nat.le_of_eq g84.symm))
    refine WP.dup (n := 50) dMK_49 rfl rfl ?_
    refine WP.iconst (n := 51) (z := (0 : Int32)) dMK_50 rfl rfl ?_
    refine WP.aloadN (n := 52) dMK_51 rfl rfl rfl ?_
    refine WP.iconst (n := 53) (z := (0 : Int32)) dMK_52 rfl rfl ?_
    refine WP.caload (n := 54) (v := .int c0) dMK_53 (B.ext (ext_trans E83 E84)) ⟨by decide, by decide⟩ rfl rfl ?_
    refine WP.stC (n := 55) (i := 0) (y := c0) dMK_54 V84_ (by decide) rfl (Nat.le_of_ble_eq_true rfl) (own_c16 hr0) N84 S84 rfl (fun h85 W85 V85 r85 => ?_)
    have SS85 := r85.safe V84_.lt S84
    have SA85 := r85.safe XA84.lt SA84
    have XA85 := XA84.wr W85
    have XV85 := XV84.other W85 (Or.inl XN84)
    have XC85 := XC84.other W85 (Or.inl XN84)
    refine WP.dup (n := 56) dMK_55 rfl rfl ?_
    refine WP.iconst (n := 57) (z := (1 : Int32)) dMK_56 rfl rfl ?_
    refine WP.aloadN (n := 58) dMK_57 rfl rfl rfl ?_
    refine WP.iconst (n := 59) (z := (1 : Int32)) dMK_58 rfl rfl ?_
    refine WP.caload (n := 60) (v := .int c1) dMK_59 (B.ext (ext_wr (ext_trans E83 E84) W85 (Nat.le_trans E83.1 (Nat.le_of_eq g84.symm)))) ⟨by decide, by decide⟩ rfl rfl ?_
    refine WP.stC (n := 61) (i := 1) (y := c1) dMK_60 V85 (by decide) rfl (Nat.le_of_ble_eq_true rfl) (own_c16 hr1) N84 SS85 rfl (fun h86 W86 V86 r86 => ?_)
    have SS86 := r86.safe V85.lt SS85
    have SA86 := r86.safe XA85.lt SA85
    have XA86 := XA85.wr W86
    have XV86 := XV85.other W86 (Or.inl XN84)
    have XC86 := XC85.other W86 (Or.inl XN84)
    have hws : ∀ d ∈ StrChars.Road.words, d.before a0 Z = true := fun d hd => hw d ((by decide +kernel : ∀ d ∈ StrChars.Road.words, d ∈ tables_1) d hd)
    refine WP.inv fun hZ87 hE87 hC87 => ?_
    refine WP.backP (n := 64) (ce' := 3) (sl' := 8) (Wd := 1) (a := a83) (argsL := [(.ref a84)]) (rest := [(.ref a83)]) (Qy := StrChars.Road.QV Z a83 2 (([c0, c1] : List Int32).map (fun c => c.toInt8.toInt32)) h86 Z.heap.size)
      (fun p e below s args hz => StrChars.Road.backV (W := 1) hz hws (kI := 4) (hw _ (List.mem_of_getElem? (i := 10) rfl)) (cs := [c0, c1]) (n := 2) (n0 := Z.heap.size) N83 hE87.1 XA86 XV86 XC86 V86 (O.ext hE87) hO rfl rfl (by decide) (by decide) (own_rng_cons hr0 (own_rng_cons hr1 own_rng_nil)) rfl (by decide) (by decide))
      (fun v h' L hq => ⟨hq.2.1, ext_keep1 hE87 hq.2.2.1 N83, CHr.keep hq.2.2.1 (fun z hz => by cases List.mem_singleton.mp hz; exact SA86) hC87⟩)
      dMK_61 rfl (hw _ (List.mem_of_getElem? (i := 12) rfl)) (hw _ (List.mem_of_getElem? (i := 13) rfl)) (hw _ (List.mem_of_getElem? (i := 14) rfl)) (by decide) rfl rfl (by decide) (by decide) rfl rfl (lenOf own_pd18 rfl) rfl (Nat.le_of_eq rfl) rfl (fun v87 h87 L87 q87 r87 => ?_)
    obtain ⟨rfl, -, K87, QA87, QC87, t87, kb87, -, -, -, QV87, QB87⟩ := q87
    have F87 : Str Z h87 a83 [c0.toInt8.toInt32, c1.toInt8.toInt32] := ⟨QA87, QC87, t87, kb87, 2, QV87, QB87, rfl⟩
    have E87 := ext_keep1 (ext_wr (ext_wr (ext_trans E83 E84) W85 (Nat.le_trans E83.1 (Nat.le_of_eq g84.symm))) W86 (Nat.le_trans E83.1 (Nat.le_of_eq g84.symm))) K87 (Nat.le_of_eq g83.symm)
    exact WP.retA dMK_64 rfl rfl rfl rfl (by decide) (by decide) ⟨a83, rfl, ⟨F87, fun y hy => hr y (List.mem_of_mem_take hy), Nat.le_of_ble_eq_true rfl⟩, E87⟩
  · refine WP.iloadN (n := 1) dMK_0 rfl rfl ?_
    refine WP.ifcY (n := 15) dMK_1 (by decide) (by decide) (by decide) ?_
    refine WP.iloadN (n := 16) dMK_15 rfl rfl ?_
    refine WP.iconst (n := 17) (z := (1 : Int32)) dMK_16 rfl rfl ?_
    refine WP.icmpY (n := 37) dMK_17 (by decide) (by decide) (by decide) ?_
    refine WP.iloadN (n := 38) dMK_37 rfl rfl ?_
    refine WP.iconst (n := 39) (z := (2 : Int32)) dMK_38 rfl rfl ?_
    refine WP.icmpY (n := 65) dMK_39 (by decide) (by decide) (by decide) ?_
    refine WP.iloadN (n := 66) dMK_65 rfl rfl ?_
    refine WP.iconst (n := 67) (z := (3 : Int32)) dMK_66 rfl rfl ?_
    refine WP.icmpN (n' := 70) dMK_67 (by decide) rfl ?_
    refine WP.new (n := 73) (ce' := 1) (sl' := 4) dMK_70 (hw _ (List.mem_of_getElem? (i := 9) rfl)) (hw _ (List.mem_of_getElem? (i := 10) rfl)) (hw _ (List.mem_of_getElem? (i := 11) rfl)) rfl rfl (by decide) (by decide) rfl (fun a88 h88 g88 E88 A88 D88 S88 N88 r88 => ?_)
    refine WP.dup (n := 74) dMK_73 rfl rfl ?_
    refine WP.iconst (n := 75) (z := (3 : Int32)) dMK_74 rfl rfl ?_
    refine WP.newP (n := 77) (ce' := 2) (sl' := 7) (cap := 3) (ty := .char) dMK_75 (hw _ (List.mem_of_getElem? (i := 0) rfl)) rfl (by decide) (by decide) (by decide) rfl rfl (by decide) (by decide) rfl (fun a89 h89 k89 g89 E89 V89 S89 N89 r89 => ?_)
    have V89_ : Arv Z h89 a89 k89 .char (3 : Int32) [.int 0, .int 0, .int 0] (.int 0) := V89.pad (pad_rep [] (.int 0) 3)
    have SA89 := r89.safe A88.lt S88
    have XA89 := A88.ext E89
    have XV89 := (D88 (Or.inr (hw _ (List.mem_of_getElem? (i := 24) rfl))) (ty := .array .byte) (by decide)).ext E89
    have XC89 := (D88 (Or.inr (hw _ (List.mem_of_getElem? (i := 25) rfl))) (ty := .byte) (by decide)).ext E89
    have XN89 : a88 ≠ a89 := Nat.ne_of_lt (Nat.lt_of_lt_of_le A88.lt (Nat.le_of_eq g89.symm))
    refine WP.dup (n := 78) dMK_77 rfl rfl ?_
    refine WP.iconst (n := 79) (z := (0 : Int32)) dMK_78 rfl rfl ?_
    refine WP.aloadN (n := 80) dMK_79 rfl rfl rfl ?_
    refine WP.iconst (n := 81) (z := (0 : Int32)) dMK_80 rfl rfl ?_
    refine WP.caload (n := 82) (v := .int c0) dMK_81 (B.ext (ext_trans E88 E89)) ⟨by decide, by decide⟩ rfl rfl ?_
    refine WP.stC (n := 83) (i := 0) (y := c0) dMK_82 V89_ (by decide) rfl (Nat.le_of_ble_eq_true rfl) (own_c16 hr0) N89 S89 rfl (fun h90 W90 V90 r90 => ?_)
    have SS90 := r90.safe V89_.lt S89
    have SA90 := r90.safe XA89.lt SA89
    have XA90 := XA89.wr W90
    have XV90 := XV89.other W90 (Or.inl XN89)
    have XC90 := XC89.other W90 (Or.inl XN89)
    refine WP.dup (n := 84) dMK_83 rfl rfl ?_
    refine WP.iconst (n := 85) (z := (1 : Int32)) dMK_84 rfl rfl ?_
    refine WP.aloadN (n := 86) dMK_85 rfl rfl rfl ?_
    refine WP.iconst (n := 87) (z := (1 : Int32)) dMK_86 rfl rfl ?_
    refine WP.caload (n := 88) (v := .int c1) dMK_87 (B.ext (ext_wr (ext_trans E88 E89) W90 (Nat.le_trans E88.1 (Nat.le_of_eq g89.symm)))) ⟨by decide, by decide⟩ rfl rfl ?_
    refine WP.stC (n := 89) (i := 1) (y := c1) dMK_88 V90 (by decide) rfl (Nat.le_of_ble_eq_true rfl) (own_c16 hr1) N89 SS90 rfl (fun h91 W91 V91 r91 => ?_)
    have SS91 := r91.safe V90.lt SS90
    have SA91 := r91.safe XA90.lt SA90
    have XA91 := XA90.wr W91
    have XV91 := XV90.other W91 (Or.inl XN89)
    have XC91 := XC90.other W91 (Or.inl XN89)
    refine WP.dup (n := 90) dMK_89 rfl rfl ?_
    refine WP.iconst (n := 91) (z := (2 : Int32)) dMK_90 rfl rfl ?_
    refine WP.aloadN (n := 92) dMK_91 rfl rfl rfl ?_
    refine WP.iconst (n := 93) (z := (2 : Int32)) dMK_92 rfl rfl ?_
    refine WP.caload (n := 94) (v := .int c2) dMK_93 (B.ext (ext_wr (ext_wr (ext_trans E88 E89) W90 (Nat.le_trans E88.1 (Nat.le_of_eq g89.symm))) W91 (Nat.le_trans E88.1 (Nat.le_of_eq g89.symm)))) ⟨by decide, by decide⟩ rfl rfl ?_
    refine WP.stC (n := 95) (i := 2) (y := c2) dMK_94 V91 (by decide) rfl (Nat.le_of_ble_eq_true rfl) (own_c16 hr2) N89 SS91 rfl (fun h92 W92 V92 r92 => ?_)
    have SS92 := r92.safe V91.lt SS91
    have SA92 := r92.safe XA91.lt SA91
    have XA92 := XA91.wr W92
    have XV92 := XV91.other W92 (Or.inl XN89)
    have XC92 := XC91.other W92 (Or.inl XN89)
    have hws : ∀ d ∈ StrChars.Road.words, d.before a0 Z = true := fun d hd => hw d ((by decide +kernel : ∀ d ∈ StrChars.Road.words, d ∈ tables_1) d hd)
    refine WP.inv fun hZ93 hE93 hC93 => ?_
    refine WP.backP (n := 98) (ce' := 3) (sl' := 10) (Wd := 1) (a := a88) (argsL := [(.ref a89)]) (rest := [(.ref a88)]) (Qy := StrChars.Road.QV Z a88 3 (([c0, c1, c2] : List Int32).map (fun c => c.toInt8.toInt32)) h92 Z.heap.size)
      (fun p e below s args hz => StrChars.Road.backV (W := 1) hz hws (kI := 4) (hw _ (List.mem_of_getElem? (i := 10) rfl)) (cs := [c0, c1, c2]) (n := 3) (n0 := Z.heap.size) N88 hE93.1 XA92 XV92 XC92 V92 (O.ext hE93) hO rfl rfl (by decide) (by decide) (own_rng_cons hr0 (own_rng_cons hr1 (own_rng_cons hr2 own_rng_nil))) rfl (by decide) (by decide))
      (fun v h' L hq => ⟨hq.2.1, ext_keep1 hE93 hq.2.2.1 N88, CHr.keep hq.2.2.1 (fun z hz => by cases List.mem_singleton.mp hz; exact SA92) hC93⟩)
      dMK_95 rfl (hw _ (List.mem_of_getElem? (i := 12) rfl)) (hw _ (List.mem_of_getElem? (i := 13) rfl)) (hw _ (List.mem_of_getElem? (i := 14) rfl)) (by decide) rfl rfl (by decide) (by decide) rfl rfl (lenOf own_pd18 rfl) rfl (Nat.le_of_eq rfl) rfl (fun v93 h93 L93 q93 r93 => ?_)
    obtain ⟨rfl, -, K93, QA93, QC93, t93, kb93, -, -, -, QV93, QB93⟩ := q93
    have F93 : Str Z h93 a88 [c0.toInt8.toInt32, c1.toInt8.toInt32, c2.toInt8.toInt32] := ⟨QA93, QC93, t93, kb93, 3, QV93, QB93, rfl⟩
    have E93 := ext_keep1 (ext_wr (ext_wr (ext_wr (ext_trans E88 E89) W90 (Nat.le_trans E88.1 (Nat.le_of_eq g89.symm))) W91 (Nat.le_trans E88.1 (Nat.le_of_eq g89.symm))) W92 (Nat.le_trans E88.1 (Nat.le_of_eq g89.symm))) K93 (Nat.le_of_eq g88.symm)
    exact WP.retA dMK_98 rfl rfl rfl rfl (by decide) (by decide) ⟨a88, rfl, ⟨F93, fun y hy => hr y (List.mem_of_mem_take hy), Nat.le_of_ble_eq_true rfl⟩, E93⟩
  · refine WP.iloadN (n := 1) dMK_0 rfl rfl ?_
    refine WP.ifcY (n := 15) dMK_1 (by decide) (by decide) (by decide) ?_
    refine WP.iloadN (n := 16) dMK_15 rfl rfl ?_
    refine WP.iconst (n := 17) (z := (1 : Int32)) dMK_16 rfl rfl ?_
    refine WP.icmpY (n := 37) dMK_17 (by decide) (by decide) (by decide) ?_
    refine WP.iloadN (n := 38) dMK_37 rfl rfl ?_
    refine WP.iconst (n := 39) (z := (2 : Int32)) dMK_38 rfl rfl ?_
    refine WP.icmpY (n := 65) dMK_39 (by decide) (by decide) (by decide) ?_
    refine WP.iloadN (n := 66) dMK_65 rfl rfl ?_
    refine WP.iconst (n := 67) (z := (3 : Int32)) dMK_66 rfl rfl ?_
    refine WP.icmpY (n := 99) dMK_67 (by decide) (by decide) (by decide) ?_
    refine WP.new (n := 102) (ce' := 1) (sl' := 4) dMK_99 (hw _ (List.mem_of_getElem? (i := 9) rfl)) (hw _ (List.mem_of_getElem? (i := 10) rfl)) (hw _ (List.mem_of_getElem? (i := 11) rfl)) rfl rfl (by decide) (by decide) rfl (fun a94 h94 g94 E94 A94 D94 S94 N94 r94 => ?_)
    refine WP.dup (n := 103) dMK_102 rfl rfl ?_
    refine WP.iconst (n := 104) (z := (4 : Int32)) dMK_103 rfl rfl ?_
    refine WP.newP (n := 106) (ce' := 2) (sl' := 8) (cap := 4) (ty := .char) dMK_104 (hw _ (List.mem_of_getElem? (i := 0) rfl)) rfl (by decide) (by decide) (by decide) rfl rfl (by decide) (by decide) rfl (fun a95 h95 k95 g95 E95 V95 S95 N95 r95 => ?_)
    have V95_ : Arv Z h95 a95 k95 .char (4 : Int32) [.int 0, .int 0, .int 0, .int 0] (.int 0) := V95.pad (pad_rep [] (.int 0) 4)
    have SA95 := r95.safe A94.lt S94
    have XA95 := A94.ext E95
    have XV95 := (D94 (Or.inr (hw _ (List.mem_of_getElem? (i := 24) rfl))) (ty := .array .byte) (by decide)).ext E95
    have XC95 := (D94 (Or.inr (hw _ (List.mem_of_getElem? (i := 25) rfl))) (ty := .byte) (by decide)).ext E95
    have XN95 : a94 ≠ a95 := Nat.ne_of_lt (Nat.lt_of_lt_of_le A94.lt (Nat.le_of_eq g95.symm))
    refine WP.dup (n := 107) dMK_106 rfl rfl ?_
    refine WP.iconst (n := 108) (z := (0 : Int32)) dMK_107 rfl rfl ?_
    refine WP.aloadN (n := 109) dMK_108 rfl rfl rfl ?_
    refine WP.iconst (n := 110) (z := (0 : Int32)) dMK_109 rfl rfl ?_
    refine WP.caload (n := 111) (v := .int c0) dMK_110 (B.ext (ext_trans E94 E95)) ⟨by decide, by decide⟩ rfl rfl ?_
    refine WP.stC (n := 112) (i := 0) (y := c0) dMK_111 V95_ (by decide) rfl (Nat.le_of_ble_eq_true rfl) (own_c16 hr0) N95 S95 rfl (fun h96 W96 V96 r96 => ?_)
    have SS96 := r96.safe V95_.lt S95
    have SA96 := r96.safe XA95.lt SA95
    have XA96 := XA95.wr W96
    have XV96 := XV95.other W96 (Or.inl XN95)
    have XC96 := XC95.other W96 (Or.inl XN95)
    refine WP.dup (n := 113) dMK_112 rfl rfl ?_
    refine WP.iconst (n := 114) (z := (1 : Int32)) dMK_113 rfl rfl ?_
    refine WP.aloadN (n := 115) dMK_114 rfl rfl rfl ?_
    refine WP.iconst (n := 116) (z := (1 : Int32)) dMK_115 rfl rfl ?_
    refine WP.caload (n := 117) (v := .int c1) dMK_116 (B.ext (ext_wr (ext_trans E94 E95) W96 (Nat.le_trans E94.1 (Nat.le_of_eq g95.symm)))) ⟨by decide, by decide⟩ rfl rfl ?_
    refine WP.stC (n := 118) (i := 1) (y := c1) dMK_117 V96 (by decide) rfl (Nat.le_of_ble_eq_true rfl) (own_c16 hr1) N95 SS96 rfl (fun h97 W97 V97 r97 => ?_)
    have SS97 := r97.safe V96.lt SS96
    have SA97 := r97.safe XA96.lt SA96
    have XA97 := XA96.wr W97
    have XV97 := XV96.other W97 (Or.inl XN95)
    have XC97 := XC96.other W97 (Or.inl XN95)
    refine WP.dup (n := 119) dMK_118 rfl rfl ?_
    refine WP.iconst (n := 120) (z := (2 : Int32)) dMK_119 rfl rfl ?_
    refine WP.aloadN (n := 121) dMK_120 rfl rfl rfl ?_
    refine WP.iconst (n := 122) (z := (2 : Int32)) dMK_121 rfl rfl ?_
    refine WP.caload (n := 123) (v := .int c2) dMK_122 (B.ext (ext_wr (ext_wr (ext_trans E94 E95) W96 (Nat.le_trans E94.1 (Nat.le_of_eq g95.symm))) W97 (Nat.le_trans E94.1 (Nat.le_of_eq g95.symm)))) ⟨by decide, by decide⟩ rfl rfl ?_
    refine WP.stC (n := 124) (i := 2) (y := c2) dMK_123 V97 (by decide) rfl (Nat.le_of_ble_eq_true rfl) (own_c16 hr2) N95 SS97 rfl (fun h98 W98 V98 r98 => ?_)
    have SS98 := r98.safe V97.lt SS97
    have SA98 := r98.safe XA97.lt SA97
    have XA98 := XA97.wr W98
    have XV98 := XV97.other W98 (Or.inl XN95)
    have XC98 := XC97.other W98 (Or.inl XN95)
    refine WP.dup (n := 125) dMK_124 rfl rfl ?_
    refine WP.iconst (n := 126) (z := (3 : Int32)) dMK_125 rfl rfl ?_
    refine WP.aloadN (n := 127) dMK_126 rfl rfl rfl ?_
    refine WP.iconst (n := 128) (z := (3 : Int32)) dMK_127 rfl rfl ?_
    refine WP.caload (n := 129) (v := .int c3) dMK_128 (B.ext (ext_wr (ext_wr (ext_wr (ext_trans E94 E95) W96 (Nat.le_trans E94.1 (Nat.le_of_eq g95.symm))) W97 (Nat.le_trans E94.1 (Nat.le_of_eq g95.symm))) W98 (Nat.le_trans E94.1 (Nat.le_of_eq g95.symm)))) ⟨by decide, by decide⟩ rfl rfl ?_
    refine WP.stC (n := 130) (i := 3) (y := c3) dMK_129 V98 (by decide) rfl (Nat.le_of_ble_eq_true rfl) (own_c16 hr3) N95 SS98 rfl (fun h99 W99 V99 r99 => ?_)
    have SS99 := r99.safe V98.lt SS98
    have SA99 := r99.safe XA98.lt SA98
    have XA99 := XA98.wr W99
    have XV99 := XV98.other W99 (Or.inl XN95)
    have XC99 := XC98.other W99 (Or.inl XN95)
    have hws : ∀ d ∈ StrChars.Road.words, d.before a0 Z = true := fun d hd => hw d ((by decide +kernel : ∀ d ∈ StrChars.Road.words, d ∈ tables_1) d hd)
    refine WP.inv fun hZ100 hE100 hC100 => ?_
    refine WP.backP (n := 133) (ce' := 3) (sl' := 12) (Wd := 1) (a := a94) (argsL := [(.ref a95)]) (rest := [(.ref a94)]) (Qy := StrChars.Road.QV Z a94 4 (([c0, c1, c2, c3] : List Int32).map (fun c => c.toInt8.toInt32)) h99 Z.heap.size)
      (fun p e below s args hz => StrChars.Road.backV (W := 1) hz hws (kI := 4) (hw _ (List.mem_of_getElem? (i := 10) rfl)) (cs := [c0, c1, c2, c3]) (n := 4) (n0 := Z.heap.size) N94 hE100.1 XA99 XV99 XC99 V99 (O.ext hE100) hO rfl rfl (by decide) (by decide) (own_rng_cons hr0 (own_rng_cons hr1 (own_rng_cons hr2 (own_rng_cons hr3 own_rng_nil)))) rfl (by decide) (by decide))
      (fun v h' L hq => ⟨hq.2.1, ext_keep1 hE100 hq.2.2.1 N94, CHr.keep hq.2.2.1 (fun z hz => by cases List.mem_singleton.mp hz; exact SA99) hC100⟩)
      dMK_130 rfl (hw _ (List.mem_of_getElem? (i := 12) rfl)) (hw _ (List.mem_of_getElem? (i := 13) rfl)) (hw _ (List.mem_of_getElem? (i := 14) rfl)) (by decide) rfl rfl (by decide) (by decide) rfl rfl (lenOf own_pd18 rfl) rfl (Nat.le_of_eq rfl) rfl (fun v100 h100 L100 q100 r100 => ?_)
    obtain ⟨rfl, -, K100, QA100, QC100, t100, kb100, -, -, -, QV100, QB100⟩ := q100
    have F100 : Str Z h100 a94 [c0.toInt8.toInt32, c1.toInt8.toInt32, c2.toInt8.toInt32, c3.toInt8.toInt32] := ⟨QA100, QC100, t100, kb100, 4, QV100, QB100, rfl⟩
    have E100 := ext_keep1 (ext_wr (ext_wr (ext_wr (ext_wr (ext_trans E94 E95) W96 (Nat.le_trans E94.1 (Nat.le_of_eq g95.symm))) W97 (Nat.le_trans E94.1 (Nat.le_of_eq g95.symm))) W98 (Nat.le_trans E94.1 (Nat.le_of_eq g95.symm))) W99 (Nat.le_trans E94.1 (Nat.le_of_eq g95.symm))) K100 (Nat.le_of_eq g94.symm)
    exact WP.retA dMK_133 rfl rfl rfl rfl (by decide) (by decide) ⟨a94, rfl, ⟨F100, fun y hy => hr y (List.mem_of_mem_take hy), Nat.le_of_ble_eq_true rfl⟩, E100⟩
theorem dFF_0 : decode method_4_code 0 = .ok (.iload_n 2, 1) := by decide +kernel
theorem dFF_1 : decode method_4_code 1 = .ok (.ifCond .gt 17, 3) := by decide +kernel
theorem dFF_4 : decode method_4_code 4 = .ok (.iconst 0, 1) := by decide +kernel
theorem dFF_5 : decode method_4_code 5 = .ok (.iload_n 1, 1) := by decide +kernel
theorem dFF_6 : decode method_4_code 6 = .ok (.if_icmp .ge 12, 3) := by decide +kernel
theorem dFF_9 : decode method_4_code 9 = .ok (.aload_n 0, 1) := by decide +kernel
theorem dFF_10 : decode method_4_code 10 = .ok (.iconst 0, 1) := by decide +kernel
theorem dFF_11 : decode method_4_code 11 = .ok (.caload, 1) := by decide +kernel
theorem dFF_12 : decode method_4_code 12 = .ok (.iload_n 3, 1) := by decide +kernel
theorem dFF_13 : decode method_4_code 13 = .ok (.if_icmp .ne 5, 3) := by decide +kernel
theorem dFF_16 : decode method_4_code 16 = .ok (.iconst 0, 1) := by decide +kernel
theorem dFF_17 : decode method_4_code 17 = .ok (.ireturn, 1) := by decide +kernel
theorem dFF_18 : decode method_4_code 18 = .ok (.iload_n 2, 1) := by decide +kernel
theorem dFF_19 : decode method_4_code 19 = .ok (.iconst 1, 1) := by decide +kernel
theorem dFF_20 : decode method_4_code 20 = .ok (.if_icmp .gt 17, 3) := by decide +kernel
theorem dFF_23 : decode method_4_code 23 = .ok (.iconst 1, 1) := by decide +kernel
theorem dFF_24 : decode method_4_code 24 = .ok (.iload_n 1, 1) := by decide +kernel
theorem dFF_25 : decode method_4_code 25 = .ok (.if_icmp .ge 12, 3) := by decide +kernel
theorem dFF_28 : decode method_4_code 28 = .ok (.aload_n 0, 1) := by decide +kernel
theorem dFF_29 : decode method_4_code 29 = .ok (.iconst 1, 1) := by decide +kernel
theorem dFF_30 : decode method_4_code 30 = .ok (.caload, 1) := by decide +kernel
theorem dFF_31 : decode method_4_code 31 = .ok (.iload_n 3, 1) := by decide +kernel
theorem dFF_32 : decode method_4_code 32 = .ok (.if_icmp .ne 5, 3) := by decide +kernel
theorem dFF_35 : decode method_4_code 35 = .ok (.iconst 1, 1) := by decide +kernel
theorem dFF_36 : decode method_4_code 36 = .ok (.ireturn, 1) := by decide +kernel
theorem dFF_37 : decode method_4_code 37 = .ok (.iload_n 2, 1) := by decide +kernel
theorem dFF_38 : decode method_4_code 38 = .ok (.iconst 2, 1) := by decide +kernel
theorem dFF_39 : decode method_4_code 39 = .ok (.if_icmp .gt 17, 3) := by decide +kernel
theorem dFF_42 : decode method_4_code 42 = .ok (.iconst 2, 1) := by decide +kernel
theorem dFF_43 : decode method_4_code 43 = .ok (.iload_n 1, 1) := by decide +kernel
theorem dFF_44 : decode method_4_code 44 = .ok (.if_icmp .ge 12, 3) := by decide +kernel
theorem dFF_47 : decode method_4_code 47 = .ok (.aload_n 0, 1) := by decide +kernel
theorem dFF_48 : decode method_4_code 48 = .ok (.iconst 2, 1) := by decide +kernel
theorem dFF_49 : decode method_4_code 49 = .ok (.caload, 1) := by decide +kernel
theorem dFF_50 : decode method_4_code 50 = .ok (.iload_n 3, 1) := by decide +kernel
theorem dFF_51 : decode method_4_code 51 = .ok (.if_icmp .ne 5, 3) := by decide +kernel
theorem dFF_54 : decode method_4_code 54 = .ok (.iconst 2, 1) := by decide +kernel
theorem dFF_55 : decode method_4_code 55 = .ok (.ireturn, 1) := by decide +kernel
theorem dFF_56 : decode method_4_code 56 = .ok (.iload_n 2, 1) := by decide +kernel
theorem dFF_57 : decode method_4_code 57 = .ok (.iconst 3, 1) := by decide +kernel
theorem dFF_58 : decode method_4_code 58 = .ok (.if_icmp .gt 17, 3) := by decide +kernel
theorem dFF_61 : decode method_4_code 61 = .ok (.iconst 3, 1) := by decide +kernel
theorem dFF_62 : decode method_4_code 62 = .ok (.iload_n 1, 1) := by decide +kernel
theorem dFF_63 : decode method_4_code 63 = .ok (.if_icmp .ge 12, 3) := by decide +kernel
theorem dFF_66 : decode method_4_code 66 = .ok (.aload_n 0, 1) := by decide +kernel
theorem dFF_67 : decode method_4_code 67 = .ok (.iconst 3, 1) := by decide +kernel
theorem dFF_68 : decode method_4_code 68 = .ok (.caload, 1) := by decide +kernel
theorem dFF_69 : decode method_4_code 69 = .ok (.iload_n 3, 1) := by decide +kernel
theorem dFF_70 : decode method_4_code 70 = .ok (.if_icmp .ne 5, 3) := by decide +kernel
theorem dFF_73 : decode method_4_code 73 = .ok (.iconst 3, 1) := by decide +kernel
theorem dFF_74 : decode method_4_code 74 = .ok (.ireturn, 1) := by decide +kernel
theorem dFF_75 : decode method_4_code 75 = .ok (.iconst (-1), 1) := by decide +kernel
theorem dFF_76 : decode method_4_code 76 = .ok (.ireturn, 1) := by decide +kernel
set_option maxRecDepth 65536 in
set_option maxHeartbeats 40000000 in
theorem own_ff (l : Launch) (Z : State) (a0 : Array Value) (hw : ∀ d ∈ tables_1, d.before a0 Z = true) (EL : List (String × Nat)) (hEL : EW Z a0 EL) (h0 : Heap) (c : Addr) (kc : ClassId) (c0 c1 c2 c3 : Int32) (B : Arv Z h0 c kc .char 4 ([c0, c1, c2, c3].map Value.int) (.int 0)) (ch : Int32) (n k : Nat) (hk1 : 1 ≤ k) (hkn : k ≤ n) (hn : n ≤ 4) :
    Con l Z EL false [] (⟨"com/example/fionn/fionn/io/SgmlScannerNextPinLaw", "firstFrom", "([CIIC)I"⟩ : MethodName) method_4_code 4 (some .int) ({ frames := 0, cells := 0, slots := 0, locals := 0 } : Room) #[(.ref c), (.int (Int32.ofNat n)), (.int (Int32.ofNat k)), (.int ch)] h0 (fun v h' => v = some (.int (own_find [c0, c1, c2, c3] ch (n - k) k)) ∧ h0 = h') := by
  refine Con.of (Ls := #[.val (.ref c), .val (.int (Int32.ofNat n)), .val (.int (Int32.ofNat k)), .val (.int ch)]) (plainFor_of_name own_pn6) hEL (fun m => by first | (simp [entryFrame, mkF, argsToLocals, Value.category]; done) | rfl) ?_
  intro vm0 hZ0 hE0 hC0 hS0
  have hc5 : (n = 1 ∧ k = 1) ∨ (n = 2 ∧ k = 1) ∨ (n = 2 ∧ k = 2) ∨ (n = 3 ∧ k = 1) ∨ (n = 3 ∧ k = 2) ∨ (n = 3 ∧ k = 3) ∨ (n = 4 ∧ k = 1) ∨ (n = 4 ∧ k = 2) ∨ (n = 4 ∧ k = 3) ∨ (n = 4 ∧ k = 4) := by omega
  rcases hc5 with ⟨rfl, rfl⟩ | ⟨rfl, rfl⟩ | ⟨rfl, rfl⟩ | ⟨rfl, rfl⟩ | ⟨rfl, rfl⟩ | ⟨rfl, rfl⟩ | ⟨rfl, rfl⟩ | ⟨rfl, rfl⟩ | ⟨rfl, rfl⟩ | ⟨rfl, rfl⟩
  · refine WP.iloadN (n := 1) dFF_0 rfl rfl ?_
    refine WP.ifcY (n := 18) dFF_1 (by decide) (by decide) (by decide) ?_
    refine WP.iloadN (n := 19) dFF_18 rfl rfl ?_
    refine WP.iconst (n := 20) (z := (1 : Int32)) dFF_19 rfl rfl ?_
    refine WP.icmpN (n' := 23) dFF_20 (by decide) rfl ?_
    refine WP.iconst (n := 24) (z := (1 : Int32)) dFF_23 rfl rfl ?_
    refine WP.iloadN (n := 25) dFF_24 rfl rfl ?_
    refine WP.icmpY (n := 37) dFF_25 (by decide) (by decide) (by decide) ?_
    refine WP.iloadN (n := 38) dFF_37 rfl rfl ?_
    refine WP.iconst (n := 39) (z := (2 : Int32)) dFF_38 rfl rfl ?_
    refine WP.icmpN (n' := 42) dFF_39 (by decide) rfl ?_
    refine WP.iconst (n := 43) (z := (2 : Int32)) dFF_42 rfl rfl ?_
    refine WP.iloadN (n := 44) dFF_43 rfl rfl ?_
    refine WP.icmpY (n := 56) dFF_44 (by decide) (by decide) (by decide) ?_
    refine WP.iloadN (n := 57) dFF_56 rfl rfl ?_
    refine WP.iconst (n := 58) (z := (3 : Int32)) dFF_57 rfl rfl ?_
    refine WP.icmpN (n' := 61) dFF_58 (by decide) rfl ?_
    refine WP.iconst (n := 62) (z := (3 : Int32)) dFF_61 rfl rfl ?_
    refine WP.iloadN (n := 63) dFF_62 rfl rfl ?_
    refine WP.icmpY (n := 75) dFF_63 (by decide) (by decide) (by decide) ?_
    refine WP.iconst (n := 76) (z := (-1 : Int32)) dFF_75 rfl rfl ?_
    exact WP.retI dFF_76 rfl (by decide) (by decide) ⟨rfl, rfl⟩
  · refine WP.iloadN (n := 1) dFF_0 rfl rfl ?_
    refine WP.ifcY (n := 18) dFF_1 (by decide) (by decide) (by decide) ?_
    refine WP.iloadN (n := 19) dFF_18 rfl rfl ?_
    refine WP.iconst (n := 20) (z := (1 : Int32)) dFF_19 rfl rfl ?_
    refine WP.icmpN (n' := 23) dFF_20 (by decide) rfl ?_
    refine WP.iconst (n := 24) (z := (1 : Int32)) dFF_23 rfl rfl ?_
    refine WP.iloadN (n := 25) dFF_24 rfl rfl ?_
    refine WP.icmpN (n' := 28) dFF_25 (by decide) rfl ?_
    refine WP.aloadN (n := 29) dFF_28 rfl rfl rfl ?_
    refine WP.iconst (n := 30) (z := (1 : Int32)) dFF_29 rfl rfl ?_
    refine WP.caload (n := 31) (v := .int c1) dFF_30 B ⟨by decide, by decide⟩ rfl rfl ?_
    refine WP.iloadN (n := 32) dFF_31 rfl rfl ?_
    refine WP.icmp_ne (n := 37) (n' := 35) dFF_32 (by decide) (by decide) rfl (fun b101 => ?_) (fun b101 => ?_)
    · refine WP.iloadN (n := 38) dFF_37 rfl rfl ?_
      refine WP.iconst (n := 39) (z := (2 : Int32)) dFF_38 rfl rfl ?_
      refine WP.icmpN (n' := 42) dFF_39 (by decide) rfl ?_
      refine WP.iconst (n := 43) (z := (2 : Int32)) dFF_42 rfl rfl ?_
      refine WP.iloadN (n := 44) dFF_43 rfl rfl ?_
      refine WP.icmpY (n := 56) dFF_44 (by decide) (by decide) (by decide) ?_
      refine WP.iloadN (n := 57) dFF_56 rfl rfl ?_
      refine WP.iconst (n := 58) (z := (3 : Int32)) dFF_57 rfl rfl ?_
      refine WP.icmpN (n' := 61) dFF_58 (by decide) rfl ?_
      refine WP.iconst (n := 62) (z := (3 : Int32)) dFF_61 rfl rfl ?_
      refine WP.iloadN (n := 63) dFF_62 rfl rfl ?_
      refine WP.icmpY (n := 75) dFF_63 (by decide) (by decide) (by decide) ?_
      refine WP.iconst (n := 76) (z := (-1 : Int32)) dFF_75 rfl rfl ?_
      exact WP.retI dFF_76 rfl (by decide) (by decide) ⟨by show some (Value.int (-1 : Int32)) = some (Value.int (if c1 = ch then Int32.ofNat 1 else (-1))); rw [if_neg b101] <;> rfl, rfl⟩
    · refine WP.iconst (n := 36) (z := (1 : Int32)) dFF_35 rfl rfl ?_
      exact WP.retI dFF_36 rfl (by decide) (by decide) ⟨by show some (Value.int (1 : Int32)) = some (Value.int (if c1 = ch then Int32.ofNat 1 else (-1))); rw [if_pos b101] <;> rfl, rfl⟩
  · refine WP.iloadN (n := 1) dFF_0 rfl rfl ?_
    refine WP.ifcY (n := 18) dFF_1 (by decide) (by decide) (by decide) ?_
    refine WP.iloadN (n := 19) dFF_18 rfl rfl ?_
    refine WP.iconst (n := 20) (z := (1 : Int32)) dFF_19 rfl rfl ?_
    refine WP.icmpY (n := 37) dFF_20 (by decide) (by decide) (by decide) ?_
    refine WP.iloadN (n := 38) dFF_37 rfl rfl ?_
    refine WP.iconst (n := 39) (z := (2 : Int32)) dFF_38 rfl rfl ?_
    refine WP.icmpN (n' := 42) dFF_39 (by decide) rfl ?_
    refine WP.iconst (n := 43) (z := (2 : Int32)) dFF_42 rfl rfl ?_
    refine WP.iloadN (n := 44) dFF_43 rfl rfl ?_
    refine WP.icmpY (n := 56) dFF_44 (by decide) (by decide) (by decide) ?_
    refine WP.iloadN (n := 57) dFF_56 rfl rfl ?_
    refine WP.iconst (n := 58) (z := (3 : Int32)) dFF_57 rfl rfl ?_
    refine WP.icmpN (n' := 61) dFF_58 (by decide) rfl ?_
    refine WP.iconst (n := 62) (z := (3 : Int32)) dFF_61 rfl rfl ?_
    refine WP.iloadN (n := 63) dFF_62 rfl rfl ?_
    refine WP.icmpY (n := 75) dFF_63 (by decide) (by decide) (by decide) ?_
    refine WP.iconst (n := 76) (z := (-1 : Int32)) dFF_75 rfl rfl ?_
    exact WP.retI dFF_76 rfl (by decide) (by decide) ⟨rfl, rfl⟩
  · refine WP.iloadN (n := 1) dFF_0 rfl rfl ?_
    refine WP.ifcY (n := 18) dFF_1 (by decide) (by decide) (by decide) ?_
    refine WP.iloadN (n := 19) dFF_18 rfl rfl ?_
    refine WP.iconst (n := 20) (z := (1 : Int32)) dFF_19 rfl rfl ?_
    refine WP.icmpN (n' := 23) dFF_20 (by decide) rfl ?_
    refine WP.iconst (n := 24) (z := (1 : Int32)) dFF_23 rfl rfl ?_
    refine WP.iloadN (n := 25) dFF_24 rfl rfl ?_
    refine WP.icmpN (n' := 28) dFF_25 (by decide) rfl ?_
    refine WP.aloadN (n := 29) dFF_28 rfl rfl rfl ?_
    refine WP.iconst (n := 30) (z := (1 : Int32)) dFF_29 rfl rfl ?_
    refine WP.caload (n := 31) (v := .int c1) dFF_30 B ⟨by decide, by decide⟩ rfl rfl ?_
    refine WP.iloadN (n := 32) dFF_31 rfl rfl ?_
    refine WP.icmp_ne (n := 37) (n' := 35) dFF_32 (by decide) (by decide) rfl (fun b102 => ?_) (fun b102 => ?_)
    · refine WP.iloadN (n := 38) dFF_37 rfl rfl ?_
      refine WP.iconst (n := 39) (z := (2 : Int32)) dFF_38 rfl rfl ?_
      refine WP.icmpN (n' := 42) dFF_39 (by decide) rfl ?_
      refine WP.iconst (n := 43) (z := (2 : Int32)) dFF_42 rfl rfl ?_
      refine WP.iloadN (n := 44) dFF_43 rfl rfl ?_
      refine WP.icmpN (n' := 47) dFF_44 (by decide) rfl ?_
      refine WP.aloadN (n := 48) dFF_47 rfl rfl rfl ?_
      refine WP.iconst (n := 49) (z := (2 : Int32)) dFF_48 rfl rfl ?_
      refine WP.caload (n := 50) (v := .int c2) dFF_49 B ⟨by decide, by decide⟩ rfl rfl ?_
      refine WP.iloadN (n := 51) dFF_50 rfl rfl ?_
      refine WP.icmp_ne (n := 56) (n' := 54) dFF_51 (by decide) (by decide) rfl (fun b103 => ?_) (fun b103 => ?_)
      · refine WP.iloadN (n := 57) dFF_56 rfl rfl ?_
        refine WP.iconst (n := 58) (z := (3 : Int32)) dFF_57 rfl rfl ?_
        refine WP.icmpN (n' := 61) dFF_58 (by decide) rfl ?_
        refine WP.iconst (n := 62) (z := (3 : Int32)) dFF_61 rfl rfl ?_
        refine WP.iloadN (n := 63) dFF_62 rfl rfl ?_
        refine WP.icmpY (n := 75) dFF_63 (by decide) (by decide) (by decide) ?_
        refine WP.iconst (n := 76) (z := (-1 : Int32)) dFF_75 rfl rfl ?_
        exact WP.retI dFF_76 rfl (by decide) (by decide) ⟨by show some (Value.int (-1 : Int32)) = some (Value.int (if c1 = ch then Int32.ofNat 1 else (if c2 = ch then Int32.ofNat 2 else (-1)))); rw [if_neg b102, if_neg b103] <;> rfl, rfl⟩
      · refine WP.iconst (n := 55) (z := (2 : Int32)) dFF_54 rfl rfl ?_
        exact WP.retI dFF_55 rfl (by decide) (by decide) ⟨by show some (Value.int (2 : Int32)) = some (Value.int (if c1 = ch then Int32.ofNat 1 else (if c2 = ch then Int32.ofNat 2 else (-1)))); rw [if_neg b102, if_pos b103] <;> rfl, rfl⟩
    · refine WP.iconst (n := 36) (z := (1 : Int32)) dFF_35 rfl rfl ?_
      exact WP.retI dFF_36 rfl (by decide) (by decide) ⟨by show some (Value.int (1 : Int32)) = some (Value.int (if c1 = ch then Int32.ofNat 1 else (if c2 = ch then Int32.ofNat 2 else (-1)))); rw [if_pos b102] <;> rfl, rfl⟩
  · refine WP.iloadN (n := 1) dFF_0 rfl rfl ?_
    refine WP.ifcY (n := 18) dFF_1 (by decide) (by decide) (by decide) ?_
    refine WP.iloadN (n := 19) dFF_18 rfl rfl ?_
    refine WP.iconst (n := 20) (z := (1 : Int32)) dFF_19 rfl rfl ?_
    refine WP.icmpY (n := 37) dFF_20 (by decide) (by decide) (by decide) ?_
    refine WP.iloadN (n := 38) dFF_37 rfl rfl ?_
    refine WP.iconst (n := 39) (z := (2 : Int32)) dFF_38 rfl rfl ?_
    refine WP.icmpN (n' := 42) dFF_39 (by decide) rfl ?_
    refine WP.iconst (n := 43) (z := (2 : Int32)) dFF_42 rfl rfl ?_
    refine WP.iloadN (n := 44) dFF_43 rfl rfl ?_
    refine WP.icmpN (n' := 47) dFF_44 (by decide) rfl ?_
    refine WP.aloadN (n := 48) dFF_47 rfl rfl rfl ?_
    refine WP.iconst (n := 49) (z := (2 : Int32)) dFF_48 rfl rfl ?_
    refine WP.caload (n := 50) (v := .int c2) dFF_49 B ⟨by decide, by decide⟩ rfl rfl ?_
    refine WP.iloadN (n := 51) dFF_50 rfl rfl ?_
    refine WP.icmp_ne (n := 56) (n' := 54) dFF_51 (by decide) (by decide) rfl (fun b104 => ?_) (fun b104 => ?_)
    · refine WP.iloadN (n := 57) dFF_56 rfl rfl ?_
      refine WP.iconst (n := 58) (z := (3 : Int32)) dFF_57 rfl rfl ?_
      refine WP.icmpN (n' := 61) dFF_58 (by decide) rfl ?_
      refine WP.iconst (n := 62) (z := (3 : Int32)) dFF_61 rfl rfl ?_
      refine WP.iloadN (n := 63) dFF_62 rfl rfl ?_
      refine WP.icmpY (n := 75) dFF_63 (by decide) (by decide) (by decide) ?_
      refine WP.iconst (n := 76) (z := (-1 : Int32)) dFF_75 rfl rfl ?_
      exact WP.retI dFF_76 rfl (by decide) (by decide) ⟨by show some (Value.int (-1 : Int32)) = some (Value.int (if c2 = ch then Int32.ofNat 2 else (-1))); rw [if_neg b104] <;> rfl, rfl⟩
    · refine WP.iconst (n := 55) (z := (2 : Int32)) dFF_54 rfl rfl ?_
      exact WP.retI dFF_55 rfl (by decide) (by decide) ⟨by show some (Value.int (2 : Int32)) = some (Value.int (if c2 = ch then Int32.ofNat 2 else (-1))); rw [if_pos b104] <;> rfl, rfl⟩
  · refine WP.iloadN (n := 1) dFF_0 rfl rfl ?_
    refine WP.ifcY (n := 18) dFF_1 (by decide) (by decide) (by decide) ?_
    refine WP.iloadN (n := 19) dFF_18 rfl rfl ?_
    refine WP.iconst (n := 20) (z := (1 : Int32)) dFF_19 rfl rfl ?_
    refine WP.icmpY (n := 37) dFF_20 (by decide) (by decide) (by decide) ?_
    refine WP.iloadN (n := 38) dFF_37 rfl rfl ?_
    refine WP.iconst (n := 39) (z := (2 : Int32)) dFF_38 rfl rfl ?_
    refine WP.icmpY (n := 56) dFF_39 (by decide) (by decide) (by decide) ?_
    refine WP.iloadN (n := 57) dFF_56 rfl rfl ?_
    refine WP.iconst (n := 58) (z := (3 : Int32)) dFF_57 rfl rfl ?_
    refine WP.icmpN (n' := 61) dFF_58 (by decide) rfl ?_
    refine WP.iconst (n := 62) (z := (3 : Int32)) dFF_61 rfl rfl ?_
    refine WP.iloadN (n := 63) dFF_62 rfl rfl ?_
    refine WP.icmpY (n := 75) dFF_63 (by decide) (by decide) (by decide) ?_
    refine WP.iconst (n := 76) (z := (-1 : Int32)) dFF_75 rfl rfl ?_
    exact WP.retI dFF_76 rfl (by decide) (by decide) ⟨rfl, rfl⟩
  · refine WP.iloadN (n := 1) dFF_0 rfl rfl ?_
    refine WP.ifcY (n := 18) dFF_1 (by decide) (by decide) (by decide) ?_
    refine WP.iloadN (n := 19) dFF_18 rfl rfl ?_
    refine WP.iconst (n := 20) (z := (1 : Int32)) dFF_19 rfl rfl ?_
    refine WP.icmpN (n' := 23) dFF_20 (by decide) rfl ?_
    refine WP.iconst (n := 24) (z := (1 : Int32)) dFF_23 rfl rfl ?_
    refine WP.iloadN (n := 25) dFF_24 rfl rfl ?_
    refine WP.icmpN (n' := 28) dFF_25 (by decide) rfl ?_
    refine WP.aloadN (n := 29) dFF_28 rfl rfl rfl ?_
    refine WP.iconst (n := 30) (z := (1 : Int32)) dFF_29 rfl rfl ?_
    refine WP.caload (n := 31) (v := .int c1) dFF_30 B ⟨by decide, by decide⟩ rfl rfl ?_
    refine WP.iloadN (n := 32) dFF_31 rfl rfl ?_
    refine WP.icmp_ne (n := 37) (n' := 35) dFF_32 (by decide) (by decide) rfl (fun b105 => ?_) (fun b105 => ?_)
    · refine WP.iloadN (n := 38) dFF_37 rfl rfl ?_
      refine WP.iconst (n := 39) (z := (2 : Int32)) dFF_38 rfl rfl ?_
      refine WP.icmpN (n' := 42) dFF_39 (by decide) rfl ?_
      refine WP.iconst (n := 43) (z := (2 : Int32)) dFF_42 rfl rfl ?_
      refine WP.iloadN (n := 44) dFF_43 rfl rfl ?_
      refine WP.icmpN (n' := 47) dFF_44 (by decide) rfl ?_
      refine WP.aloadN (n := 48) dFF_47 rfl rfl rfl ?_
      refine WP.iconst (n := 49) (z := (2 : Int32)) dFF_48 rfl rfl ?_
      refine WP.caload (n := 50) (v := .int c2) dFF_49 B ⟨by decide, by decide⟩ rfl rfl ?_
      refine WP.iloadN (n := 51) dFF_50 rfl rfl ?_
      refine WP.icmp_ne (n := 56) (n' := 54) dFF_51 (by decide) (by decide) rfl (fun b106 => ?_) (fun b106 => ?_)
      · refine WP.iloadN (n := 57) dFF_56 rfl rfl ?_
        refine WP.iconst (n := 58) (z := (3 : Int32)) dFF_57 rfl rfl ?_
        refine WP.icmpN (n' := 61) dFF_58 (by decide) rfl ?_
        refine WP.iconst (n := 62) (z := (3 : Int32)) dFF_61 rfl rfl ?_
        refine WP.iloadN (n := 63) dFF_62 rfl rfl ?_
        refine WP.icmpN (n' := 66) dFF_63 (by decide) rfl ?_
        refine WP.aloadN (n := 67) dFF_66 rfl rfl rfl ?_
        refine WP.iconst (n := 68) (z := (3 : Int32)) dFF_67 rfl rfl ?_
        refine WP.caload (n := 69) (v := .int c3) dFF_68 B ⟨by decide, by decide⟩ rfl rfl ?_
        refine WP.iloadN (n := 70) dFF_69 rfl rfl ?_
        refine WP.icmp_ne (n := 75) (n' := 73) dFF_70 (by decide) (by decide) rfl (fun b107 => ?_) (fun b107 => ?_)
        · refine WP.iconst (n := 76) (z := (-1 : Int32)) dFF_75 rfl rfl ?_
          exact WP.retI dFF_76 rfl (by decide) (by decide) ⟨by show some (Value.int (-1 : Int32)) = some (Value.int (if c1 = ch then Int32.ofNat 1 else (if c2 = ch then Int32.ofNat 2 else (if c3 = ch then Int32.ofNat 3 else (-1))))); rw [if_neg b105, if_neg b106, if_neg b107] <;> rfl, rfl⟩
        · refine WP.iconst (n := 74) (z := (3 : Int32)) dFF_73 rfl rfl ?_
          exact WP.retI dFF_74 rfl (by decide) (by decide) ⟨by show some (Value.int (3 : Int32)) = some (Value.int (if c1 = ch then Int32.ofNat 1 else (if c2 = ch then Int32.ofNat 2 else (if c3 = ch then Int32.ofNat 3 else (-1))))); rw [if_neg b105, if_neg b106, if_pos b107] <;> rfl, rfl⟩
      · refine WP.iconst (n := 55) (z := (2 : Int32)) dFF_54 rfl rfl ?_
        exact WP.retI dFF_55 rfl (by decide) (by decide) ⟨by show some (Value.int (2 : Int32)) = some (Value.int (if c1 = ch then Int32.ofNat 1 else (if c2 = ch then Int32.ofNat 2 else (if c3 = ch then Int32.ofNat 3 else (-1))))); rw [if_neg b105, if_pos b106] <;> rfl, rfl⟩
    · refine WP.iconst (n := 36) (z := (1 : Int32)) dFF_35 rfl rfl ?_
      exact WP.retI dFF_36 rfl (by decide) (by decide) ⟨by show some (Value.int (1 : Int32)) = some (Value.int (if c1 = ch then Int32.ofNat 1 else (if c2 = ch then Int32.ofNat 2 else (if c3 = ch then Int32.ofNat 3 else (-1))))); rw [if_pos b105] <;> rfl, rfl⟩
  · refine WP.iloadN (n := 1) dFF_0 rfl rfl ?_
    refine WP.ifcY (n := 18) dFF_1 (by decide) (by decide) (by decide) ?_
    refine WP.iloadN (n := 19) dFF_18 rfl rfl ?_
    refine WP.iconst (n := 20) (z := (1 : Int32)) dFF_19 rfl rfl ?_
    refine WP.icmpY (n := 37) dFF_20 (by decide) (by decide) (by decide) ?_
    refine WP.iloadN (n := 38) dFF_37 rfl rfl ?_
    refine WP.iconst (n := 39) (z := (2 : Int32)) dFF_38 rfl rfl ?_
    refine WP.icmpN (n' := 42) dFF_39 (by decide) rfl ?_
    refine WP.iconst (n := 43) (z := (2 : Int32)) dFF_42 rfl rfl ?_
    refine WP.iloadN (n := 44) dFF_43 rfl rfl ?_
    refine WP.icmpN (n' := 47) dFF_44 (by decide) rfl ?_
    refine WP.aloadN (n := 48) dFF_47 rfl rfl rfl ?_
    refine WP.iconst (n := 49) (z := (2 : Int32)) dFF_48 rfl rfl ?_
    refine WP.caload (n := 50) (v := .int c2) dFF_49 B ⟨by decide, by decide⟩ rfl rfl ?_
    refine WP.iloadN (n := 51) dFF_50 rfl rfl ?_
    refine WP.icmp_ne (n := 56) (n' := 54) dFF_51 (by decide) (by decide) rfl (fun b108 => ?_) (fun b108 => ?_)
    · refine WP.iloadN (n := 57) dFF_56 rfl rfl ?_
      refine WP.iconst (n := 58) (z := (3 : Int32)) dFF_57 rfl rfl ?_
      refine WP.icmpN (n' := 61) dFF_58 (by decide) rfl ?_
      refine WP.iconst (n := 62) (z := (3 : Int32)) dFF_61 rfl rfl ?_
      refine WP.iloadN (n := 63) dFF_62 rfl rfl ?_
      refine WP.icmpN (n' := 66) dFF_63 (by decide) rfl ?_
      refine WP.aloadN (n := 67) dFF_66 rfl rfl rfl ?_
      refine WP.iconst (n := 68) (z := (3 : Int32)) dFF_67 rfl rfl ?_
      refine WP.caload (n := 69) (v := .int c3) dFF_68 B ⟨by decide, by decide⟩ rfl rfl ?_
      refine WP.iloadN (n := 70) dFF_69 rfl rfl ?_
      refine WP.icmp_ne (n := 75) (n' := 73) dFF_70 (by decide) (by decide) rfl (fun b109 => ?_) (fun b109 => ?_)
      · refine WP.iconst (n := 76) (z := (-1 : Int32)) dFF_75 rfl rfl ?_
        exact WP.retI dFF_76 rfl (by decide) (by decide) ⟨by show some (Value.int (-1 : Int32)) = some (Value.int (if c2 = ch then Int32.ofNat 2 else (if c3 = ch then Int32.ofNat 3 else (-1)))); rw [if_neg b108, if_neg b109] <;> rfl, rfl⟩
      · refine WP.iconst (n := 74) (z := (3 : Int32)) dFF_73 rfl rfl ?_
        exact WP.retI dFF_74 rfl (by decide) (by decide) ⟨by show some (Value.int (3 : Int32)) = some (Value.int (if c2 = ch then Int32.ofNat 2 else (if c3 = ch then Int32.ofNat 3 else (-1)))); rw [if_neg b108, if_pos b109] <;> rfl, rfl⟩
    · refine WP.iconst (n := 55) (z := (2 : Int32)) dFF_54 rfl rfl ?_
      exact WP.retI dFF_55 rfl (by decide) (by decide) ⟨by show some (Value.int (2 : Int32)) = some (Value.int (if c2 = ch then Int32.ofNat 2 else (if c3 = ch then Int32.ofNat 3 else (-1)))); rw [if_pos b108] <;> rfl, rfl⟩
  · refine WP.iloadN (n := 1) dFF_0 rfl rfl ?_
    refine WP.ifcY (n := 18) dFF_1 (by decide) (by decide) (by decide) ?_
    refine WP.iloadN (n := 19) dFF_18 rfl rfl ?_
    refine WP.iconst (n := 20) (z := (1 : Int32)) dFF_19 rfl rfl ?_
    refine WP.icmpY (n := 37) dFF_20 (by decide) (by decide) (by decide) ?_
    refine WP.iloadN (n := 38) dFF_37 rfl rfl ?_
    refine WP.iconst (n := 39) (z := (2 : Int32)) dFF_38 rfl rfl ?_
    refine WP.icmpY (n := 56) dFF_39 (by decide) (by decide) (by decide) ?_
    refine WP.iloadN (n := 57) dFF_56 rfl rfl ?_
    refine WP.iconst (n := 58) (z := (3 : Int32)) dFF_57 rfl rfl ?_
    refine WP.icmpN (n' := 61) dFF_58 (by decide) rfl ?_
    refine WP.iconst (n := 62) (z := (3 : Int32)) dFF_61 rfl rfl ?_
    refine WP.iloadN (n := 63) dFF_62 rfl rfl ?_
    refine WP.icmpN (n' := 66) dFF_63 (by decide) rfl ?_
    refine WP.aloadN (n := 67) dFF_66 rfl rfl rfl ?_
    refine WP.iconst (n := 68) (z := (3 : Int32)) dFF_67 rfl rfl ?_
    refine WP.caload (n := 69) (v := .int c3) dFF_68 B ⟨by decide, by decide⟩ rfl rfl ?_
    refine WP.iloadN (n := 70) dFF_69 rfl rfl ?_
    refine WP.icmp_ne (n := 75) (n' := 73) dFF_70 (by decide) (by decide) rfl (fun b110 => ?_) (fun b110 => ?_)
    · refine WP.iconst (n := 76) (z := (-1 : Int32)) dFF_75 rfl rfl ?_
      exact WP.retI dFF_76 rfl (by decide) (by decide) ⟨by show some (Value.int (-1 : Int32)) = some (Value.int (if c3 = ch then Int32.ofNat 3 else (-1))); rw [if_neg b110] <;> rfl, rfl⟩
    · refine WP.iconst (n := 74) (z := (3 : Int32)) dFF_73 rfl rfl ?_
      exact WP.retI dFF_74 rfl (by decide) (by decide) ⟨by show some (Value.int (3 : Int32)) = some (Value.int (if c3 = ch then Int32.ofNat 3 else (-1))); rw [if_pos b110] <;> rfl, rfl⟩
  · refine WP.iloadN (n := 1) dFF_0 rfl rfl ?_
    refine WP.ifcY (n := 18) dFF_1 (by decide) (by decide) (by decide) ?_
    refine WP.iloadN (n := 19) dFF_18 rfl rfl ?_
    refine WP.iconst (n := 20) (z := (1 : Int32)) dFF_19 rfl rfl ?_
    refine WP.icmpY (n := 37) dFF_20 (by decide) (by decide) (by decide) ?_
    refine WP.iloadN (n := 38) dFF_37 rfl rfl ?_
    refine WP.iconst (n := 39) (z := (2 : Int32)) dFF_38 rfl rfl ?_
    refine WP.icmpY (n := 56) dFF_39 (by decide) (by decide) (by decide) ?_
    refine WP.iloadN (n := 57) dFF_56 rfl rfl ?_
    refine WP.iconst (n := 58) (z := (3 : Int32)) dFF_57 rfl rfl ?_
    refine WP.icmpY (n := 75) dFF_58 (by decide) (by decide) (by decide) ?_
    refine WP.iconst (n := 76) (z := (-1 : Int32)) dFF_75 rfl rfl ?_
    exact WP.retI dFF_76 rfl (by decide) (by decide) ⟨rfl, rfl⟩
theorem dCN_0 : decode method_5_code 0 = .ok (.iconst 0, 1) := by decide +kernel
theorem dCN_1 : decode method_5_code 1 = .ok (.istore_n 3, 1) := by decide +kernel
theorem dCN_2 : decode method_5_code 2 = .ok (.iload_n 1, 1) := by decide +kernel
theorem dCN_3 : decode method_5_code 3 = .ok (.ifCond .gt 19, 3) := by decide +kernel
theorem dCN_6 : decode method_5_code 6 = .ok (.iconst 0, 1) := by decide +kernel
theorem dCN_7 : decode method_5_code 7 = .ok (.iload_n 2, 1) := by decide +kernel
theorem dCN_8 : decode method_5_code 8 = .ok (.if_icmp .ge 14, 3) := by decide +kernel
theorem dCN_11 : decode method_5_code 11 = .ok (.aload_n 0, 1) := by decide +kernel
theorem dCN_12 : decode method_5_code 12 = .ok (.iconst 0, 1) := by decide +kernel
theorem dCN_13 : decode method_5_code 13 = .ok (.caload, 1) := by decide +kernel
theorem dCN_14 : decode method_5_code 14 = .ok (.bipush 10, 2) := by decide +kernel
theorem dCN_16 : decode method_5_code 16 = .ok (.if_icmp .ne 6, 3) := by decide +kernel
theorem dCN_19 : decode method_5_code 19 = .ok (.iinc 3 1, 3) := by decide +kernel
theorem dCN_22 : decode method_5_code 22 = .ok (.iload_n 1, 1) := by decide +kernel
theorem dCN_23 : decode method_5_code 23 = .ok (.iconst 1, 1) := by decide +kernel
theorem dCN_24 : decode method_5_code 24 = .ok (.if_icmp .gt 19, 3) := by decide +kernel
theorem dCN_27 : decode method_5_code 27 = .ok (.iconst 1, 1) := by decide +kernel
theorem dCN_28 : decode method_5_code 28 = .ok (.iload_n 2, 1) := by decide +kernel
theorem dCN_29 : decode method_5_code 29 = .ok (.if_icmp .ge 14, 3) := by decide +kernel
theorem dCN_32 : decode method_5_code 32 = .ok (.aload_n 0, 1) := by decide +kernel
theorem dCN_33 : decode method_5_code 33 = .ok (.iconst 1, 1) := by decide +kernel
theorem dCN_34 : decode method_5_code 34 = .ok (.caload, 1) := by decide +kernel
theorem dCN_35 : decode method_5_code 35 = .ok (.bipush 10, 2) := by decide +kernel
theorem dCN_37 : decode method_5_code 37 = .ok (.if_icmp .ne 6, 3) := by decide +kernel
theorem dCN_40 : decode method_5_code 40 = .ok (.iinc 3 1, 3) := by decide +kernel
theorem dCN_43 : decode method_5_code 43 = .ok (.iload_n 1, 1) := by decide +kernel
theorem dCN_44 : decode method_5_code 44 = .ok (.iconst 2, 1) := by decide +kernel
theorem dCN_45 : decode method_5_code 45 = .ok (.if_icmp .gt 19, 3) := by decide +kernel
theorem dCN_48 : decode method_5_code 48 = .ok (.iconst 2, 1) := by decide +kernel
theorem dCN_49 : decode method_5_code 49 = .ok (.iload_n 2, 1) := by decide +kernel
theorem dCN_50 : decode method_5_code 50 = .ok (.if_icmp .ge 14, 3) := by decide +kernel
theorem dCN_53 : decode method_5_code 53 = .ok (.aload_n 0, 1) := by decide +kernel
theorem dCN_54 : decode method_5_code 54 = .ok (.iconst 2, 1) := by decide +kernel
theorem dCN_55 : decode method_5_code 55 = .ok (.caload, 1) := by decide +kernel
theorem dCN_56 : decode method_5_code 56 = .ok (.bipush 10, 2) := by decide +kernel
theorem dCN_58 : decode method_5_code 58 = .ok (.if_icmp .ne 6, 3) := by decide +kernel
theorem dCN_61 : decode method_5_code 61 = .ok (.iinc 3 1, 3) := by decide +kernel
theorem dCN_64 : decode method_5_code 64 = .ok (.iload_n 1, 1) := by decide +kernel
theorem dCN_65 : decode method_5_code 65 = .ok (.iconst 3, 1) := by decide +kernel
theorem dCN_66 : decode method_5_code 66 = .ok (.if_icmp .gt 19, 3) := by decide +kernel
theorem dCN_69 : decode method_5_code 69 = .ok (.iconst 3, 1) := by decide +kernel
theorem dCN_70 : decode method_5_code 70 = .ok (.iload_n 2, 1) := by decide +kernel
theorem dCN_71 : decode method_5_code 71 = .ok (.if_icmp .ge 14, 3) := by decide +kernel
theorem dCN_74 : decode method_5_code 74 = .ok (.aload_n 0, 1) := by decide +kernel
theorem dCN_75 : decode method_5_code 75 = .ok (.iconst 3, 1) := by decide +kernel
theorem dCN_76 : decode method_5_code 76 = .ok (.caload, 1) := by decide +kernel
theorem dCN_77 : decode method_5_code 77 = .ok (.bipush 10, 2) := by decide +kernel
theorem dCN_79 : decode method_5_code 79 = .ok (.if_icmp .ne 6, 3) := by decide +kernel
theorem dCN_82 : decode method_5_code 82 = .ok (.iinc 3 1, 3) := by decide +kernel
theorem dCN_85 : decode method_5_code 85 = .ok (.iload_n 3, 1) := by decide +kernel
theorem dCN_86 : decode method_5_code 86 = .ok (.ireturn, 1) := by decide +kernel
set_option maxRecDepth 65536 in
set_option maxHeartbeats 40000000 in
theorem own_cn (l : Launch) (Z : State) (a0 : Array Value) (hw : ∀ d ∈ tables_1, d.before a0 Z = true) (EL : List (String × Nat)) (hEL : EW Z a0 EL) (h0 : Heap) (c : Addr) (kc : ClassId) (c0 c1 c2 c3 : Int32) (B : Arv Z h0 c kc .char 4 ([c0, c1, c2, c3].map Value.int) (.int 0)) (p e : Nat) (hpe : p < e) (he : e ≤ 4) :
    Con l Z EL false [] (⟨"com/example/fionn/fionn/io/SgmlScannerNextPinLaw", "countNl", "([CII)I"⟩ : MethodName) method_5_code 4 (some .int) ({ frames := 0, cells := 0, slots := 0, locals := 0 } : Room) #[(.ref c), (.int (Int32.ofNat p)), (.int (Int32.ofNat e))] h0 (fun v h' => v = some (.int (own_cnt [c0, c1, c2, c3] (e - p) p)) ∧ h0 = h') := by
  refine Con.of (Ls := #[.val (.ref c), .val (.int (Int32.ofNat p)), .val (.int (Int32.ofNat e)), .unset]) (plainFor_of_name own_pn6) hEL (fun m => by first | (simp [entryFrame, mkF, argsToLocals, Value.category]; done) | rfl) ?_
  intro vm0 hZ0 hE0 hC0 hS0
  have hc5 : (p = 0 ∧ e = 1) ∨ (p = 0 ∧ e = 2) ∨ (p = 1 ∧ e = 2) ∨ (p = 0 ∧ e = 3) ∨ (p = 1 ∧ e = 3) ∨ (p = 2 ∧ e = 3) ∨ (p = 0 ∧ e = 4) ∨ (p = 1 ∧ e = 4) ∨ (p = 2 ∧ e = 4) ∨ (p = 3 ∧ e = 4) := by omega
  rcases hc5 with ⟨rfl, rfl⟩ | ⟨rfl, rfl⟩ | ⟨rfl, rfl⟩ | ⟨rfl, rfl⟩ | ⟨rfl, rfl⟩ | ⟨rfl, rfl⟩ | ⟨rfl, rfl⟩ | ⟨rfl, rfl⟩ | ⟨rfl, rfl⟩ | ⟨rfl, rfl⟩
  · refine WP.iconst (n := 1) (z := (0 : Int32)) dCN_0 rfl rfl ?_
    refine WP.istoreN (n := 2) (Ls' := #[.val (.ref c), .val (.int (0 : Int32)), .val (.int (1 : Int32)), .val (.int (0 : Int32))]) dCN_1 rfl rfl ?_
    refine WP.iloadN (n := 3) dCN_2 rfl rfl ?_
    refine WP.ifcN (n' := 6) dCN_3 (by decide) rfl ?_
    refine WP.iconst (n := 7) (z := (0 : Int32)) dCN_6 rfl rfl ?_
    refine WP.iloadN (n := 8) dCN_7 rfl rfl ?_
    refine WP.icmpN (n' := 11) dCN_8 (by decide) rfl ?_
    refine WP.aloadN (n := 12) dCN_11 rfl rfl rfl ?_
    refine WP.iconst (n := 13) (z := (0 : Int32)) dCN_12 rfl rfl ?_
    refine WP.caload (n := 14) (v := .int c0) dCN_13 B ⟨by decide, by decide⟩ rfl rfl ?_
    refine WP.bipush (n := 16) (z := (10 : Int32)) dCN_14 (by decide) rfl ?_
    refine WP.icmp_ne (n := 22) (n' := 19) dCN_16 (by decide) (by decide) rfl (fun b111 => ?_) (fun b111 => ?_)
    · refine WP.iloadN (n := 23) dCN_22 rfl rfl ?_
      refine WP.iconst (n := 24) (z := (1 : Int32)) dCN_23 rfl rfl ?_
      refine WP.icmpN (n' := 27) dCN_24 (by decide) rfl ?_
      refine WP.iconst (n := 28) (z := (1 : Int32)) dCN_27 rfl rfl ?_
      refine WP.iloadN (n := 29) dCN_28 rfl rfl ?_
      refine WP.icmpY (n := 43) dCN_29 (by decide) (by decide) (by decide) ?_
      refine WP.iloadN (n := 44) dCN_43 rfl rfl ?_
      refine WP.iconst (n := 45) (z := (2 : Int32)) dCN_44 rfl rfl ?_
      refine WP.icmpN (n' := 48) dCN_45 (by decide) rfl ?_
      refine WP.iconst (n := 49) (z := (2 : Int32)) dCN_48 rfl rfl ?_
      refine WP.iloadN (n := 50) dCN_49 rfl rfl ?_
      refine WP.icmpY (n := 64) dCN_50 (by decide) (by decide) (by decide) ?_
      refine WP.iloadN (n := 65) dCN_64 rfl rfl ?_
      refine WP.iconst (n := 66) (z := (3 : Int32)) dCN_65 rfl rfl ?_
      refine WP.icmpN (n' := 69) dCN_66 (by decide) rfl ?_
      refine WP.iconst (n := 70) (z := (3 : Int32)) dCN_69 rfl rfl ?_
      refine WP.iloadN (n := 71) dCN_70 rfl rfl ?_
      refine WP.icmpY (n := 85) dCN_71 (by decide) (by decide) (by decide) ?_
      refine WP.iloadN (n := 86) dCN_85 rfl rfl ?_
      exact WP.retI dCN_86 rfl (by decide) (by decide) ⟨by show some (Value.int (0 : Int32)) = some (Value.int ((if c0 = 10 then 1 else 0) + 0)); rw [if_neg b111] <;> decide, rfl⟩
    · refine WP.iinc (n := 22) (z := (1 : Int32)) (Ls' := #[.val (.ref c), .val (.int (0 : Int32)), .val (.int (1 : Int32)), .val (.int (1 : Int32))]) dCN_19 rfl (by decide) rfl rfl ?_
      refine WP.iloadN (n := 23) dCN_22 rfl rfl ?_
      refine WP.iconst (n := 24) (z := (1 : Int32)) dCN_23 rfl rfl ?_
      refine WP.icmpN (n' := 27) dCN_24 (by decide) rfl ?_
      refine WP.iconst (n := 28) (z := (1 : Int32)) dCN_27 rfl rfl ?_
      refine WP.iloadN (n := 29) dCN_28 rfl rfl ?_
      refine WP.icmpY (n := 43) dCN_29 (by decide) (by decide) (by decide) ?_
      refine WP.iloadN (n := 44) dCN_43 rfl rfl ?_
      refine WP.iconst (n := 45) (z := (2 : Int32)) dCN_44 rfl rfl ?_
      refine WP.icmpN (n' := 48) dCN_45 (by decide) rfl ?_
      refine WP.iconst (n := 49) (z := (2 : Int32)) dCN_48 rfl rfl ?_
      refine WP.iloadN (n := 50) dCN_49 rfl rfl ?_
      refine WP.icmpY (n := 64) dCN_50 (by decide) (by decide) (by decide) ?_
      refine WP.iloadN (n := 65) dCN_64 rfl rfl ?_
      refine WP.iconst (n := 66) (z := (3 : Int32)) dCN_65 rfl rfl ?_
      refine WP.icmpN (n' := 69) dCN_66 (by decide) rfl ?_
      refine WP.iconst (n := 70) (z := (3 : Int32)) dCN_69 rfl rfl ?_
      refine WP.iloadN (n := 71) dCN_70 rfl rfl ?_
      refine WP.icmpY (n := 85) dCN_71 (by decide) (by decide) (by decide) ?_
      refine WP.iloadN (n := 86) dCN_85 rfl rfl ?_
      exact WP.retI dCN_86 rfl (by decide) (by decide) ⟨by show some (Value.int (1 : Int32)) = some (Value.int ((if c0 = 10 then 1 else 0) + 0)); rw [if_pos b111] <;> decide, rfl⟩
  · refine WP.iconst (n := 1) (z := (0 : Int32)) dCN_0 rfl rfl ?_
    refine WP.istoreN (n := 2) (Ls' := #[.val (.ref c), .val (.int (0 : Int32)), .val (.int (2 : Int32)), .val (.int (0 : Int32))]) dCN_1 rfl rfl ?_
    refine WP.iloadN (n := 3) dCN_2 rfl rfl ?_
    refine WP.ifcN (n' := 6) dCN_3 (by decide) rfl ?_
    refine WP.iconst (n := 7) (z := (0 : Int32)) dCN_6 rfl rfl ?_
    refine WP.iloadN (n := 8) dCN_7 rfl rfl ?_
    refine WP.icmpN (n' := 11) dCN_8 (by decide) rfl ?_
    refine WP.aloadN (n := 12) dCN_11 rfl rfl rfl ?_
    refine WP.iconst (n := 13) (z := (0 : Int32)) dCN_12 rfl rfl ?_
    refine WP.caload (n := 14) (v := .int c0) dCN_13 B ⟨by decide, by decide⟩ rfl rfl ?_
    refine WP.bipush (n := 16) (z := (10 : Int32)) dCN_14 (by decide) rfl ?_
    refine WP.icmp_ne (n := 22) (n' := 19) dCN_16 (by decide) (by decide) rfl (fun b112 => ?_) (fun b112 => ?_)
    · refine WP.iloadN (n := 23) dCN_22 rfl rfl ?_
      refine WP.iconst (n := 24) (z := (1 : Int32)) dCN_23 rfl rfl ?_
      refine WP.icmpN (n' := 27) dCN_24 (by decide) rfl ?_
      refine WP.iconst (n := 28) (z := (1 : Int32)) dCN_27 rfl rfl ?_
      refine WP.iloadN (n := 29) dCN_28 rfl rfl ?_
      refine WP.icmpN (n' := 32) dCN_29 (by decide) rfl ?_
      refine WP.aloadN (n := 33) dCN_32 rfl rfl rfl ?_
      refine WP.iconst (n := 34) (z := (1 : Int32)) dCN_33 rfl rfl ?_
      refine WP.caload (n := 35) (v := .int c1) dCN_34 B ⟨by decide, by decide⟩ rfl rfl ?_
      refine WP.bipush (n := 37) (z := (10 : Int32)) dCN_35 (by decide) rfl ?_
      refine WP.icmp_ne (n := 43) (n' := 40) dCN_37 (by decide) (by decide) rfl (fun b113 => ?_) (fun b113 => ?_)
      · refine WP.iloadN (n := 44) dCN_43 rfl rfl ?_
        refine WP.iconst (n := 45) (z := (2 : Int32)) dCN_44 rfl rfl ?_
        refine WP.icmpN (n' := 48) dCN_45 (by decide) rfl ?_
        refine WP.iconst (n := 49) (z := (2 : Int32)) dCN_48 rfl rfl ?_
        refine WP.iloadN (n := 50) dCN_49 rfl rfl ?_
        refine WP.icmpY (n := 64) dCN_50 (by decide) (by decide) (by decide) ?_
        refine WP.iloadN (n := 65) dCN_64 rfl rfl ?_
        refine WP.iconst (n := 66) (z := (3 : Int32)) dCN_65 rfl rfl ?_
        refine WP.icmpN (n' := 69) dCN_66 (by decide) rfl ?_
        refine WP.iconst (n := 70) (z := (3 : Int32)) dCN_69 rfl rfl ?_
        refine WP.iloadN (n := 71) dCN_70 rfl rfl ?_
        refine WP.icmpY (n := 85) dCN_71 (by decide) (by decide) (by decide) ?_
        refine WP.iloadN (n := 86) dCN_85 rfl rfl ?_
        exact WP.retI dCN_86 rfl (by decide) (by decide) ⟨by show some (Value.int (0 : Int32)) = some (Value.int ((if c0 = 10 then 1 else 0) + ((if c1 = 10 then 1 else 0) + 0))); rw [if_neg b112, if_neg b113] <;> decide, rfl⟩
      · refine WP.iinc (n := 43) (z := (1 : Int32)) (Ls' := #[.val (.ref c), .val (.int (0 : Int32)), .val (.int (2 : Int32)), .val (.int (1 : Int32))]) dCN_40 rfl (by decide) rfl rfl ?_
        refine WP.iloadN (n := 44) dCN_43 rfl rfl ?_
        refine WP.iconst (n := 45) (z := (2 : Int32)) dCN_44 rfl rfl ?_
        refine WP.icmpN (n' := 48) dCN_45 (by decide) rfl ?_
        refine WP.iconst (n := 49) (z := (2 : Int32)) dCN_48 rfl rfl ?_
        refine WP.iloadN (n := 50) dCN_49 rfl rfl ?_
        refine WP.icmpY (n := 64) dCN_50 (by decide) (by decide) (by decide) ?_
        refine WP.iloadN (n := 65) dCN_64 rfl rfl ?_
        refine WP.iconst (n := 66) (z := (3 : Int32)) dCN_65 rfl rfl ?_
        refine WP.icmpN (n' := 69) dCN_66 (by decide) rfl ?_
        refine WP.iconst (n := 70) (z := (3 : Int32)) dCN_69 rfl rfl ?_
        refine WP.iloadN (n := 71) dCN_70 rfl rfl ?_
        refine WP.icmpY (n := 85) dCN_71 (by decide) (by decide) (by decide) ?_
        refine WP.iloadN (n := 86) dCN_85 rfl rfl ?_
        exact WP.retI dCN_86 rfl (by decide) (by decide) ⟨by show some (Value.int (1 : Int32)) = some (Value.int ((if c0 = 10 then 1 else 0) + ((if c1 = 10 then 1 else 0) + 0))); rw [if_neg b112, if_pos b113] <;> decide, rfl⟩
    · refine WP.iinc (n := 22) (z := (1 : Int32)) (Ls' := #[.val (.ref c), .val (.int (0 : Int32)), .val (.int (2 : Int32)), .val (.int (1 : Int32))]) dCN_19 rfl (by decide) rfl rfl ?_
      refine WP.iloadN (n := 23) dCN_22 rfl rfl ?_
      refine WP.iconst (n := 24) (z := (1 : Int32)) dCN_23 rfl rfl ?_
      refine WP.icmpN (n' := 27) dCN_24 (by decide) rfl ?_
      refine WP.iconst (n := 28) (z := (1 : Int32)) dCN_27 rfl rfl ?_
      refine WP.iloadN (n := 29) dCN_28 rfl rfl ?_
      refine WP.icmpN (n' := 32) dCN_29 (by decide) rfl ?_
      refine WP.aloadN (n := 33) dCN_32 rfl rfl rfl ?_
      refine WP.iconst (n := 34) (z := (1 : Int32)) dCN_33 rfl rfl ?_
      refine WP.caload (n := 35) (v := .int c1) dCN_34 B ⟨by decide, by decide⟩ rfl rfl ?_
      refine WP.bipush (n := 37) (z := (10 : Int32)) dCN_35 (by decide) rfl ?_
      refine WP.icmp_ne (n := 43) (n' := 40) dCN_37 (by decide) (by decide) rfl (fun b114 => ?_) (fun b114 => ?_)
      · refine WP.iloadN (n := 44) dCN_43 rfl rfl ?_
        refine WP.iconst (n := 45) (z := (2 : Int32)) dCN_44 rfl rfl ?_
        refine WP.icmpN (n' := 48) dCN_45 (by decide) rfl ?_
        refine WP.iconst (n := 49) (z := (2 : Int32)) dCN_48 rfl rfl ?_
        refine WP.iloadN (n := 50) dCN_49 rfl rfl ?_
        refine WP.icmpY (n := 64) dCN_50 (by decide) (by decide) (by decide) ?_
        refine WP.iloadN (n := 65) dCN_64 rfl rfl ?_
        refine WP.iconst (n := 66) (z := (3 : Int32)) dCN_65 rfl rfl ?_
        refine WP.icmpN (n' := 69) dCN_66 (by decide) rfl ?_
        refine WP.iconst (n := 70) (z := (3 : Int32)) dCN_69 rfl rfl ?_
        refine WP.iloadN (n := 71) dCN_70 rfl rfl ?_
        refine WP.icmpY (n := 85) dCN_71 (by decide) (by decide) (by decide) ?_
        refine WP.iloadN (n := 86) dCN_85 rfl rfl ?_
        exact WP.retI dCN_86 rfl (by decide) (by decide) ⟨by show some (Value.int (1 : Int32)) = some (Value.int ((if c0 = 10 then 1 else 0) + ((if c1 = 10 then 1 else 0) + 0))); rw [if_pos b112, if_neg b114] <;> decide, rfl⟩
      · refine WP.iinc (n := 43) (z := (2 : Int32)) (Ls' := #[.val (.ref c), .val (.int (0 : Int32)), .val (.int (2 : Int32)), .val (.int (2 : Int32))]) dCN_40 rfl (by decide) rfl rfl ?_
        refine WP.iloadN (n := 44) dCN_43 rfl rfl ?_
        refine WP.iconst (n := 45) (z := (2 : Int32)) dCN_44 rfl rfl ?_
        refine WP.icmpN (n' := 48) dCN_45 (by decide) rfl ?_
        refine WP.iconst (n := 49) (z := (2 : Int32)) dCN_48 rfl rfl ?_
        refine WP.iloadN (n := 50) dCN_49 rfl rfl ?_
        refine WP.icmpY (n := 64) dCN_50 (by decide) (by decide) (by decide) ?_
        refine WP.iloadN (n := 65) dCN_64 rfl rfl ?_
        refine WP.iconst (n := 66) (z := (3 : Int32)) dCN_65 rfl rfl ?_
        refine WP.icmpN (n' := 69) dCN_66 (by decide) rfl ?_
        refine WP.iconst (n := 70) (z := (3 : Int32)) dCN_69 rfl rfl ?_
        refine WP.iloadN (n := 71) dCN_70 rfl rfl ?_
        refine WP.icmpY (n := 85) dCN_71 (by decide) (by decide) (by decide) ?_
        refine WP.iloadN (n := 86) dCN_85 rfl rfl ?_
        exact WP.retI dCN_86 rfl (by decide) (by decide) ⟨by show some (Value.int (2 : Int32)) = some (Value.int ((if c0 = 10 then 1 else 0) + ((if c1 = 10 then 1 else 0) + 0))); rw [if_pos b112, if_pos b114] <;> decide, rfl⟩
  · refine WP.iconst (n := 1) (z := (0 : Int32)) dCN_0 rfl rfl ?_
    refine WP.istoreN (n := 2) (Ls' := #[.val (.ref c), .val (.int (1 : Int32)), .val (.int (2 : Int32)), .val (.int (0 : Int32))]) dCN_1 rfl rfl ?_
    refine WP.iloadN (n := 3) dCN_2 rfl rfl ?_
    refine WP.ifcY (n := 22) dCN_3 (by decide) (by decide) (by decide) ?_
    refine WP.iloadN (n := 23) dCN_22 rfl rfl ?_
    refine WP.iconst (n := 24) (z := (1 : Int32)) dCN_23 rfl rfl ?_
    refine WP.icmpN (n' := 27) dCN_24 (by decide) rfl ?_
    refine WP.iconst (n := 28) (z := (1 : Int32)) dCN_27 rfl rfl ?_
    refine WP.iloadN (n := 29) dCN_28 rfl rfl ?_
    refine WP.icmpN (n' := 32) dCN_29 (by decide) rfl ?_
    refine WP.aloadN (n := 33) dCN_32 rfl rfl rfl ?_
    refine WP.iconst (n := 34) (z := (1 : Int32)) dCN_33 rfl rfl ?_
    refine WP.caload (n := 35) (v := .int c1) dCN_34 B ⟨by decide, by decide⟩ rfl rfl ?_
    refine WP.bipush (n := 37) (z := (10 : Int32)) dCN_35 (by decide) rfl ?_
    refine WP.icmp_ne (n := 43) (n' := 40) dCN_37 (by decide) (by decide) rfl (fun b115 => ?_) (fun b115 => ?_)
    · refine WP.iloadN (n := 44) dCN_43 rfl rfl ?_
      refine WP.iconst (n := 45) (z := (2 : Int32)) dCN_44 rfl rfl ?_
      refine WP.icmpN (n' := 48) dCN_45 (by decide) rfl ?_
      refine WP.iconst (n := 49) (z := (2 : Int32)) dCN_48 rfl rfl ?_
      refine WP.iloadN (n := 50) dCN_49 rfl rfl ?_
      refine WP.icmpY (n := 64) dCN_50 (by decide) (by decide) (by decide) ?_
      refine WP.iloadN (n := 65) dCN_64 rfl rfl ?_
      refine WP.iconst (n := 66) (z := (3 : Int32)) dCN_65 rfl rfl ?_
      refine WP.icmpN (n' := 69) dCN_66 (by decide) rfl ?_
      refine WP.iconst (n := 70) (z := (3 : Int32)) dCN_69 rfl rfl ?_
      refine WP.iloadN (n := 71) dCN_70 rfl rfl ?_
      refine WP.icmpY (n := 85) dCN_71 (by decide) (by decide) (by decide) ?_
      refine WP.iloadN (n := 86) dCN_85 rfl rfl ?_
      exact WP.retI dCN_86 rfl (by decide) (by decide) ⟨by show some (Value.int (0 : Int32)) = some (Value.int ((if c1 = 10 then 1 else 0) + 0)); rw [if_neg b115] <;> decide, rfl⟩
    · refine WP.iinc (n := 43) (z := (1 : Int32)) (Ls' := #[.val (.ref c), .val (.int (1 : Int32)), .val (.int (2 : Int32)), .val (.int (1 : Int32))]) dCN_40 rfl (by decide) rfl rfl ?_
      refine WP.iloadN (n := 44) dCN_43 rfl rfl ?_
      refine WP.iconst (n := 45) (z := (2 : Int32)) dCN_44 rfl rfl ?_
      refine WP.icmpN (n' := 48) dCN_45 (by decide) rfl ?_
      refine WP.iconst (n := 49) (z := (2 : Int32)) dCN_48 rfl rfl ?_
      refine WP.iloadN (n := 50) dCN_49 rfl rfl ?_
      refine WP.icmpY (n := 64) dCN_50 (by decide) (by decide) (by decide) ?_
      refine WP.iloadN (n := 65) dCN_64 rfl rfl ?_
      refine WP.iconst (n := 66) (z := (3 : Int32)) dCN_65 rfl rfl ?_
      refine WP.icmpN (n' := 69) dCN_66 (by decide) rfl ?_
      refine WP.iconst (n := 70) (z := (3 : Int32)) dCN_69 rfl rfl ?_
      refine WP.iloadN (n := 71) dCN_70 rfl rfl ?_
      refine WP.icmpY (n := 85) dCN_71 (by decide) (by decide) (by decide) ?_
      refine WP.iloadN (n := 86) dCN_85 rfl rfl ?_
      exact WP.retI dCN_86 rfl (by decide) (by decide) ⟨by show some (Value.int (1 : Int32)) = some (Value.int ((if c1 = 10 then 1 else 0) + 0)); rw [if_pos b115] <;> decide, rfl⟩
  · refine WP.iconst (n := 1) (z := (0 : Int32)) dCN_0 rfl rfl ?_
    refine WP.istoreN (n := 2) (Ls' := #[.val (.ref c), .val (.int (0 : Int32)), .val (.int (3 : Int32)), .val (.int (0 : Int32))]) dCN_1 rfl rfl ?_
    refine WP.iloadN (n := 3) dCN_2 rfl rfl ?_
    refine WP.ifcN (n' := 6) dCN_3 (by decide) rfl ?_
    refine WP.iconst (n := 7) (z := (0 : Int32)) dCN_6 rfl rfl ?_
    refine WP.iloadN (n := 8) dCN_7 rfl rfl ?_
    refine WP.icmpN (n' := 11) dCN_8 (by decide) rfl ?_
    refine WP.aloadN (n := 12) dCN_11 rfl rfl rfl ?_
    refine WP.iconst (n := 13) (z := (0 : Int32)) dCN_12 rfl rfl ?_
    refine WP.caload (n := 14) (v := .int c0) dCN_13 B ⟨by decide, by decide⟩ rfl rfl ?_
    refine WP.bipush (n := 16) (z := (10 : Int32)) dCN_14 (by decide) rfl ?_
    refine WP.icmp_ne (n := 22) (n' := 19) dCN_16 (by decide) (by decide) rfl (fun b116 => ?_) (fun b116 => ?_)
    · refine WP.iloadN (n := 23) dCN_22 rfl rfl ?_
      refine WP.iconst (n := 24) (z := (1 : Int32)) dCN_23 rfl rfl ?_
      refine WP.icmpN (n' := 27) dCN_24 (by decide) rfl ?_
      refine WP.iconst (n := 28) (z := (1 : Int32)) dCN_27 rfl rfl ?_
      refine WP.iloadN (n := 29) dCN_28 rfl rfl ?_
      refine WP.icmpN (n' := 32) dCN_29 (by decide) rfl ?_
      refine WP.aloadN (n := 33) dCN_32 rfl rfl rfl ?_
      refine WP.iconst (n := 34) (z := (1 : Int32)) dCN_33 rfl rfl ?_
      refine WP.caload (n := 35) (v := .int c1) dCN_34 B ⟨by decide, by decide⟩ rfl rfl ?_
      refine WP.bipush (n := 37) (z := (10 : Int32)) dCN_35 (by decide) rfl ?_
      refine WP.icmp_ne (n := 43) (n' := 40) dCN_37 (by decide) (by decide) rfl (fun b117 => ?_) (fun b117 => ?_)
      · refine WP.iloadN (n := 44) dCN_43 rfl rfl ?_
        refine WP.iconst (n := 45) (z := (2 : Int32)) dCN_44 rfl rfl ?_
        refine WP.icmpN (n' := 48) dCN_45 (by decide) rfl ?_
        refine WP.iconst (n := 49) (z := (2 : Int32)) dCN_48 rfl rfl ?_
        refine WP.iloadN (n := 50) dCN_49 rfl rfl ?_
        refine WP.icmpN (n' := 53) dCN_50 (by decide) rfl ?_
        refine WP.aloadN (n := 54) dCN_53 rfl rfl rfl ?_
        refine WP.iconst (n := 55) (z := (2 : Int32)) dCN_54 rfl rfl ?_
        refine WP.caload (n := 56) (v := .int c2) dCN_55 B ⟨by decide, by decide⟩ rfl rfl ?_
        refine WP.bipush (n := 58) (z := (10 : Int32)) dCN_56 (by decide) rfl ?_
        refine WP.icmp_ne (n := 64) (n' := 61) dCN_58 (by decide) (by decide) rfl (fun b118 => ?_) (fun b118 => ?_)
        · refine WP.iloadN (n := 65) dCN_64 rfl rfl ?_
          refine WP.iconst (n := 66) (z := (3 : Int32)) dCN_65 rfl rfl ?_
          refine WP.icmpN (n' := 69) dCN_66 (by decide) rfl ?_
          refine WP.iconst (n := 70) (z := (3 : Int32)) dCN_69 rfl rfl ?_
          refine WP.iloadN (n := 71) dCN_70 rfl rfl ?_
          refine WP.icmpY (n := 85) dCN_71 (by decide) (by decide) (by decide) ?_
          refine WP.iloadN (n := 86) dCN_85 rfl rfl ?_
          exact WP.retI dCN_86 rfl (by decide) (by decide) ⟨by show some (Value.int (0 : Int32)) = some (Value.int ((if c0 = 10 then 1 else 0) + ((if c1 = 10 then 1 else 0) + ((if c2 = 10 then 1 else 0) + 0)))); rw [if_neg b116, if_neg b117, if_neg b118] <;> decide, rfl⟩
        · refine WP.iinc (n := 64) (z := (1 : Int32)) (Ls' := #[.val (.ref c), .val (.int (0 : Int32)), .val (.int (3 : Int32)), .val (.int (1 : Int32))]) dCN_61 rfl (by decide) rfl rfl ?_
          refine WP.iloadN (n := 65) dCN_64 rfl rfl ?_
          refine WP.iconst (n := 66) (z := (3 : Int32)) dCN_65 rfl rfl ?_
          refine WP.icmpN (n' := 69) dCN_66 (by decide) rfl ?_
          refine WP.iconst (n := 70) (z := (3 : Int32)) dCN_69 rfl rfl ?_
          refine WP.iloadN (n := 71) dCN_70 rfl rfl ?_
          refine WP.icmpY (n := 85) dCN_71 (by decide) (by decide) (by decide) ?_
          refine WP.iloadN (n := 86) dCN_85 rfl rfl ?_
          exact WP.retI dCN_86 rfl (by decide) (by decide) ⟨by show some (Value.int (1 : Int32)) = some (Value.int ((if c0 = 10 then 1 else 0) + ((if c1 = 10 then 1 else 0) + ((if c2 = 10 then 1 else 0) + 0)))); rw [if_neg b116, if_neg b117, if_pos b118] <;> decide, rfl⟩
      · refine WP.iinc (n := 43) (z := (1 : Int32)) (Ls' := #[.val (.ref c), .val (.int (0 : Int32)), .val (.int (3 : Int32)), .val (.int (1 : Int32))]) dCN_40 rfl (by decide) rfl rfl ?_
        refine WP.iloadN (n := 44) dCN_43 rfl rfl ?_
        refine WP.iconst (n := 45) (z := (2 : Int32)) dCN_44 rfl rfl ?_
        refine WP.icmpN (n' := 48) dCN_45 (by decide) rfl ?_
        refine WP.iconst (n := 49) (z := (2 : Int32)) dCN_48 rfl rfl ?_
        refine WP.iloadN (n := 50) dCN_49 rfl rfl ?_
        refine WP.icmpN (n' := 53) dCN_50 (by decide) rfl ?_
        refine WP.aloadN (n := 54) dCN_53 rfl rfl rfl ?_
        refine WP.iconst (n := 55) (z := (2 : Int32)) dCN_54 rfl rfl ?_
        refine WP.caload (n := 56) (v := .int c2) dCN_55 B ⟨by decide, by decide⟩ rfl rfl ?_
        refine WP.bipush (n := 58) (z := (10 : Int32)) dCN_56 (by decide) rfl ?_
        refine WP.icmp_ne (n := 64) (n' := 61) dCN_58 (by decide) (by decide) rfl (fun b119 => ?_) (fun b119 => ?_)
        · refine WP.iloadN (n := 65) dCN_64 rfl rfl ?_
          refine WP.iconst (n := 66) (z := (3 : Int32)) dCN_65 rfl rfl ?_
          refine WP.icmpN (n' := 69) dCN_66 (by decide) rfl ?_
          refine WP.iconst (n := 70) (z := (3 : Int32)) dCN_69 rfl rfl ?_
          refine WP.iloadN (n := 71) dCN_70 rfl rfl ?_
          refine WP.icmpY (n := 85) dCN_71 (by decide) (by decide) (by decide) ?_
          refine WP.iloadN (n := 86) dCN_85 rfl rfl ?_
          exact WP.retI dCN_86 rfl (by decide) (by decide) ⟨by show some (Value.int (1 : Int32)) = some (Value.int ((if c0 = 10 then 1 else 0) + ((if c1 = 10 then 1 else 0) + ((if c2 = 10 then 1 else 0) + 0)))); rw [if_neg b116, if_pos b117, if_neg b119] <;> decide, rfl⟩
        · refine WP.iinc (n := 64) (z := (2 : Int32)) (Ls' := #[.val (.ref c), .val (.int (0 : Int32)), .val (.int (3 : Int32)), .val (.int (2 : Int32))]) dCN_61 rfl (by decide) rfl rfl ?_
          refine WP.iloadN (n := 65) dCN_64 rfl rfl ?_
          refine WP.iconst (n := 66) (z := (3 : Int32)) dCN_65 rfl rfl ?_
          refine WP.icmpN (n' := 69) dCN_66 (by decide) rfl ?_
          refine WP.iconst (n := 70) (z := (3 : Int32)) dCN_69 rfl rfl ?_
          refine WP.iloadN (n := 71) dCN_70 rfl rfl ?_
          refine WP.icmpY (n := 85) dCN_71 (by decide) (by decide) (by decide) ?_
          refine WP.iloadN (n := 86) dCN_85 rfl rfl ?_
          exact WP.retI dCN_86 rfl (by decide) (by decide) ⟨by show some (Value.int (2 : Int32)) = some (Value.int ((if c0 = 10 then 1 else 0) + ((if c1 = 10 then 1 else 0) + ((if c2 = 10 then 1 else 0) + 0)))); rw [if_neg b116, if_pos b117, if_pos b119] <;> decide, rfl⟩
    · refine WP.iinc (n := 22) (z := (1 : Int32)) (Ls' := #[.val (.ref c), .val (.int (0 : Int32)), .val (.int (3 : Int32)), .val (.int (1 : Int32))]) dCN_19 rfl (by decide) rfl rfl ?_
      refine WP.iloadN (n := 23) dCN_22 rfl rfl ?_
      refine WP.iconst (n := 24) (z := (1 : Int32)) dCN_23 rfl rfl ?_
      refine WP.icmpN (n' := 27) dCN_24 (by decide) rfl ?_
      refine WP.iconst (n := 28) (z := (1 : Int32)) dCN_27 rfl rfl ?_
      refine WP.iloadN (n := 29) dCN_28 rfl rfl ?_
      refine WP.icmpN (n' := 32) dCN_29 (by decide) rfl ?_
      refine WP.aloadN (n := 33) dCN_32 rfl rfl rfl ?_
      refine WP.iconst (n := 34) (z := (1 : Int32)) dCN_33 rfl rfl ?_
      refine WP.caload (n := 35) (v := .int c1) dCN_34 B ⟨by decide, by decide⟩ rfl rfl ?_
      refine WP.bipush (n := 37) (z := (10 : Int32)) dCN_35 (by decide) rfl ?_
      refine WP.icmp_ne (n := 43) (n' := 40) dCN_37 (by decide) (by decide) rfl (fun b120 => ?_) (fun b120 => ?_)
      · refine WP.iloadN (n := 44) dCN_43 rfl rfl ?_
        refine WP.iconst (n := 45) (z := (2 : Int32)) dCN_44 rfl rfl ?_
        refine WP.icmpN (n' := 48) dCN_45 (by decide) rfl ?_
        refine WP.iconst (n := 49) (z := (2 : Int32)) dCN_48 rfl rfl ?_
        refine WP.iloadN (n := 50) dCN_49 rfl rfl ?_
        refine WP.icmpN (n' := 53) dCN_50 (by decide) rfl ?_
        refine WP.aloadN (n := 54) dCN_53 rfl rfl rfl ?_
        refine WP.iconst (n := 55) (z := (2 : Int32)) dCN_54 rfl rfl ?_
        refine WP.caload (n := 56) (v := .int c2) dCN_55 B ⟨by decide, by decide⟩ rfl rfl ?_
        refine WP.bipush (n := 58) (z := (10 : Int32)) dCN_56 (by decide) rfl ?_
        refine WP.icmp_ne (n := 64) (n' := 61) dCN_58 (by decide) (by decide) rfl (fun b121 => ?_) (fun b121 => ?_)
        · refine WP.iloadN (n := 65) dCN_64 rfl rfl ?_
          refine WP.iconst (n := 66) (z := (3 : Int32)) dCN_65 rfl rfl ?_
          refine WP.icmpN (n' := 69) dCN_66 (by decide) rfl ?_
          refine WP.iconst (n := 70) (z := (3 : Int32)) dCN_69 rfl rfl ?_
          refine WP.iloadN (n := 71) dCN_70 rfl rfl ?_
          refine WP.icmpY (n := 85) dCN_71 (by decide) (by decide) (by decide) ?_
          refine WP.iloadN (n := 86) dCN_85 rfl rfl ?_
          exact WP.retI dCN_86 rfl (by decide) (by decide) ⟨by show some (Value.int (1 : Int32)) = some (Value.int ((if c0 = 10 then 1 else 0) + ((if c1 = 10 then 1 else 0) + ((if c2 = 10 then 1 else 0) + 0)))); rw [if_pos b116, if_neg b120, if_neg b121] <;> decide, rfl⟩
        · refine WP.iinc (n := 64) (z := (2 : Int32)) (Ls' := #[.val (.ref c), .val (.int (0 : Int32)), .val (.int (3 : Int32)), .val (.int (2 : Int32))]) dCN_61 rfl (by decide) rfl rfl ?_
          refine WP.iloadN (n := 65) dCN_64 rfl rfl ?_
          refine WP.iconst (n := 66) (z := (3 : Int32)) dCN_65 rfl rfl ?_
          refine WP.icmpN (n' := 69) dCN_66 (by decide) rfl ?_
          refine WP.iconst (n := 70) (z := (3 : Int32)) dCN_69 rfl rfl ?_
          refine WP.iloadN (n := 71) dCN_70 rfl rfl ?_
          refine WP.icmpY (n := 85) dCN_71 (by decide) (by decide) (by decide) ?_
          refine WP.iloadN (n := 86) dCN_85 rfl rfl ?_
          exact WP.retI dCN_86 rfl (by decide) (by decide) ⟨by show some (Value.int (2 : Int32)) = some (Value.int ((if c0 = 10 then 1 else 0) + ((if c1 = 10 then 1 else 0) + ((if c2 = 10 then 1 else 0) + 0)))); rw [if_pos b116, if_neg b120, if_pos b121] <;> decide, rfl⟩
      · refine WP.iinc (n := 43) (z := (2 : Int32)) (Ls' := #[.val (.ref c), .val (.int (0 : Int32)), .val (.int (3 : Int32)), .val (.int (2 : Int32))]) dCN_40 rfl (by decide) rfl rfl ?_
        refine WP.iloadN (n := 44) dCN_43 rfl rfl ?_
        refine WP.iconst (n := 45) (z := (2 : Int32)) dCN_44 rfl rfl ?_
        refine WP.icmpN (n' := 48) dCN_45 (by decide) rfl ?_
        refine WP.iconst (n := 49) (z := (2 : Int32)) dCN_48 rfl rfl ?_
        refine WP.iloadN (n := 50) dCN_49 rfl rfl ?_
        refine WP.icmpN (n' := 53) dCN_50 (by decide) rfl ?_
        refine WP.aloadN (n := 54) dCN_53 rfl rfl rfl ?_
        refine WP.iconst (n := 55) (z := (2 : Int32)) dCN_54 rfl rfl ?_
        refine WP.caload (n := 56) (v := .int c2) dCN_55 B ⟨by decide, by decide⟩ rfl rfl ?_
        refine WP.bipush (n := 58) (z := (10 : Int32)) dCN_56 (by decide) rfl ?_
        refine WP.icmp_ne (n := 64) (n' := 61) dCN_58 (by decide) (by decide) rfl (fun b122 => ?_) (fun b122 => ?_)
        · refine WP.iloadN (n := 65) dCN_64 rfl rfl ?_
          refine WP.iconst (n := 66) (z := (3 : Int32)) dCN_65 rfl rfl ?_
          refine WP.icmpN (n' := 69) dCN_66 (by decide) rfl ?_
          refine WP.iconst (n := 70) (z := (3 : Int32)) dCN_69 rfl rfl ?_
          refine WP.iloadN (n := 71) dCN_70 rfl rfl ?_
          refine WP.icmpY (n := 85) dCN_71 (by decide) (by decide) (by decide) ?_
          refine WP.iloadN (n := 86) dCN_85 rfl rfl ?_
          exact WP.retI dCN_86 rfl (by decide) (by decide) ⟨by show some (Value.int (2 : Int32)) = some (Value.int ((if c0 = 10 then 1 else 0) + ((if c1 = 10 then 1 else 0) + ((if c2 = 10 then 1 else 0) + 0)))); rw [if_pos b116, if_pos b120, if_neg b122] <;> decide, rfl⟩
        · refine WP.iinc (n := 64) (z := (3 : Int32)) (Ls' := #[.val (.ref c), .val (.int (0 : Int32)), .val (.int (3 : Int32)), .val (.int (3 : Int32))]) dCN_61 rfl (by decide) rfl rfl ?_
          refine WP.iloadN (n := 65) dCN_64 rfl rfl ?_
          refine WP.iconst (n := 66) (z := (3 : Int32)) dCN_65 rfl rfl ?_
          refine WP.icmpN (n' := 69) dCN_66 (by decide) rfl ?_
          refine WP.iconst (n := 70) (z := (3 : Int32)) dCN_69 rfl rfl ?_
          refine WP.iloadN (n := 71) dCN_70 rfl rfl ?_
          refine WP.icmpY (n := 85) dCN_71 (by decide) (by decide) (by decide) ?_
          refine WP.iloadN (n := 86) dCN_85 rfl rfl ?_
          exact WP.retI dCN_86 rfl (by decide) (by decide) ⟨by show some (Value.int (3 : Int32)) = some (Value.int ((if c0 = 10 then 1 else 0) + ((if c1 = 10 then 1 else 0) + ((if c2 = 10 then 1 else 0) + 0)))); rw [if_pos b116, if_pos b120, if_pos b122] <;> decide, rfl⟩
  · refine WP.iconst (n := 1) (z := (0 : Int32)) dCN_0 rfl rfl ?_
    refine WP.istoreN (n := 2) (Ls' := #[.val (.ref c), .val (.int (1 : Int32)), .val (.int (3 : Int32)), .val (.int (0 : Int32))]) dCN_1 rfl rfl ?_
    refine WP.iloadN (n := 3) dCN_2 rfl rfl ?_
    refine WP.ifcY (n := 22) dCN_3 (by decide) (by decide) (by decide) ?_
    refine WP.iloadN (n := 23) dCN_22 rfl rfl ?_
    refine WP.iconst (n := 24) (z := (1 : Int32)) dCN_23 rfl rfl ?_
    refine WP.icmpN (n' := 27) dCN_24 (by decide) rfl ?_
    refine WP.iconst (n := 28) (z := (1 : Int32)) dCN_27 rfl rfl ?_
    refine WP.iloadN (n := 29) dCN_28 rfl rfl ?_
    refine WP.icmpN (n' := 32) dCN_29 (by decide) rfl ?_
    refine WP.aloadN (n := 33) dCN_32 rfl rfl rfl ?_
    refine WP.iconst (n := 34) (z := (1 : Int32)) dCN_33 rfl rfl ?_
    refine WP.caload (n := 35) (v := .int c1) dCN_34 B ⟨by decide, by decide⟩ rfl rfl ?_
    refine WP.bipush (n := 37) (z := (10 : Int32)) dCN_35 (by decide) rfl ?_
    refine WP.icmp_ne (n := 43) (n' := 40) dCN_37 (by decide) (by decide) rfl (fun b123 => ?_) (fun b123 => ?_)
    · refine WP.iloadN (n := 44) dCN_43 rfl rfl ?_
      refine WP.iconst (n := 45) (z := (2 : Int32)) dCN_44 rfl rfl ?_
      refine WP.icmpN (n' := 48) dCN_45 (by decide) rfl ?_
      refine WP.iconst (n := 49) (z := (2 : Int32)) dCN_48 rfl rfl ?_
      refine WP.iloadN (n := 50) dCN_49 rfl rfl ?_
      refine WP.icmpN (n' := 53) dCN_50 (by decide) rfl ?_
      refine WP.aloadN (n := 54) dCN_53 rfl rfl rfl ?_
      refine WP.iconst (n := 55) (z := (2 : Int32)) dCN_54 rfl rfl ?_
      refine WP.caload (n := 56) (v := .int c2) dCN_55 B ⟨by decide, by decide⟩ rfl rfl ?_
      refine WP.bipush (n := 58) (z := (10 : Int32)) dCN_56 (by decide) rfl ?_
      refine WP.icmp_ne (n := 64) (n' := 61) dCN_58 (by decide) (by decide) rfl (fun b124 => ?_) (fun b124 => ?_)
      · refine WP.iloadN (n := 65) dCN_64 rfl rfl ?_
        refine WP.iconst (n := 66) (z := (3 : Int32)) dCN_65 rfl rfl ?_
        refine WP.icmpN (n' := 69) dCN_66 (by decide) rfl ?_
        refine WP.iconst (n := 70) (z := (3 : Int32)) dCN_69 rfl rfl ?_
        refine WP.iloadN (n := 71) dCN_70 rfl rfl ?_
        refine WP.icmpY (n := 85) dCN_71 (by decide) (by decide) (by decide) ?_
        refine WP.iloadN (n := 86) dCN_85 rfl rfl ?_
        exact WP.retI dCN_86 rfl (by decide) (by decide) ⟨by show some (Value.int (0 : Int32)) = some (Value.int ((if c1 = 10 then 1 else 0) + ((if c2 = 10 then 1 else 0) + 0))); rw [if_neg b123, if_neg b124] <;> decide, rfl⟩
      · refine WP.iinc (n := 64) (z := (1 : Int32)) (Ls' := #[.val (.ref c), .val (.int (1 : Int32)), .val (.int (3 : Int32)), .val (.int (1 : Int32))]) dCN_61 rfl (by decide) rfl rfl ?_
        refine WP.iloadN (n := 65) dCN_64 rfl rfl ?_
        refine WP.iconst (n := 66) (z := (3 : Int32)) dCN_65 rfl rfl ?_
        refine WP.icmpN (n' := 69) dCN_66 (by decide) rfl ?_
        refine WP.iconst (n := 70) (z := (3 : Int32)) dCN_69 rfl rfl ?_
        refine WP.iloadN (n := 71) dCN_70 rfl rfl ?_
        refine WP.icmpY (n := 85) dCN_71 (by decide) (by decide) (by decide) ?_
        refine WP.iloadN (n := 86) dCN_85 rfl rfl ?_
        exact WP.retI dCN_86 rfl (by decide) (by decide) ⟨by show some (Value.int (1 : Int32)) = some (Value.int ((if c1 = 10 then 1 else 0) + ((if c2 = 10 then 1 else 0) + 0))); rw [if_neg b123, if_pos b124] <;> decide, rfl⟩
    · refine WP.iinc (n := 43) (z := (1 : Int32)) (Ls' := #[.val (.ref c), .val (.int (1 : Int32)), .val (.int (3 : Int32)), .val (.int (1 : Int32))]) dCN_40 rfl (by decide) rfl rfl ?_
      refine WP.iloadN (n := 44) dCN_43 rfl rfl ?_
      refine WP.iconst (n := 45) (z := (2 : Int32)) dCN_44 rfl rfl ?_
      refine WP.icmpN (n' := 48) dCN_45 (by decide) rfl ?_
      refine WP.iconst (n := 49) (z := (2 : Int32)) dCN_48 rfl rfl ?_
      refine WP.iloadN (n := 50) dCN_49 rfl rfl ?_
      refine WP.icmpN (n' := 53) dCN_50 (by decide) rfl ?_
      refine WP.aloadN (n := 54) dCN_53 rfl rfl rfl ?_
      refine WP.iconst (n := 55) (z := (2 : Int32)) dCN_54 rfl rfl ?_
      refine WP.caload (n := 56) (v := .int c2) dCN_55 B ⟨by decide, by decide⟩ rfl rfl ?_
      refine WP.bipush (n := 58) (z := (10 : Int32)) dCN_56 (by decide) rfl ?_
      refine WP.icmp_ne (n := 64) (n' := 61) dCN_58 (by decide) (by decide) rfl (fun b125 => ?_) (fun b125 => ?_)
      · refine WP.iloadN (n := 65) dCN_64 rfl rfl ?_
        refine WP.iconst (n := 66) (z := (3 : Int32)) dCN_65 rfl rfl ?_
        refine WP.icmpN (n' := 69) dCN_66 (by decide) rfl ?_
        refine WP.iconst (n := 70) (z := (3 : Int32)) dCN_69 rfl rfl ?_
        refine WP.iloadN (n := 71) dCN_70 rfl rfl ?_
        refine WP.icmpY (n := 85) dCN_71 (by decide) (by decide) (by decide) ?_
        refine WP.iloadN (n := 86) dCN_85 rfl rfl ?_
        exact WP.retI dCN_86 rfl (by decide) (by decide) ⟨by show some (Value.int (1 : Int32)) = some (Value.int ((if c1 = 10 then 1 else 0) + ((if c2 = 10 then 1 else 0) + 0))); rw [if_pos b123, if_neg b125] <;> decide, rfl⟩
      · refine WP.iinc (n := 64) (z := (2 : Int32)) (Ls' := #[.val (.ref c), .val (.int (1 : Int32)), .val (.int (3 : Int32)), .val (.int (2 : Int32))]) dCN_61 rfl (by decide) rfl rfl ?_
        refine WP.iloadN (n := 65) dCN_64 rfl rfl ?_
        refine WP.iconst (n := 66) (z := (3 : Int32)) dCN_65 rfl rfl ?_
        refine WP.icmpN (n' := 69) dCN_66 (by decide) rfl ?_
        refine WP.iconst (n := 70) (z := (3 : Int32)) dCN_69 rfl rfl ?_
        refine WP.iloadN (n := 71) dCN_70 rfl rfl ?_
        refine WP.icmpY (n := 85) dCN_71 (by decide) (by decide) (by decide) ?_
        refine WP.iloadN (n := 86) dCN_85 rfl rfl ?_
        exact WP.retI dCN_86 rfl (by decide) (by decide) ⟨by show some (Value.int (2 : Int32)) = some (Value.int ((if c1 = 10 then 1 else 0) + ((if c2 = 10 then 1 else 0) + 0))); rw [if_pos b123, if_pos b125] <;> decide, rfl⟩
  · refine WP.iconst (n := 1) (z := (0 : Int32)) dCN_0 rfl rfl ?_
    refine WP.istoreN (n := 2) (Ls' := #[.val (.ref c), .val (.int (2 : Int32)), .val (.int (3 : Int32)), .val (.int (0 : Int32))]) dCN_1 rfl rfl ?_
    refine WP.iloadN (n := 3) dCN_2 rfl rfl ?_
    refine WP.ifcY (n := 22) dCN_3 (by decide) (by decide) (by decide) ?_
    refine WP.iloadN (n := 23) dCN_22 rfl rfl ?_
    refine WP.iconst (n := 24) (z := (1 : Int32)) dCN_23 rfl rfl ?_
    refine WP.icmpY (n := 43) dCN_24 (by decide) (by decide) (by decide) ?_
    refine WP.iloadN (n := 44) dCN_43 rfl rfl ?_
    refine WP.iconst (n := 45) (z := (2 : Int32)) dCN_44 rfl rfl ?_
    refine WP.icmpN (n' := 48) dCN_45 (by decide) rfl ?_
    refine WP.iconst (n := 49) (z := (2 : Int32)) dCN_48 rfl rfl ?_
    refine WP.iloadN (n := 50) dCN_49 rfl rfl ?_
    refine WP.icmpN (n' := 53) dCN_50 (by decide) rfl ?_
    refine WP.aloadN (n := 54) dCN_53 rfl rfl rfl ?_
    refine WP.iconst (n := 55) (z := (2 : Int32)) dCN_54 rfl rfl ?_
    refine WP.caload (n := 56) (v := .int c2) dCN_55 B ⟨by decide, by decide⟩ rfl rfl ?_
    refine WP.bipush (n := 58) (z := (10 : Int32)) dCN_56 (by decide) rfl ?_
    refine WP.icmp_ne (n := 64) (n' := 61) dCN_58 (by decide) (by decide) rfl (fun b126 => ?_) (fun b126 => ?_)
    · refine WP.iloadN (n := 65) dCN_64 rfl rfl ?_
      refine WP.iconst (n := 66) (z := (3 : Int32)) dCN_65 rfl rfl ?_
      refine WP.icmpN (n' := 69) dCN_66 (by decide) rfl ?_
      refine WP.iconst (n := 70) (z := (3 : Int32)) dCN_69 rfl rfl ?_
      refine WP.iloadN (n := 71) dCN_70 rfl rfl ?_
      refine WP.icmpY (n := 85) dCN_71 (by decide) (by decide) (by decide) ?_
      refine WP.iloadN (n := 86) dCN_85 rfl rfl ?_
      exact WP.retI dCN_86 rfl (by decide) (by decide) ⟨by show some (Value.int (0 : Int32)) = some (Value.int ((if c2 = 10 then 1 else 0) + 0)); rw [if_neg b126] <;> decide, rfl⟩
    · refine WP.iinc (n := 64) (z := (1 : Int32)) (Ls' := #[.val (.ref c), .val (.int (2 : Int32)), .val (.int (3 : Int32)), .val (.int (1 : Int32))]) dCN_61 rfl (by decide) rfl rfl ?_
      refine WP.iloadN (n := 65) dCN_64 rfl rfl ?_
      refine WP.iconst (n := 66) (z := (3 : Int32)) dCN_65 rfl rfl ?_
      refine WP.icmpN (n' := 69) dCN_66 (by decide) rfl ?_
      refine WP.iconst (n := 70) (z := (3 : Int32)) dCN_69 rfl rfl ?_
      refine WP.iloadN (n := 71) dCN_70 rfl rfl ?_
      refine WP.icmpY (n := 85) dCN_71 (by decide) (by decide) (by decide) ?_
      refine WP.iloadN (n := 86) dCN_85 rfl rfl ?_
      exact WP.retI dCN_86 rfl (by decide) (by decide) ⟨by show some (Value.int (1 : Int32)) = some (Value.int ((if c2 = 10 then 1 else 0) + 0)); rw [if_pos b126] <;> decide, rfl⟩
  · refine WP.iconst (n := 1) (z := (0 : Int32)) dCN_0 rfl rfl ?_
    refine WP.istoreN (n := 2) (Ls' := #[.val (.ref c), .val (.int (0 : Int32)), .val (.int (4 : Int32)), .val (.int (0 : Int32))]) dCN_1 rfl rfl ?_
    refine WP.iloadN (n := 3) dCN_2 rfl rfl ?_
    refine WP.ifcN (n' := 6) dCN_3 (by decide) rfl ?_
    refine WP.iconst (n := 7) (z := (0 : Int32)) dCN_6 rfl rfl ?_
    refine WP.iloadN (n := 8) dCN_7 rfl rfl ?_
    refine WP.icmpN (n' := 11) dCN_8 (by decide) rfl ?_
    refine WP.aloadN (n := 12) dCN_11 rfl rfl rfl ?_
    refine WP.iconst (n := 13) (z := (0 : Int32)) dCN_12 rfl rfl ?_
    refine WP.caload (n := 14) (v := .int c0) dCN_13 B ⟨by decide, by decide⟩ rfl rfl ?_
    refine WP.bipush (n := 16) (z := (10 : Int32)) dCN_14 (by decide) rfl ?_
    refine WP.icmp_ne (n := 22) (n' := 19) dCN_16 (by decide) (by decide) rfl (fun b127 => ?_) (fun b127 => ?_)
    · refine WP.iloadN (n := 23) dCN_22 rfl rfl ?_
      refine WP.iconst (n := 24) (z := (1 : Int32)) dCN_23 rfl rfl ?_
      refine WP.icmpN (n' := 27) dCN_24 (by decide) rfl ?_
      refine WP.iconst (n := 28) (z := (1 : Int32)) dCN_27 rfl rfl ?_
      refine WP.iloadN (n := 29) dCN_28 rfl rfl ?_
      refine WP.icmpN (n' := 32) dCN_29 (by decide) rfl ?_
      refine WP.aloadN (n := 33) dCN_32 rfl rfl rfl ?_
      refine WP.iconst (n := 34) (z := (1 : Int32)) dCN_33 rfl rfl ?_
      refine WP.caload (n := 35) (v := .int c1) dCN_34 B ⟨by decide, by decide⟩ rfl rfl ?_
      refine WP.bipush (n := 37) (z := (10 : Int32)) dCN_35 (by decide) rfl ?_
      refine WP.icmp_ne (n := 43) (n' := 40) dCN_37 (by decide) (by decide) rfl (fun b128 => ?_) (fun b128 => ?_)
      · refine WP.iloadN (n := 44) dCN_43 rfl rfl ?_
        refine WP.iconst (n := 45) (z := (2 : Int32)) dCN_44 rfl rfl ?_
        refine WP.icmpN (n' := 48) dCN_45 (by decide) rfl ?_
        refine WP.iconst (n := 49) (z := (2 : Int32)) dCN_48 rfl rfl ?_
        refine WP.iloadN (n := 50) dCN_49 rfl rfl ?_
        refine WP.icmpN (n' := 53) dCN_50 (by decide) rfl ?_
        refine WP.aloadN (n := 54) dCN_53 rfl rfl rfl ?_
        refine WP.iconst (n := 55) (z := (2 : Int32)) dCN_54 rfl rfl ?_
        refine WP.caload (n := 56) (v := .int c2) dCN_55 B ⟨by decide, by decide⟩ rfl rfl ?_
        refine WP.bipush (n := 58) (z := (10 : Int32)) dCN_56 (by decide) rfl ?_
        refine WP.icmp_ne (n := 64) (n' := 61) dCN_58 (by decide) (by decide) rfl (fun b129 => ?_) (fun b129 => ?_)
        · refine WP.iloadN (n := 65) dCN_64 rfl rfl ?_
          refine WP.iconst (n := 66) (z := (3 : Int32)) dCN_65 rfl rfl ?_
          refine WP.icmpN (n' := 69) dCN_66 (by decide) rfl ?_
          refine WP.iconst (n := 70) (z := (3 : Int32)) dCN_69 rfl rfl ?_
          refine WP.iloadN (n := 71) dCN_70 rfl rfl ?_
          refine WP.icmpN (n' := 74) dCN_71 (by decide) rfl ?_
          refine WP.aloadN (n := 75) dCN_74 rfl rfl rfl ?_
          refine WP.iconst (n := 76) (z := (3 : Int32)) dCN_75 rfl rfl ?_
          refine WP.caload (n := 77) (v := .int c3) dCN_76 B ⟨by decide, by decide⟩ rfl rfl ?_
          refine WP.bipush (n := 79) (z := (10 : Int32)) dCN_77 (by decide) rfl ?_
          refine WP.icmp_ne (n := 85) (n' := 82) dCN_79 (by decide) (by decide) rfl (fun b130 => ?_) (fun b130 => ?_)
          · refine WP.iloadN (n := 86) dCN_85 rfl rfl ?_
            exact WP.retI dCN_86 rfl (by decide) (by decide) ⟨by show some (Value.int (0 : Int32)) = some (Value.int ((if c0 = 10 then 1 else 0) + ((if c1 = 10 then 1 else 0) + ((if c2 = 10 then 1 else 0) + ((if c3 = 10 then 1 else 0) + 0))))); rw [if_neg b127, if_neg b128, if_neg b129, if_neg b130] <;> decide, rfl⟩
          · refine WP.iinc (n := 85) (z := (1 : Int32)) (Ls' := #[.val (.ref c), .val (.int (0 : Int32)), .val (.int (4 : Int32)), .val (.int (1 : Int32))]) dCN_82 rfl (by decide) rfl rfl ?_
            refine WP.iloadN (n := 86) dCN_85 rfl rfl ?_
            exact WP.retI dCN_86 rfl (by decide) (by decide) ⟨by show some (Value.int (1 : Int32)) = some (Value.int ((if c0 = 10 then 1 else 0) + ((if c1 = 10 then 1 else 0) + ((if c2 = 10 then 1 else 0) + ((if c3 = 10 then 1 else 0) + 0))))); rw [if_neg b127, if_neg b128, if_neg b129, if_pos b130] <;> decide, rfl⟩
        · refine WP.iinc (n := 64) (z := (1 : Int32)) (Ls' := #[.val (.ref c), .val (.int (0 : Int32)), .val (.int (4 : Int32)), .val (.int (1 : Int32))]) dCN_61 rfl (by decide) rfl rfl ?_
          refine WP.iloadN (n := 65) dCN_64 rfl rfl ?_
          refine WP.iconst (n := 66) (z := (3 : Int32)) dCN_65 rfl rfl ?_
          refine WP.icmpN (n' := 69) dCN_66 (by decide) rfl ?_
          refine WP.iconst (n := 70) (z := (3 : Int32)) dCN_69 rfl rfl ?_
          refine WP.iloadN (n := 71) dCN_70 rfl rfl ?_
          refine WP.icmpN (n' := 74) dCN_71 (by decide) rfl ?_
          refine WP.aloadN (n := 75) dCN_74 rfl rfl rfl ?_
          refine WP.iconst (n := 76) (z := (3 : Int32)) dCN_75 rfl rfl ?_
          refine WP.caload (n := 77) (v := .int c3) dCN_76 B ⟨by decide, by decide⟩ rfl rfl ?_
          refine WP.bipush (n := 79) (z := (10 : Int32)) dCN_77 (by decide) rfl ?_
          refine WP.icmp_ne (n := 85) (n' := 82) dCN_79 (by decide) (by decide) rfl (fun b131 => ?_) (fun b131 => ?_)
          · refine WP.iloadN (n := 86) dCN_85 rfl rfl ?_
            exact WP.retI dCN_86 rfl (by decide) (by decide) ⟨by show some (Value.int (1 : Int32)) = some (Value.int ((if c0 = 10 then 1 else 0) + ((if c1 = 10 then 1 else 0) + ((if c2 = 10 then 1 else 0) + ((if c3 = 10 then 1 else 0) + 0))))); rw [if_neg b127, if_neg b128, if_pos b129, if_neg b131] <;> decide, rfl⟩
          · refine WP.iinc (n := 85) (z := (2 : Int32)) (Ls' := #[.val (.ref c), .val (.int (0 : Int32)), .val (.int (4 : Int32)), .val (.int (2 : Int32))]) dCN_82 rfl (by decide) rfl rfl ?_
            refine WP.iloadN (n := 86) dCN_85 rfl rfl ?_
            exact WP.retI dCN_86 rfl (by decide) (by decide) ⟨by show some (Value.int (2 : Int32)) = some (Value.int ((if c0 = 10 then 1 else 0) + ((if c1 = 10 then 1 else 0) + ((if c2 = 10 then 1 else 0) + ((if c3 = 10 then 1 else 0) + 0))))); rw [if_neg b127, if_neg b128, if_pos b129, if_pos b131] <;> decide, rfl⟩
      · refine WP.iinc (n := 43) (z := (1 : Int32)) (Ls' := #[.val (.ref c), .val (.int (0 : Int32)), .val (.int (4 : Int32)), .val (.int (1 : Int32))]) dCN_40 rfl (by decide) rfl rfl ?_
        refine WP.iloadN (n := 44) dCN_43 rfl rfl ?_
        refine WP.iconst (n := 45) (z := (2 : Int32)) dCN_44 rfl rfl ?_
        refine WP.icmpN (n' := 48) dCN_45 (by decide) rfl ?_
        refine WP.iconst (n := 49) (z := (2 : Int32)) dCN_48 rfl rfl ?_
        refine WP.iloadN (n := 50) dCN_49 rfl rfl ?_
        refine WP.icmpN (n' := 53) dCN_50 (by decide) rfl ?_
        refine WP.aloadN (n := 54) dCN_53 rfl rfl rfl ?_
        refine WP.iconst (n := 55) (z := (2 : Int32)) dCN_54 rfl rfl ?_
        refine WP.caload (n := 56) (v := .int c2) dCN_55 B ⟨by decide, by decide⟩ rfl rfl ?_
        refine WP.bipush (n := 58) (z := (10 : Int32)) dCN_56 (by decide) rfl ?_
        refine WP.icmp_ne (n := 64) (n' := 61) dCN_58 (by decide) (by decide) rfl (fun b132 => ?_) (fun b132 => ?_)
        · refine WP.iloadN (n := 65) dCN_64 rfl rfl ?_
          refine WP.iconst (n := 66) (z := (3 : Int32)) dCN_65 rfl rfl ?_
          refine WP.icmpN (n' := 69) dCN_66 (by decide) rfl ?_
          refine WP.iconst (n := 70) (z := (3 : Int32)) dCN_69 rfl rfl ?_
          refine WP.iloadN (n := 71) dCN_70 rfl rfl ?_
          refine WP.icmpN (n' := 74) dCN_71 (by decide) rfl ?_
          refine WP.aloadN (n := 75) dCN_74 rfl rfl rfl ?_
          refine WP.iconst (n := 76) (z := (3 : Int32)) dCN_75 rfl rfl ?_
          refine WP.caload (n := 77) (v := .int c3) dCN_76 B ⟨by decide, by decide⟩ rfl rfl ?_
          refine WP.bipush (n := 79) (z := (10 : Int32)) dCN_77 (by decide) rfl ?_
          refine WP.icmp_ne (n := 85) (n' := 82) dCN_79 (by decide) (by decide) rfl (fun b133 => ?_) (fun b133 => ?_)
          · refine WP.iloadN (n := 86) dCN_85 rfl rfl ?_
            exact WP.retI dCN_86 rfl (by decide) (by decide) ⟨by show some (Value.int (1 : Int32)) = some (Value.int ((if c0 = 10 then 1 else 0) + ((if c1 = 10 then 1 else 0) + ((if c2 = 10 then 1 else 0) + ((if c3 = 10 then 1 else 0) + 0))))); rw [if_neg b127, if_pos b128, if_neg b132, if_neg b133] <;> decide, rfl⟩
          · refine WP.iinc (n := 85) (z := (2 : Int32)) (Ls' := #[.val (.ref c), .val (.int (0 : Int32)), .val (.int (4 : Int32)), .val (.int (2 : Int32))]) dCN_82 rfl (by decide) rfl rfl ?_
            refine WP.iloadN (n := 86) dCN_85 rfl rfl ?_
            exact WP.retI dCN_86 rfl (by decide) (by decide) ⟨by show some (Value.int (2 : Int32)) = some (Value.int ((if c0 = 10 then 1 else 0) + ((if c1 = 10 then 1 else 0) + ((if c2 = 10 then 1 else 0) + ((if c3 = 10 then 1 else 0) + 0))))); rw [if_neg b127, if_pos b128, if_neg b132, if_pos b133] <;> decide, rfl⟩
        · refine WP.iinc (n := 64) (z := (2 : Int32)) (Ls' := #[.val (.ref c), .val (.int (0 : Int32)), .val (.int (4 : Int32)), .val (.int (2 : Int32))]) dCN_61 rfl (by decide) rfl rfl ?_
          refine WP.iloadN (n := 65) dCN_64 rfl rfl ?_
          refine WP.iconst (n := 66) (z := (3 : Int32)) dCN_65 rfl rfl ?_
          refine WP.icmpN (n' := 69) dCN_66 (by decide) rfl ?_
          refine WP.iconst (n := 70) (z := (3 : Int32)) dCN_69 rfl rfl ?_
          refine WP.iloadN (n := 71) dCN_70 rfl rfl ?_
          refine WP.icmpN (n' := 74) dCN_71 (by decide) rfl ?_
          refine WP.aloadN (n := 75) dCN_74 rfl rfl rfl ?_
          refine WP.iconst (n := 76) (z := (3 : Int32)) dCN_75 rfl rfl ?_
          refine WP.caload (n := 77) (v := .int c3) dCN_76 B ⟨by decide, by decide⟩ rfl rfl ?_
          refine WP.bipush (n := 79) (z := (10 : Int32)) dCN_77 (by decide) rfl ?_
          refine WP.icmp_ne (n := 85) (n' := 82) dCN_79 (by decide) (by decide) rfl (fun b134 => ?_) (fun b134 => ?_)
          · refine WP.iloadN (n := 86) dCN_85 rfl rfl ?_
            exact WP.retI dCN_86 rfl (by decide) (by decide) ⟨by show some (Value.int (2 : Int32)) = some (Value.int ((if c0 = 10 then 1 else 0) + ((if c1 = 10 then 1 else 0) + ((if c2 = 10 then 1 else 0) + ((if c3 = 10 then 1 else 0) + 0))))); rw [if_neg b127, if_pos b128, if_pos b132, if_neg b134] <;> decide, rfl⟩
          · refine WP.iinc (n := 85) (z := (3 : Int32)) (Ls' := #[.val (.ref c), .val (.int (0 : Int32)), .val (.int (4 : Int32)), .val (.int (3 : Int32))]) dCN_82 rfl (by decide) rfl rfl ?_
            refine WP.iloadN (n := 86) dCN_85 rfl rfl ?_
            exact WP.retI dCN_86 rfl (by decide) (by decide) ⟨by show some (Value.int (3 : Int32)) = some (Value.int ((if c0 = 10 then 1 else 0) + ((if c1 = 10 then 1 else 0) + ((if c2 = 10 then 1 else 0) + ((if c3 = 10 then 1 else 0) + 0))))); rw [if_neg b127, if_pos b128, if_pos b132, if_pos b134] <;> decide, rfl⟩
    · refine WP.iinc (n := 22) (z := (1 : Int32)) (Ls' := #[.val (.ref c), .val (.int (0 : Int32)), .val (.int (4 : Int32)), .val (.int (1 : Int32))]) dCN_19 rfl (by decide) rfl rfl ?_
      refine WP.iloadN (n := 23) dCN_22 rfl rfl ?_
      refine WP.iconst (n := 24) (z := (1 : Int32)) dCN_23 rfl rfl ?_
      refine WP.icmpN (n' := 27) dCN_24 (by decide) rfl ?_
      refine WP.iconst (n := 28) (z := (1 : Int32)) dCN_27 rfl rfl ?_
      refine WP.iloadN (n := 29) dCN_28 rfl rfl ?_
      refine WP.icmpN (n' := 32) dCN_29 (by decide) rfl ?_
      refine WP.aloadN (n := 33) dCN_32 rfl rfl rfl ?_
      refine WP.iconst (n := 34) (z := (1 : Int32)) dCN_33 rfl rfl ?_
      refine WP.caload (n := 35) (v := .int c1) dCN_34 B ⟨by decide, by decide⟩ rfl rfl ?_
      refine WP.bipush (n := 37) (z := (10 : Int32)) dCN_35 (by decide) rfl ?_
      refine WP.icmp_ne (n := 43) (n' := 40) dCN_37 (by decide) (by decide) rfl (fun b135 => ?_) (fun b135 => ?_)
      · refine WP.iloadN (n := 44) dCN_43 rfl rfl ?_
        refine WP.iconst (n := 45) (z := (2 : Int32)) dCN_44 rfl rfl ?_
        refine WP.icmpN (n' := 48) dCN_45 (by decide) rfl ?_
        refine WP.iconst (n := 49) (z := (2 : Int32)) dCN_48 rfl rfl ?_
        refine WP.iloadN (n := 50) dCN_49 rfl rfl ?_
        refine WP.icmpN (n' := 53) dCN_50 (by decide) rfl ?_
        refine WP.aloadN (n := 54) dCN_53 rfl rfl rfl ?_
        refine WP.iconst (n := 55) (z := (2 : Int32)) dCN_54 rfl rfl ?_
        refine WP.caload (n := 56) (v := .int c2) dCN_55 B ⟨by decide, by decide⟩ rfl rfl ?_
        refine WP.bipush (n := 58) (z := (10 : Int32)) dCN_56 (by decide) rfl ?_
        refine WP.icmp_ne (n := 64) (n' := 61) dCN_58 (by decide) (by decide) rfl (fun b136 => ?_) (fun b136 => ?_)
        · refine WP.iloadN (n := 65) dCN_64 rfl rfl ?_
          refine WP.iconst (n := 66) (z := (3 : Int32)) dCN_65 rfl rfl ?_
          refine WP.icmpN (n' := 69) dCN_66 (by decide) rfl ?_
          refine WP.iconst (n := 70) (z := (3 : Int32)) dCN_69 rfl rfl ?_
          refine WP.iloadN (n := 71) dCN_70 rfl rfl ?_
          refine WP.icmpN (n' := 74) dCN_71 (by decide) rfl ?_
          refine WP.aloadN (n := 75) dCN_74 rfl rfl rfl ?_
          refine WP.iconst (n := 76) (z := (3 : Int32)) dCN_75 rfl rfl ?_
          refine WP.caload (n := 77) (v := .int c3) dCN_76 B ⟨by decide, by decide⟩ rfl rfl ?_
          refine WP.bipush (n := 79) (z := (10 : Int32)) dCN_77 (by decide) rfl ?_
          refine WP.icmp_ne (n := 85) (n' := 82) dCN_79 (by decide) (by decide) rfl (fun b137 => ?_) (fun b137 => ?_)
          · refine WP.iloadN (n := 86) dCN_85 rfl rfl ?_
            exact WP.retI dCN_86 rfl (by decide) (by decide) ⟨by show some (Value.int (1 : Int32)) = some (Value.int ((if c0 = 10 then 1 else 0) + ((if c1 = 10 then 1 else 0) + ((if c2 = 10 then 1 else 0) + ((if c3 = 10 then 1 else 0) + 0))))); rw [if_pos b127, if_neg b135, if_neg b136, if_neg b137] <;> decide, rfl⟩
          · refine WP.iinc (n := 85) (z := (2 : Int32)) (Ls' := #[.val (.ref c), .val (.int (0 : Int32)), .val (.int (4 : Int32)), .val (.int (2 : Int32))]) dCN_82 rfl (by decide) rfl rfl ?_
            refine WP.iloadN (n := 86) dCN_85 rfl rfl ?_
            exact WP.retI dCN_86 rfl (by decide) (by decide) ⟨by show some (Value.int (2 : Int32)) = some (Value.int ((if c0 = 10 then 1 else 0) + ((if c1 = 10 then 1 else 0) + ((if c2 = 10 then 1 else 0) + ((if c3 = 10 then 1 else 0) + 0))))); rw [if_pos b127, if_neg b135, if_neg b136, if_pos b137] <;> decide, rfl⟩
        · refine WP.iinc (n := 64) (z := (2 : Int32)) (Ls' := #[.val (.ref c), .val (.int (0 : Int32)), .val (.int (4 : Int32)), .val (.int (2 : Int32))]) dCN_61 rfl (by decide) rfl rfl ?_
          refine WP.iloadN (n := 65) dCN_64 rfl rfl ?_
          refine WP.iconst (n := 66) (z := (3 : Int32)) dCN_65 rfl rfl ?_
          refine WP.icmpN (n' := 69) dCN_66 (by decide) rfl ?_
          refine WP.iconst (n := 70) (z := (3 : Int32)) dCN_69 rfl rfl ?_
          refine WP.iloadN (n := 71) dCN_70 rfl rfl ?_
          refine WP.icmpN (n' := 74) dCN_71 (by decide) rfl ?_
          refine WP.aloadN (n := 75) dCN_74 rfl rfl rfl ?_
          refine WP.iconst (n := 76) (z := (3 : Int32)) dCN_75 rfl rfl ?_
          refine WP.caload (n := 77) (v := .int c3) dCN_76 B ⟨by decide, by decide⟩ rfl rfl ?_
          refine WP.bipush (n := 79) (z := (10 : Int32)) dCN_77 (by decide) rfl ?_
          refine WP.icmp_ne (n := 85) (n' := 82) dCN_79 (by decide) (by decide) rfl (fun b138 => ?_) (fun b138 => ?_)
          · refine WP.iloadN (n := 86) dCN_85 rfl rfl ?_
            exact WP.retI dCN_86 rfl (by decide) (by decide) ⟨by show some (Value.int (2 : Int32)) = some (Value.int ((if c0 = 10 then 1 else 0) + ((if c1 = 10 then 1 else 0) + ((if c2 = 10 then 1 else 0) + ((if c3 = 10 then 1 else 0) + 0))))); rw [if_pos b127, if_neg b135, if_pos b136, if_neg b138] <;> decide, rfl⟩
          · refine WP.iinc (n := 85) (z := (3 : Int32)) (Ls' := #[.val (.ref c), .val (.int (0 : Int32)), .val (.int (4 : Int32)), .val (.int (3 : Int32))]) dCN_82 rfl (by decide) rfl rfl ?_
            refine WP.iloadN (n := 86) dCN_85 rfl rfl ?_
            exact WP.retI dCN_86 rfl (by decide) (by decide) ⟨by show some (Value.int (3 : Int32)) = some (Value.int ((if c0 = 10 then 1 else 0) + ((if c1 = 10 then 1 else 0) + ((if c2 = 10 then 1 else 0) + ((if c3 = 10 then 1 else 0) + 0))))); rw [if_pos b127, if_neg b135, if_pos b136, if_pos b138] <;> decide, rfl⟩
      · refine WP.iinc (n := 43) (z := (2 : Int32)) (Ls' := #[.val (.ref c), .val (.int (0 : Int32)), .val (.int (4 : Int32)), .val (.int (2 : Int32))]) dCN_40 rfl (by decide) rfl rfl ?_
        refine WP.iloadN (n := 44) dCN_43 rfl rfl ?_
        refine WP.iconst (n := 45) (z := (2 : Int32)) dCN_44 rfl rfl ?_
        refine WP.icmpN (n' := 48) dCN_45 (by decide) rfl ?_
        refine WP.iconst (n := 49) (z := (2 : Int32)) dCN_48 rfl rfl ?_
        refine WP.iloadN (n := 50) dCN_49 rfl rfl ?_
        refine WP.icmpN (n' := 53) dCN_50 (by decide) rfl ?_
        refine WP.aloadN (n := 54) dCN_53 rfl rfl rfl ?_
        refine WP.iconst (n := 55) (z := (2 : Int32)) dCN_54 rfl rfl ?_
        refine WP.caload (n := 56) (v := .int c2) dCN_55 B ⟨by decide, by decide⟩ rfl rfl ?_
        refine WP.bipush (n := 58) (z := (10 : Int32)) dCN_56 (by decide) rfl ?_
        refine WP.icmp_ne (n := 64) (n' := 61) dCN_58 (by decide) (by decide) rfl (fun b139 => ?_) (fun b139 => ?_)
        · refine WP.iloadN (n := 65) dCN_64 rfl rfl ?_
          refine WP.iconst (n := 66) (z := (3 : Int32)) dCN_65 rfl rfl ?_
          refine WP.icmpN (n' := 69) dCN_66 (by decide) rfl ?_
          refine WP.iconst (n := 70) (z := (3 : Int32)) dCN_69 rfl rfl ?_
          refine WP.iloadN (n := 71) dCN_70 rfl rfl ?_
          refine WP.icmpN (n' := 74) dCN_71 (by decide) rfl ?_
          refine WP.aloadN (n := 75) dCN_74 rfl rfl rfl ?_
          refine WP.iconst (n := 76) (z := (3 : Int32)) dCN_75 rfl rfl ?_
          refine WP.caload (n := 77) (v := .int c3) dCN_76 B ⟨by decide, by decide⟩ rfl rfl ?_
          refine WP.bipush (n := 79) (z := (10 : Int32)) dCN_77 (by decide) rfl ?_
          refine WP.icmp_ne (n := 85) (n' := 82) dCN_79 (by decide) (by decide) rfl (fun b140 => ?_) (fun b140 => ?_)
          · refine WP.iloadN (n := 86) dCN_85 rfl rfl ?_
            exact WP.retI dCN_86 rfl (by decide) (by decide) ⟨by show some (Value.int (2 : Int32)) = some (Value.int ((if c0 = 10 then 1 else 0) + ((if c1 = 10 then 1 else 0) + ((if c2 = 10 then 1 else 0) + ((if c3 = 10 then 1 else 0) + 0))))); rw [if_pos b127, if_pos b135, if_neg b139, if_neg b140] <;> decide, rfl⟩
          · refine WP.iinc (n := 85) (z := (3 : Int32)) (Ls' := #[.val (.ref c), .val (.int (0 : Int32)), .val (.int (4 : Int32)), .val (.int (3 : Int32))]) dCN_82 rfl (by decide) rfl rfl ?_
            refine WP.iloadN (n := 86) dCN_85 rfl rfl ?_
            exact WP.retI dCN_86 rfl (by decide) (by decide) ⟨by show some (Value.int (3 : Int32)) = some (Value.int ((if c0 = 10 then 1 else 0) + ((if c1 = 10 then 1 else 0) + ((if c2 = 10 then 1 else 0) + ((if c3 = 10 then 1 else 0) + 0))))); rw [if_pos b127, if_pos b135, if_neg b139, if_pos b140] <;> decide, rfl⟩
        · refine WP.iinc (n := 64) (z := (3 : Int32)) (Ls' := #[.val (.ref c), .val (.int (0 : Int32)), .val (.int (4 : Int32)), .val (.int (3 : Int32))]) dCN_61 rfl (by decide) rfl rfl ?_
          refine WP.iloadN (n := 65) dCN_64 rfl rfl ?_
          refine WP.iconst (n := 66) (z := (3 : Int32)) dCN_65 rfl rfl ?_
          refine WP.icmpN (n' := 69) dCN_66 (by decide) rfl ?_
          refine WP.iconst (n := 70) (z := (3 : Int32)) dCN_69 rfl rfl ?_
          refine WP.iloadN (n := 71) dCN_70 rfl rfl ?_
          refine WP.icmpN (n' := 74) dCN_71 (by decide) rfl ?_
          refine WP.aloadN (n := 75) dCN_74 rfl rfl rfl ?_
          refine WP.iconst (n := 76) (z := (3 : Int32)) dCN_75 rfl rfl ?_
          refine WP.caload (n := 77) (v := .int c3) dCN_76 B ⟨by decide, by decide⟩ rfl rfl ?_
          refine WP.bipush (n := 79) (z := (10 : Int32)) dCN_77 (by decide) rfl ?_
          refine WP.icmp_ne (n := 85) (n' := 82) dCN_79 (by decide) (by decide) rfl (fun b141 => ?_) (fun b141 => ?_)
          · refine WP.iloadN (n := 86) dCN_85 rfl rfl ?_
            exact WP.retI dCN_86 rfl (by decide) (by decide) ⟨by show some (Value.int (3 : Int32)) = some (Value.int ((if c0 = 10 then 1 else 0) + ((if c1 = 10 then 1 else 0) + ((if c2 = 10 then 1 else 0) + ((if c3 = 10 then 1 else 0) + 0))))); rw [if_pos b127, if_pos b135, if_pos b139, if_neg b141] <;> decide, rfl⟩
          · refine WP.iinc (n := 85) (z := (4 : Int32)) (Ls' := #[.val (.ref c), .val (.int (0 : Int32)), .val (.int (4 : Int32)), .val (.int (4 : Int32))]) dCN_82 rfl (by decide) rfl rfl ?_
            refine WP.iloadN (n := 86) dCN_85 rfl rfl ?_
            exact WP.retI dCN_86 rfl (by decide) (by decide) ⟨by show some (Value.int (4 : Int32)) = some (Value.int ((if c0 = 10 then 1 else 0) + ((if c1 = 10 then 1 else 0) + ((if c2 = 10 then 1 else 0) + ((if c3 = 10 then 1 else 0) + 0))))); rw [if_pos b127, if_pos b135, if_pos b139, if_pos b141] <;> decide, rfl⟩
  · refine WP.iconst (n := 1) (z := (0 : Int32)) dCN_0 rfl rfl ?_
    refine WP.istoreN (n := 2) (Ls' := #[.val (.ref c), .val (.int (1 : Int32)), .val (.int (4 : Int32)), .val (.int (0 : Int32))]) dCN_1 rfl rfl ?_
    refine WP.iloadN (n := 3) dCN_2 rfl rfl ?_
    refine WP.ifcY (n := 22) dCN_3 (by decide) (by decide) (by decide) ?_
    refine WP.iloadN (n := 23) dCN_22 rfl rfl ?_
    refine WP.iconst (n := 24) (z := (1 : Int32)) dCN_23 rfl rfl ?_
    refine WP.icmpN (n' := 27) dCN_24 (by decide) rfl ?_
    refine WP.iconst (n := 28) (z := (1 : Int32)) dCN_27 rfl rfl ?_
    refine WP.iloadN (n := 29) dCN_28 rfl rfl ?_
    refine WP.icmpN (n' := 32) dCN_29 (by decide) rfl ?_
    refine WP.aloadN (n := 33) dCN_32 rfl rfl rfl ?_
    refine WP.iconst (n := 34) (z := (1 : Int32)) dCN_33 rfl rfl ?_
    refine WP.caload (n := 35) (v := .int c1) dCN_34 B ⟨by decide, by decide⟩ rfl rfl ?_
    refine WP.bipush (n := 37) (z := (10 : Int32)) dCN_35 (by decide) rfl ?_
    refine WP.icmp_ne (n := 43) (n' := 40) dCN_37 (by decide) (by decide) rfl (fun b142 => ?_) (fun b142 => ?_)
    · refine WP.iloadN (n := 44) dCN_43 rfl rfl ?_
      refine WP.iconst (n := 45) (z := (2 : Int32)) dCN_44 rfl rfl ?_
      refine WP.icmpN (n' := 48) dCN_45 (by decide) rfl ?_
      refine WP.iconst (n := 49) (z := (2 : Int32)) dCN_48 rfl rfl ?_
      refine WP.iloadN (n := 50) dCN_49 rfl rfl ?_
      refine WP.icmpN (n' := 53) dCN_50 (by decide) rfl ?_
      refine WP.aloadN (n := 54) dCN_53 rfl rfl rfl ?_
      refine WP.iconst (n := 55) (z := (2 : Int32)) dCN_54 rfl rfl ?_
      refine WP.caload (n := 56) (v := .int c2) dCN_55 B ⟨by decide, by decide⟩ rfl rfl ?_
      refine WP.bipush (n := 58) (z := (10 : Int32)) dCN_56 (by decide) rfl ?_
      refine WP.icmp_ne (n := 64) (n' := 61) dCN_58 (by decide) (by decide) rfl (fun b143 => ?_) (fun b143 => ?_)
      · refine WP.iloadN (n := 65) dCN_64 rfl rfl ?_
        refine WP.iconst (n := 66) (z := (3 : Int32)) dCN_65 rfl rfl ?_
        refine WP.icmpN (n' := 69) dCN_66 (by decide) rfl ?_
        refine WP.iconst (n := 70) (z := (3 : Int32)) dCN_69 rfl rfl ?_
        refine WP.iloadN (n := 71) dCN_70 rfl rfl ?_
        refine WP.icmpN (n' := 74) dCN_71 (by decide) rfl ?_
        refine WP.aloadN (n := 75) dCN_74 rfl rfl rfl ?_
        refine WP.iconst (n := 76) (z := (3 : Int32)) dCN_75 rfl rfl ?_
        refine WP.caload (n := 77) (v := .int c3) dCN_76 B ⟨by decide, by decide⟩ rfl rfl ?_
        refine WP.bipush (n := 79) (z := (10 : Int32)) dCN_77 (by decide) rfl ?_
        refine WP.icmp_ne (n := 85) (n' := 82) dCN_79 (by decide) (by decide) rfl (fun b144 => ?_) (fun b144 => ?_)
        · refine WP.iloadN (n := 86) dCN_85 rfl rfl ?_
          exact WP.retI dCN_86 rfl (by decide) (by decide) ⟨by show some (Value.int (0 : Int32)) = some (Value.int ((if c1 = 10 then 1 else 0) + ((if c2 = 10 then 1 else 0) + ((if c3 = 10 then 1 else 0) + 0)))); rw [if_neg b142, if_neg b143, if_neg b144] <;> decide, rfl⟩
        · refine WP.iinc (n := 85) (z := (1 : Int32)) (Ls' := #[.val (.ref c), .val (.int (1 : Int32)), .val (.int (4 : Int32)), .val (.int (1 : Int32))]) dCN_82 rfl (by decide) rfl rfl ?_
          refine WP.iloadN (n := 86) dCN_85 rfl rfl ?_
          exact WP.retI dCN_86 rfl (by decide) (by decide) ⟨by show some (Value.int (1 : Int32)) = some (Value.int ((if c1 = 10 then 1 else 0) + ((if c2 = 10 then 1 else 0) + ((if c3 = 10 then 1 else 0) + 0)))); rw [if_neg b142, if_neg b143, if_pos b144] <;> decide, rfl⟩
      · refine WP.iinc (n := 64) (z := (1 : Int32)) (Ls' := #[.val (.ref c), .val (.int (1 : Int32)), .val (.int (4 : Int32)), .val (.int (1 : Int32))]) dCN_61 rfl (by decide) rfl rfl ?_
        refine WP.iloadN (n := 65) dCN_64 rfl rfl ?_
        refine WP.iconst (n := 66) (z := (3 : Int32)) dCN_65 rfl rfl ?_
        refine WP.icmpN (n' := 69) dCN_66 (by decide) rfl ?_
        refine WP.iconst (n := 70) (z := (3 : Int32)) dCN_69 rfl rfl ?_
        refine WP.iloadN (n := 71) dCN_70 rfl rfl ?_
        refine WP.icmpN (n' := 74) dCN_71 (by decide) rfl ?_
        refine WP.aloadN (n := 75) dCN_74 rfl rfl rfl ?_
        refine WP.iconst (n := 76) (z := (3 : Int32)) dCN_75 rfl rfl ?_
        refine WP.caload (n := 77) (v := .int c3) dCN_76 B ⟨by decide, by decide⟩ rfl rfl ?_
        refine WP.bipush (n := 79) (z := (10 : Int32)) dCN_77 (by decide) rfl ?_
        refine WP.icmp_ne (n := 85) (n' := 82) dCN_79 (by decide) (by decide) rfl (fun b145 => ?_) (fun b145 => ?_)
        · refine WP.iloadN (n := 86) dCN_85 rfl rfl ?_
          exact WP.retI dCN_86 rfl (by decide) (by decide) ⟨by show some (Value.int (1 : Int32)) = some (Value.int ((if c1 = 10 then 1 else 0) + ((if c2 = 10 then 1 else 0) + ((if c3 = 10 then 1 else 0) + 0)))); rw [if_neg b142, if_pos b143, if_neg b145] <;> decide, rfl⟩
        · refine WP.iinc (n := 85) (z := (2 : Int32)) (Ls' := #[.val (.ref c), .val (.int (1 : Int32)), .val (.int (4 : Int32)), .val (.int (2 : Int32))]) dCN_82 rfl (by decide) rfl rfl ?_
          refine WP.iloadN (n := 86) dCN_85 rfl rfl ?_
          exact WP.retI dCN_86 rfl (by decide) (by decide) ⟨by show some (Value.int (2 : Int32)) = some (Value.int ((if c1 = 10 then 1 else 0) + ((if c2 = 10 then 1 else 0) + ((if c3 = 10 then 1 else 0) + 0)))); rw [if_neg b142, if_pos b143, if_pos b145] <;> decide, rfl⟩
    · refine WP.iinc (n := 43) (z := (1 : Int32)) (Ls' := #[.val (.ref c), .val (.int (1 : Int32)), .val (.int (4 : Int32)), .val (.int (1 : Int32))]) dCN_40 rfl (by decide) rfl rfl ?_
      refine WP.iloadN (n := 44) dCN_43 rfl rfl ?_
      refine WP.iconst (n := 45) (z := (2 : Int32)) dCN_44 rfl rfl ?_
      refine WP.icmpN (n' := 48) dCN_45 (by decide) rfl ?_
      refine WP.iconst (n := 49) (z := (2 : Int32)) dCN_48 rfl rfl ?_
      refine WP.iloadN (n := 50) dCN_49 rfl rfl ?_
      refine WP.icmpN (n' := 53) dCN_50 (by decide) rfl ?_
      refine WP.aloadN (n := 54) dCN_53 rfl rfl rfl ?_
      refine WP.iconst (n := 55) (z := (2 : Int32)) dCN_54 rfl rfl ?_
      refine WP.caload (n := 56) (v := .int c2) dCN_55 B ⟨by decide, by decide⟩ rfl rfl ?_
      refine WP.bipush (n := 58) (z := (10 : Int32)) dCN_56 (by decide) rfl ?_
      refine WP.icmp_ne (n := 64) (n' := 61) dCN_58 (by decide) (by decide) rfl (fun b146 => ?_) (fun b146 => ?_)
      · refine WP.iloadN (n := 65) dCN_64 rfl rfl ?_
        refine WP.iconst (n := 66) (z := (3 : Int32)) dCN_65 rfl rfl ?_
        refine WP.icmpN (n' := 69) dCN_66 (by decide) rfl ?_
        refine WP.iconst (n := 70) (z := (3 : Int32)) dCN_69 rfl rfl ?_
        refine WP.iloadN (n := 71) dCN_70 rfl rfl ?_
        refine WP.icmpN (n' := 74) dCN_71 (by decide) rfl ?_
        refine WP.aloadN (n := 75) dCN_74 rfl rfl rfl ?_
        refine WP.iconst (n := 76) (z := (3 : Int32)) dCN_75 rfl rfl ?_
        refine WP.caload (n := 77) (v := .int c3) dCN_76 B ⟨by decide, by decide⟩ rfl rfl ?_
        refine WP.bipush (n := 79) (z := (10 : Int32)) dCN_77 (by decide) rfl ?_
        refine WP.icmp_ne (n := 85) (n' := 82) dCN_79 (by decide) (by decide) rfl (fun b147 => ?_) (fun b147 => ?_)
        · refine WP.iloadN (n := 86) dCN_85 rfl rfl ?_
          exact WP.retI dCN_86 rfl (by decide) (by decide) ⟨by show some (Value.int (1 : Int32)) = some (Value.int ((if c1 = 10 then 1 else 0) + ((if c2 = 10 then 1 else 0) + ((if c3 = 10 then 1 else 0) + 0)))); rw [if_pos b142, if_neg b146, if_neg b147] <;> decide, rfl⟩
        · refine WP.iinc (n := 85) (z := (2 : Int32)) (Ls' := #[.val (.ref c), .val (.int (1 : Int32)), .val (.int (4 : Int32)), .val (.int (2 : Int32))]) dCN_82 rfl (by decide) rfl rfl ?_
          refine WP.iloadN (n := 86) dCN_85 rfl rfl ?_
          exact WP.retI dCN_86 rfl (by decide) (by decide) ⟨by show some (Value.int (2 : Int32)) = some (Value.int ((if c1 = 10 then 1 else 0) + ((if c2 = 10 then 1 else 0) + ((if c3 = 10 then 1 else 0) + 0)))); rw [if_pos b142, if_neg b146, if_pos b147] <;> decide, rfl⟩
      · refine WP.iinc (n := 64) (z := (2 : Int32)) (Ls' := #[.val (.ref c), .val (.int (1 : Int32)), .val (.int (4 : Int32)), .val (.int (2 : Int32))]) dCN_61 rfl (by decide) rfl rfl ?_
        refine WP.iloadN (n := 65) dCN_64 rfl rfl ?_
        refine WP.iconst (n := 66) (z := (3 : Int32)) dCN_65 rfl rfl ?_
        refine WP.icmpN (n' := 69) dCN_66 (by decide) rfl ?_
        refine WP.iconst (n := 70) (z := (3 : Int32)) dCN_69 rfl rfl ?_
        refine WP.iloadN (n := 71) dCN_70 rfl rfl ?_
        refine WP.icmpN (n' := 74) dCN_71 (by decide) rfl ?_
        refine WP.aloadN (n := 75) dCN_74 rfl rfl rfl ?_
        refine WP.iconst (n := 76) (z := (3 : Int32)) dCN_75 rfl rfl ?_
        refine WP.caload (n := 77) (v := .int c3) dCN_76 B ⟨by decide, by decide⟩ rfl rfl ?_
        refine WP.bipush (n := 79) (z := (10 : Int32)) dCN_77 (by decide) rfl ?_
        refine WP.icmp_ne (n := 85) (n' := 82) dCN_79 (by decide) (by decide) rfl (fun b148 => ?_) (fun b148 => ?_)
        · refine WP.iloadN (n := 86) dCN_85 rfl rfl ?_
          exact WP.retI dCN_86 rfl (by decide) (by decide) ⟨by show some (Value.int (2 : Int32)) = some (Value.int ((if c1 = 10 then 1 else 0) + ((if c2 = 10 then 1 else 0) + ((if c3 = 10 then 1 else 0) + 0)))); rw [if_pos b142, if_pos b146, if_neg b148] <;> decide, rfl⟩
        · refine WP.iinc (n := 85) (z := (3 : Int32)) (Ls' := #[.val (.ref c), .val (.int (1 : Int32)), .val (.int (4 : Int32)), .val (.int (3 : Int32))]) dCN_82 rfl (by decide) rfl rfl ?_
          refine WP.iloadN (n := 86) dCN_85 rfl rfl ?_
          exact WP.retI dCN_86 rfl (by decide) (by decide) ⟨by show some (Value.int (3 : Int32)) = some (Value.int ((if c1 = 10 then 1 else 0) + ((if c2 = 10 then 1 else 0) + ((if c3 = 10 then 1 else 0) + 0)))); rw [if_pos b142, if_pos b146, if_pos b148] <;> decide, rfl⟩
  · refine WP.iconst (n := 1) (z := (0 : Int32)) dCN_0 rfl rfl ?_
    refine WP.istoreN (n := 2) (Ls' := #[.val (.ref c), .val (.int (2 : Int32)), .val (.int (4 : Int32)), .val (.int (0 : Int32))]) dCN_1 rfl rfl ?_
    refine WP.iloadN (n := 3) dCN_2 rfl rfl ?_
    refine WP.ifcY (n := 22) dCN_3 (by decide) (by decide) (by decide) ?_
    refine WP.iloadN (n := 23) dCN_22 rfl rfl ?_
    refine WP.iconst (n := 24) (z := (1 : Int32)) dCN_23 rfl rfl ?_
    refine WP.icmpY (n := 43) dCN_24 (by decide) (by decide) (by decide) ?_
    refine WP.iloadN (n := 44) dCN_43 rfl rfl ?_
    refine WP.iconst (n := 45) (z := (2 : Int32)) dCN_44 rfl rfl ?_
    refine WP.icmpN (n' := 48) dCN_45 (by decide) rfl ?_
    refine WP.iconst (n := 49) (z := (2 : Int32)) dCN_48 rfl rfl ?_
    refine WP.iloadN (n := 50) dCN_49 rfl rfl ?_
    refine WP.icmpN (n' := 53) dCN_50 (by decide) rfl ?_
    refine WP.aloadN (n := 54) dCN_53 rfl rfl rfl ?_
    refine WP.iconst (n := 55) (z := (2 : Int32)) dCN_54 rfl rfl ?_
    refine WP.caload (n := 56) (v := .int c2) dCN_55 B ⟨by decide, by decide⟩ rfl rfl ?_
    refine WP.bipush (n := 58) (z := (10 : Int32)) dCN_56 (by decide) rfl ?_
    refine WP.icmp_ne (n := 64) (n' := 61) dCN_58 (by decide) (by decide) rfl (fun b149 => ?_) (fun b149 => ?_)
    · refine WP.iloadN (n := 65) dCN_64 rfl rfl ?_
      refine WP.iconst (n := 66) (z := (3 : Int32)) dCN_65 rfl rfl ?_
      refine WP.icmpN (n' := 69) dCN_66 (by decide) rfl ?_
      refine WP.iconst (n := 70) (z := (3 : Int32)) dCN_69 rfl rfl ?_
      refine WP.iloadN (n := 71) dCN_70 rfl rfl ?_
      refine WP.icmpN (n' := 74) dCN_71 (by decide) rfl ?_
      refine WP.aloadN (n := 75) dCN_74 rfl rfl rfl ?_
      refine WP.iconst (n := 76) (z := (3 : Int32)) dCN_75 rfl rfl ?_
      refine WP.caload (n := 77) (v := .int c3) dCN_76 B ⟨by decide, by decide⟩ rfl rfl ?_
      refine WP.bipush (n := 79) (z := (10 : Int32)) dCN_77 (by decide) rfl ?_
      refine WP.icmp_ne (n := 85) (n' := 82) dCN_79 (by decide) (by decide) rfl (fun b150 => ?_) (fun b150 => ?_)
      · refine WP.iloadN (n := 86) dCN_85 rfl rfl ?_
        exact WP.retI dCN_86 rfl (by decide) (by decide) ⟨by show some (Value.int (0 : Int32)) = some (Value.int ((if c2 = 10 then 1 else 0) + ((if c3 = 10 then 1 else 0) + 0))); rw [if_neg b149, if_neg b150] <;> decide, rfl⟩
      · refine WP.iinc (n := 85) (z := (1 : Int32)) (Ls' := #[.val (.ref c), .val (.int (2 : Int32)), .val (.int (4 : Int32)), .val (.int (1 : Int32))]) dCN_82 rfl (by decide) rfl rfl ?_
        refine WP.iloadN (n := 86) dCN_85 rfl rfl ?_
        exact WP.retI dCN_86 rfl (by decide) (by decide) ⟨by show some (Value.int (1 : Int32)) = some (Value.int ((if c2 = 10 then 1 else 0) + ((if c3 = 10 then 1 else 0) + 0))); rw [if_neg b149, if_pos b150] <;> decide, rfl⟩
    · refine WP.iinc (n := 64) (z := (1 : Int32)) (Ls' := #[.val (.ref c), .val (.int (2 : Int32)), .val (.int (4 : Int32)), .val (.int (1 : Int32))]) dCN_61 rfl (by decide) rfl rfl ?_
      refine WP.iloadN (n := 65) dCN_64 rfl rfl ?_
      refine WP.iconst (n := 66) (z := (3 : Int32)) dCN_65 rfl rfl ?_
      refine WP.icmpN (n' := 69) dCN_66 (by decide) rfl ?_
      refine WP.iconst (n := 70) (z := (3 : Int32)) dCN_69 rfl rfl ?_
      refine WP.iloadN (n := 71) dCN_70 rfl rfl ?_
      refine WP.icmpN (n' := 74) dCN_71 (by decide) rfl ?_
      refine WP.aloadN (n := 75) dCN_74 rfl rfl rfl ?_
      refine WP.iconst (n := 76) (z := (3 : Int32)) dCN_75 rfl rfl ?_
      refine WP.caload (n := 77) (v := .int c3) dCN_76 B ⟨by decide, by decide⟩ rfl rfl ?_
      refine WP.bipush (n := 79) (z := (10 : Int32)) dCN_77 (by decide) rfl ?_
      refine WP.icmp_ne (n := 85) (n' := 82) dCN_79 (by decide) (by decide) rfl (fun b151 => ?_) (fun b151 => ?_)
      · refine WP.iloadN (n := 86) dCN_85 rfl rfl ?_
        exact WP.retI dCN_86 rfl (by decide) (by decide) ⟨by show some (Value.int (1 : Int32)) = some (Value.int ((if c2 = 10 then 1 else 0) + ((if c3 = 10 then 1 else 0) + 0))); rw [if_pos b149, if_neg b151] <;> decide, rfl⟩
      · refine WP.iinc (n := 85) (z := (2 : Int32)) (Ls' := #[.val (.ref c), .val (.int (2 : Int32)), .val (.int (4 : Int32)), .val (.int (2 : Int32))]) dCN_82 rfl (by decide) rfl rfl ?_
        refine WP.iloadN (n := 86) dCN_85 rfl rfl ?_
        exact WP.retI dCN_86 rfl (by decide) (by decide) ⟨by show some (Value.int (2 : Int32)) = some (Value.int ((if c2 = 10 then 1 else 0) + ((if c3 = 10 then 1 else 0) + 0))); rw [if_pos b149, if_pos b151] <;> decide, rfl⟩
  · refine WP.iconst (n := 1) (z := (0 : Int32)) dCN_0 rfl rfl ?_
    refine WP.istoreN (n := 2) (Ls' := #[.val (.ref c), .val (.int (3 : Int32)), .val (.int (4 : Int32)), .val (.int (0 : Int32))]) dCN_1 rfl rfl ?_
    refine WP.iloadN (n := 3) dCN_2 rfl rfl ?_
    refine WP.ifcY (n := 22) dCN_3 (by decide) (by decide) (by decide) ?_
    refine WP.iloadN (n := 23) dCN_22 rfl rfl ?_
    refine WP.iconst (n := 24) (z := (1 : Int32)) dCN_23 rfl rfl ?_
    refine WP.icmpY (n := 43) dCN_24 (by decide) (by decide) (by decide) ?_
    refine WP.iloadN (n := 44) dCN_43 rfl rfl ?_
    refine WP.iconst (n := 45) (z := (2 : Int32)) dCN_44 rfl rfl ?_
    refine WP.icmpY (n := 64) dCN_45 (by decide) (by decide) (by decide) ?_
    refine WP.iloadN (n := 65) dCN_64 rfl rfl ?_
    refine WP.iconst (n := 66) (z := (3 : Int32)) dCN_65 rfl rfl ?_
    refine WP.icmpN (n' := 69) dCN_66 (by decide) rfl ?_
    refine WP.iconst (n := 70) (z := (3 : Int32)) dCN_69 rfl rfl ?_
    refine WP.iloadN (n := 71) dCN_70 rfl rfl ?_
    refine WP.icmpN (n' := 74) dCN_71 (by decide) rfl ?_
    refine WP.aloadN (n := 75) dCN_74 rfl rfl rfl ?_
    refine WP.iconst (n := 76) (z := (3 : Int32)) dCN_75 rfl rfl ?_
    refine WP.caload (n := 77) (v := .int c3) dCN_76 B ⟨by decide, by decide⟩ rfl rfl ?_
    refine WP.bipush (n := 79) (z := (10 : Int32)) dCN_77 (by decide) rfl ?_
    refine WP.icmp_ne (n := 85) (n' := 82) dCN_79 (by decide) (by decide) rfl (fun b152 => ?_) (fun b152 => ?_)
    · refine WP.iloadN (n := 86) dCN_85 rfl rfl ?_
      exact WP.retI dCN_86 rfl (by decide) (by decide) ⟨by show some (Value.int (0 : Int32)) = some (Value.int ((if c3 = 10 then 1 else 0) + 0)); rw [if_neg b152] <;> decide, rfl⟩
    · refine WP.iinc (n := 85) (z := (1 : Int32)) (Ls' := #[.val (.ref c), .val (.int (3 : Int32)), .val (.int (4 : Int32)), .val (.int (1 : Int32))]) dCN_82 rfl (by decide) rfl rfl ?_
      refine WP.iloadN (n := 86) dCN_85 rfl rfl ?_
      exact WP.retI dCN_86 rfl (by decide) (by decide) ⟨by show some (Value.int (1 : Int32)) = some (Value.int ((if c3 = 10 then 1 else 0) + 0)); rw [if_pos b152] <;> decide, rfl⟩
theorem dSM_0 : decode method_6_code 0 = .ok (.aload_n 0, 1) := by decide +kernel
theorem dSM_1 : decode method_6_code 1 = .ok (.ifnonnull 5, 3) := by decide +kernel
theorem dSM_4 : decode method_6_code 4 = .ok (.iconst 0, 1) := by decide +kernel
theorem dSM_5 : decode method_6_code 5 = .ok (.ireturn, 1) := by decide +kernel
theorem dSM_6 : decode method_6_code 6 = .ok (.iload_n 3, 1) := by decide +kernel
theorem dSM_7 : decode method_6_code 7 = .ok (.iload_n 2, 1) := by decide +kernel
theorem dSM_8 : decode method_6_code 8 = .ok (.isub, 1) := by decide +kernel
theorem dSM_9 : decode method_6_code 9 = .ok (.istore 4, 2) := by decide +kernel
theorem dSM_11 : decode method_6_code 11 = .ok (.aload_n 0, 1) := by decide +kernel
theorem dSM_12 : decode method_6_code 12 = .ok (.invokevirtual 12, 3) := by decide +kernel
theorem dSM_15 : decode method_6_code 15 = .ok (.iload 4, 2) := by decide +kernel
theorem dSM_17 : decode method_6_code 17 = .ok (.if_icmp .eq 5, 3) := by decide +kernel
theorem dSM_20 : decode method_6_code 20 = .ok (.iconst 0, 1) := by decide +kernel
theorem dSM_21 : decode method_6_code 21 = .ok (.ireturn, 1) := by decide +kernel
theorem dSM_22 : decode method_6_code 22 = .ok (.iload 4, 2) := by decide +kernel
theorem dSM_24 : decode method_6_code 24 = .ok (.ifCond .le 16, 3) := by decide +kernel
theorem dSM_27 : decode method_6_code 27 = .ok (.aload_n 0, 1) := by decide +kernel
theorem dSM_28 : decode method_6_code 28 = .ok (.iconst 0, 1) := by decide +kernel
theorem dSM_29 : decode method_6_code 29 = .ok (.invokevirtual 16, 3) := by decide +kernel
theorem dSM_32 : decode method_6_code 32 = .ok (.aload_n 1, 1) := by decide +kernel
theorem dSM_33 : decode method_6_code 33 = .ok (.iload_n 2, 1) := by decide +kernel
theorem dSM_34 : decode method_6_code 34 = .ok (.caload, 1) := by decide +kernel
theorem dSM_35 : decode method_6_code 35 = .ok (.if_icmp .eq 5, 3) := by decide +kernel
theorem dSM_38 : decode method_6_code 38 = .ok (.iconst 0, 1) := by decide +kernel
theorem dSM_39 : decode method_6_code 39 = .ok (.ireturn, 1) := by decide +kernel
theorem dSM_40 : decode method_6_code 40 = .ok (.iload 4, 2) := by decide +kernel
theorem dSM_42 : decode method_6_code 42 = .ok (.iconst 1, 1) := by decide +kernel
theorem dSM_43 : decode method_6_code 43 = .ok (.if_icmp .le 18, 3) := by decide +kernel
theorem dSM_46 : decode method_6_code 46 = .ok (.aload_n 0, 1) := by decide +kernel
theorem dSM_47 : decode method_6_code 47 = .ok (.iconst 1, 1) := by decide +kernel
theorem dSM_48 : decode method_6_code 48 = .ok (.invokevirtual 16, 3) := by decide +kernel
theorem dSM_51 : decode method_6_code 51 = .ok (.aload_n 1, 1) := by decide +kernel
theorem dSM_52 : decode method_6_code 52 = .ok (.iload_n 2, 1) := by decide +kernel
theorem dSM_53 : decode method_6_code 53 = .ok (.iconst 1, 1) := by decide +kernel
theorem dSM_54 : decode method_6_code 54 = .ok (.iadd, 1) := by decide +kernel
theorem dSM_55 : decode method_6_code 55 = .ok (.caload, 1) := by decide +kernel
theorem dSM_56 : decode method_6_code 56 = .ok (.if_icmp .eq 5, 3) := by decide +kernel
theorem dSM_59 : decode method_6_code 59 = .ok (.iconst 0, 1) := by decide +kernel
theorem dSM_60 : decode method_6_code 60 = .ok (.ireturn, 1) := by decide +kernel
theorem dSM_61 : decode method_6_code 61 = .ok (.iload 4, 2) := by decide +kernel
theorem dSM_63 : decode method_6_code 63 = .ok (.iconst 2, 1) := by decide +kernel
theorem dSM_64 : decode method_6_code 64 = .ok (.if_icmp .le 18, 3) := by decide +kernel
theorem dSM_67 : decode method_6_code 67 = .ok (.aload_n 0, 1) := by decide +kernel
theorem dSM_68 : decode method_6_code 68 = .ok (.iconst 2, 1) := by decide +kernel
theorem dSM_69 : decode method_6_code 69 = .ok (.invokevirtual 16, 3) := by decide +kernel
theorem dSM_72 : decode method_6_code 72 = .ok (.aload_n 1, 1) := by decide +kernel
theorem dSM_73 : decode method_6_code 73 = .ok (.iload_n 2, 1) := by decide +kernel
theorem dSM_74 : decode method_6_code 74 = .ok (.iconst 2, 1) := by decide +kernel
theorem dSM_75 : decode method_6_code 75 = .ok (.iadd, 1) := by decide +kernel
theorem dSM_76 : decode method_6_code 76 = .ok (.caload, 1) := by decide +kernel
theorem dSM_77 : decode method_6_code 77 = .ok (.if_icmp .eq 5, 3) := by decide +kernel
theorem dSM_80 : decode method_6_code 80 = .ok (.iconst 0, 1) := by decide +kernel
theorem dSM_81 : decode method_6_code 81 = .ok (.ireturn, 1) := by decide +kernel
theorem dSM_82 : decode method_6_code 82 = .ok (.iload 4, 2) := by decide +kernel
theorem dSM_84 : decode method_6_code 84 = .ok (.iconst 3, 1) := by decide +kernel
theorem dSM_85 : decode method_6_code 85 = .ok (.if_icmp .le 18, 3) := by decide +kernel
theorem dSM_88 : decode method_6_code 88 = .ok (.aload_n 0, 1) := by decide +kernel
theorem dSM_89 : decode method_6_code 89 = .ok (.iconst 3, 1) := by decide +kernel
theorem dSM_90 : decode method_6_code 90 = .ok (.invokevirtual 16, 3) := by decide +kernel
theorem dSM_93 : decode method_6_code 93 = .ok (.aload_n 1, 1) := by decide +kernel
theorem dSM_94 : decode method_6_code 94 = .ok (.iload_n 2, 1) := by decide +kernel
theorem dSM_95 : decode method_6_code 95 = .ok (.iconst 3, 1) := by decide +kernel
theorem dSM_96 : decode method_6_code 96 = .ok (.iadd, 1) := by decide +kernel
theorem dSM_97 : decode method_6_code 97 = .ok (.caload, 1) := by decide +kernel
theorem dSM_98 : decode method_6_code 98 = .ok (.if_icmp .eq 5, 3) := by decide +kernel
theorem dSM_101 : decode method_6_code 101 = .ok (.iconst 0, 1) := by decide +kernel
theorem dSM_102 : decode method_6_code 102 = .ok (.ireturn, 1) := by decide +kernel
theorem dSM_103 : decode method_6_code 103 = .ok (.iconst 1, 1) := by decide +kernel
theorem dSM_104 : decode method_6_code 104 = .ok (.ireturn, 1) := by decide +kernel
set_option maxRecDepth 65536 in
set_option maxHeartbeats 40000000 in
theorem own_sm (l : Launch) (Z : State) (a0 : Array Value) (hw : ∀ d ∈ tables_1, d.before a0 Z = true) (EL : List (String × Nat)) (hEL : EW Z a0 EL) (h0 : Heap) (c : Addr) (kc : ClassId) (c0 c1 c2 c3 : Int32) (B : Arv Z h0 c kc .char 4 ([c0, c1, c2, c3].map Value.int) (.int 0)) (cs : List Int32) (hcs : ∀ k, k < cs.length → cs.getD k 0 = [c0, c1, c2, c3].getD k 0) (hl : cs.length ≤ 4) (f t : Nat) (hft : f ≤ t) (ht : t ≤ cs.length) (g : Addr) (G : SC Z h0 g ((cs.drop f).take (t - f))) (fv : Value) (hv : fv.isRef = true) (Fm : Sta Z Z.heap "jdk/internal/util/Preconditions" "SIOOBE_FORMATTER" "Ljava/util/function/BiFunction;" fv) (cz : Int32) (O : Sta Z Z.heap "java/lang/String" "COMPACT_STRINGS" "Z" (.int cz)) (hO : ¬ cz = 0) :
    Con l Z EL false [] (⟨"com/example/fionn/fionn/io/SgmlScannerNextPinLaw", "same", "(Ljava/lang/String;[CII)Z"⟩ : MethodName) method_6_code 5 (some .boolean) ({ frames := 4, cells := 0, slots := 0, locals := 80 } : Room) #[(.ref g), (.ref c), (.int (Int32.ofNat f)), (.int (Int32.ofNat t))] h0 (fun v h' => v = some (.int 1) ∧ h0 = h') := by
  refine Con.of (Ls := #[.val (.ref g), .val (.ref c), .val (.int (Int32.ofNat f)), .val (.int (Int32.ofNat t)), .unset]) (plainFor_of_name own_pn6) hEL (fun m => by first | (simp [entryFrame, mkF, argsToLocals, Value.category]; done) | rfl) ?_
  intro vm0 hZ0 hE0 hC0 hS0
  have hsl : ((cs.drop f).take (t - f)).length = t - f := by simp; omega
  refine WP.aloadN (n := 1) dSM_0 rfl rfl rfl ?_
  refine WP.ifnonnullY (n := 6) dSM_1 (by decide) (by decide) ?_
  refine WP.iloadN (n := 7) dSM_6 rfl rfl ?_
  refine WP.iloadN (n := 8) dSM_7 rfl rfl ?_
  refine WP.isub (n := 9) dSM_8  rfl ?_
  rw [own_subN (by omega) hft]
  refine WP.istore (n := 11) (Ls' := #[.val (.ref g), .val (.ref c), .val (.int (Int32.ofNat f)), .val (.int (Int32.ofNat t)), .val (.int (Int32.ofNat (t - f)))]) dSM_9 rfl rfl ?_
  refine WP.aloadN (n := 12) dSM_11 rfl rfl rfl ?_
  refine WP.callV (n := 15) (ce' := 0) (sl' := 0) (Wd := 0) (a := g) (argsL := []) (rest := []) (own_len l Z a0 hw EL hEL h0 g (((cs.drop f).take (t - f)).map own_b) G.1 cz O hO) G.1.1 dSM_12 (hw _ (List.mem_of_getElem? (i := 156) rfl)) (hw _ (List.mem_of_getElem? (i := 59) rfl)) (hw _ (List.mem_of_getElem? (i := 61) rfl)) (hw _ (List.mem_of_getElem? (i := 60) rfl)) (hw _ (List.mem_of_getElem? (i := 11) rfl)) (hw _ (List.mem_of_getElem? (i := 62) rfl)) (by decide) (fun _ hz => notFace_of_selects (args := #[]) (mvT hz (hw _ (List.mem_of_getElem? (i := 61) rfl)))) (fun _ q => nomatch q) (by decide) (by decide) rfl rfl (by decide) (by decide) rfl rfl (lenOf own_pd10 rfl) rfl (Nat.le_of_eq rfl) rfl (fun v153 vm153 h153 q153 r153 => ?_)
  obtain ⟨rfl, rfl⟩ := q153
  rw [List.length_map, hsl]
  refine WP.iload (n := 17) dSM_15 rfl rfl ?_
  refine WP.icmpY (n := 22) dSM_17 (teq rfl).1 (by decide) (by decide) ?_
  refine WP.iload (n := 24) dSM_22 rfl rfl ?_
  by_cases hi0 : 0 < t - f
  · refine WP.ifcN (n' := 27) dSM_24 ((if0 _ _).trans (tlt (own_lit0 (m := t - f) (by omega) 0 (by omega) hi0)).2.2.2) rfl ?_
    refine WP.aloadN (n := 28) dSM_27 rfl rfl rfl ?_
    refine WP.iconst (n := 29) (z := (0 : Int32)) dSM_28 rfl rfl ?_
    refine WP.callV (n := 32) (ce' := 0) (sl' := 0) (Wd := 0) (a := g) (argsL := [(.int (0 : Int32))]) (rest := []) (own_ca l Z a0 hw EL hEL h0 g ((cs.drop f).take (t - f)) G 0 (by rw [hsl]; exact hi0) fv hv Fm cz O hO) G.1.1 dSM_29 (hw _ (List.mem_of_getElem? (i := 157) rfl)) (hw _ (List.mem_of_getElem? (i := 82) rfl)) (hw _ (List.mem_of_getElem? (i := 84) rfl)) (hw _ (List.mem_of_getElem? (i := 83) rfl)) (hw _ (List.mem_of_getElem? (i := 11) rfl)) (hw _ (List.mem_of_getElem? (i := 85) rfl)) (by decide) (fun _ hz => notFace_of_selects (args := #[]) (mvT hz (hw _ (List.mem_of_getElem? (i := 84) rfl)))) (fun _ q => nomatch q) (by decide) (by decide) rfl rfl (by decide) (by decide) rfl rfl (lenOf own_pd16 rfl) rfl (Nat.le_of_eq rfl) rfl (fun v154 vm154 h154 q154 r154 => ?_)
    obtain ⟨rfl, rfl⟩ := q154
    rw [own_subget hi0 ht _, hcs (f + 0) (by omega)]
    refine WP.aloadN (n := 33) dSM_32 rfl rfl rfl ?_
    refine WP.iloadN (n := 34) dSM_33 rfl rfl ?_
    show WP l Z EL false _ _ _ _ _ _ _ _ _ _ _ _ _ (.int (Int32.ofNat (f + 0)) :: _)
    refine WP.caload (n := 35) (v := .int ([c0, c1, c2, c3].getD (f + 0) 0)) dSM_34 B ⟨own_nn (by omega), own_lit0 (m := 4) (by omega) (f + 0) (by omega) (by omega)⟩ (by rw [own_clamp (by omega)]; exact own_mapget (by show f + 0 < 4; omega)) rfl ?_
    refine WP.icmpY (n := 40) dSM_35 (teq rfl).1 (by decide) (by decide) ?_
    refine WP.iload (n := 42) dSM_40 rfl rfl ?_
    refine WP.iconst (n := 43) (z := (1 : Int32)) dSM_42 rfl rfl ?_
    by_cases hi1 : 1 < t - f
    · refine WP.icmpN (n' := 46) dSM_43 (tlt (own_lit0 (m := t - f) (by omega) 1 (by omega) hi1)).2.2.2 rfl ?_
      refine WP.aloadN (n := 47) dSM_46 rfl rfl rfl ?_
      refine WP.iconst (n := 48) (z := (1 : Int32)) dSM_47 rfl rfl ?_
      refine WP.callV (n := 51) (ce' := 0) (sl' := 0) (Wd := 0) (a := g) (argsL := [(.int (1 : Int32))]) (rest := []) (own_ca l Z a0 hw EL hEL h0 g ((cs.drop f).take (t - f)) G 1 (by rw [hsl]; exact hi1) fv hv Fm cz O hO) G.1.1 dSM_48 (hw _ (List.mem_of_getElem? (i := 157) rfl)) (hw _ (List.mem_of_getElem? (i := 82) rfl)) (hw _ (List.mem_of_getElem? (i := 84) rfl)) (hw _ (List.mem_of_getElem? (i := 83) rfl)) (hw _ (List.mem_of_getElem? (i := 11) rfl)) (hw _ (List.mem_of_getElem? (i := 85) rfl)) (by decide) (fun _ hz => notFace_of_selects (args := #[]) (mvT hz (hw _ (List.mem_of_getElem? (i := 84) rfl)))) (fun _ q => nomatch q) (by decide) (by decide) rfl rfl (by decide) (by decide) rfl rfl (lenOf own_pd16 rfl) rfl (Nat.le_of_eq rfl) rfl (fun v155 vm155 h155 q155 r155 => ?_)
      obtain ⟨rfl, rfl⟩ := q155
      rw [own_subget hi1 ht _, hcs (f + 1) (by omega)]
      refine WP.aloadN (n := 52) dSM_51 rfl rfl rfl ?_
      refine WP.iloadN (n := 53) dSM_52 rfl rfl ?_
      refine WP.iconst (n := 54) (z := (1 : Int32)) dSM_53 rfl rfl ?_
      refine WP.iadd (n := 55) dSM_54  rfl ?_
      rw [show Int32.ofNat f + 1 = Int32.ofNat (f + 1) from own_addN (m := 1) (by omega)]
      refine WP.caload (n := 56) (v := .int ([c0, c1, c2, c3].getD (f + 1) 0)) dSM_55 B ⟨own_nn (by omega), own_lit0 (m := 4) (by omega) (f + 1) (by omega) (by omega)⟩ (by rw [own_clamp (by omega)]; exact own_mapget (by show f + 1 < 4; omega)) rfl ?_
      refine WP.icmpY (n := 61) dSM_56 (teq rfl).1 (by decide) (by decide) ?_
      refine WP.iload (n := 63) dSM_61 rfl rfl ?_
      refine WP.iconst (n := 64) (z := (2 : Int32)) dSM_63 rfl rfl ?_
      by_cases hi2 : 2 < t - f
      · refine WP.icmpN (n' := 67) dSM_64 (tlt (own_lit0 (m := t - f) (by omega) 2 (by omega) hi2)).2.2.2 rfl ?_
        refine WP.aloadN (n := 68) dSM_67 rfl rfl rfl ?_
        refine WP.iconst (n := 69) (z := (2 : Int32)) dSM_68 rfl rfl ?_
        refine WP.callV (n := 72) (ce' := 0) (sl' := 0) (Wd := 0) (a := g) (argsL := [(.int (2 : Int32))]) (rest := []) (own_ca l Z a0 hw EL hEL h0 g ((cs.drop f).take (t - f)) G 2 (by rw [hsl]; exact hi2) fv hv Fm cz O hO) G.1.1 dSM_69 (hw _ (List.mem_of_getElem? (i := 157) rfl)) (hw _ (List.mem_of_getElem? (i := 82) rfl)) (hw _ (List.mem_of_getElem? (i := 84) rfl)) (hw _ (List.mem_of_getElem? (i := 83) rfl)) (hw _ (List.mem_of_getElem? (i := 11) rfl)) (hw _ (List.mem_of_getElem? (i := 85) rfl)) (by decide) (fun _ hz => notFace_of_selects (args := #[]) (mvT hz (hw _ (List.mem_of_getElem? (i := 84) rfl)))) (fun _ q => nomatch q) (by decide) (by decide) rfl rfl (by decide) (by decide) rfl rfl (lenOf own_pd16 rfl) rfl (Nat.le_of_eq rfl) rfl (fun v156 vm156 h156 q156 r156 => ?_)
        obtain ⟨rfl, rfl⟩ := q156
        rw [own_subget hi2 ht _, hcs (f + 2) (by omega)]
        refine WP.aloadN (n := 73) dSM_72 rfl rfl rfl ?_
        refine WP.iloadN (n := 74) dSM_73 rfl rfl ?_
        refine WP.iconst (n := 75) (z := (2 : Int32)) dSM_74 rfl rfl ?_
        refine WP.iadd (n := 76) dSM_75  rfl ?_
        rw [show Int32.ofNat f + 2 = Int32.ofNat (f + 2) from own_addN (m := 2) (by omega)]
        refine WP.caload (n := 77) (v := .int ([c0, c1, c2, c3].getD (f + 2) 0)) dSM_76 B ⟨own_nn (by omega), own_lit0 (m := 4) (by omega) (f + 2) (by omega) (by omega)⟩ (by rw [own_clamp (by omega)]; exact own_mapget (by show f + 2 < 4; omega)) rfl ?_
        refine WP.icmpY (n := 82) dSM_77 (teq rfl).1 (by decide) (by decide) ?_
        refine WP.iload (n := 84) dSM_82 rfl rfl ?_
        refine WP.iconst (n := 85) (z := (3 : Int32)) dSM_84 rfl rfl ?_
        by_cases hi3 : 3 < t - f
        · refine WP.icmpN (n' := 88) dSM_85 (tlt (own_lit0 (m := t - f) (by omega) 3 (by omega) hi3)).2.2.2 rfl ?_
          refine WP.aloadN (n := 89) dSM_88 rfl rfl rfl ?_
          refine WP.iconst (n := 90) (z := (3 : Int32)) dSM_89 rfl rfl ?_
          refine WP.callV (n := 93) (ce' := 0) (sl' := 0) (Wd := 0) (a := g) (argsL := [(.int (3 : Int32))]) (rest := []) (own_ca l Z a0 hw EL hEL h0 g ((cs.drop f).take (t - f)) G 3 (by rw [hsl]; exact hi3) fv hv Fm cz O hO) G.1.1 dSM_90 (hw _ (List.mem_of_getElem? (i := 157) rfl)) (hw _ (List.mem_of_getElem? (i := 82) rfl)) (hw _ (List.mem_of_getElem? (i := 84) rfl)) (hw _ (List.mem_of_getElem? (i := 83) rfl)) (hw _ (List.mem_of_getElem? (i := 11) rfl)) (hw _ (List.mem_of_getElem? (i := 85) rfl)) (by decide) (fun _ hz => notFace_of_selects (args := #[]) (mvT hz (hw _ (List.mem_of_getElem? (i := 84) rfl)))) (fun _ q => nomatch q) (by decide) (by decide) rfl rfl (by decide) (by decide) rfl rfl (lenOf own_pd16 rfl) rfl (Nat.le_of_eq rfl) rfl (fun v157 vm157 h157 q157 r157 => ?_)
          obtain ⟨rfl, rfl⟩ := q157
          rw [own_subget hi3 ht _, hcs (f + 3) (by omega)]
          refine WP.aloadN (n := 94) dSM_93 rfl rfl rfl ?_
          refine WP.iloadN (n := 95) dSM_94 rfl rfl ?_
          refine WP.iconst (n := 96) (z := (3 : Int32)) dSM_95 rfl rfl ?_
          refine WP.iadd (n := 97) dSM_96  rfl ?_
          rw [show Int32.ofNat f + 3 = Int32.ofNat (f + 3) from own_addN (m := 3) (by omega)]
          refine WP.caload (n := 98) (v := .int ([c0, c1, c2, c3].getD (f + 3) 0)) dSM_97 B ⟨own_nn (by omega), own_lit0 (m := 4) (by omega) (f + 3) (by omega) (by omega)⟩ (by rw [own_clamp (by omega)]; exact own_mapget (by show f + 3 < 4; omega)) rfl ?_
          refine WP.icmpY (n := 103) dSM_98 (teq rfl).1 (by decide) (by decide) ?_
          refine WP.iconst (n := 104) (z := (1 : Int32)) dSM_103 rfl rfl ?_
          exact WP.retN dSM_104 rfl (Or.inl rfl) (by decide : nar .boolean 1 = 1) (by decide) (by decide) ⟨rfl, rfl⟩
        · refine WP.icmpY (n := 103) dSM_85 (flt (own_lit1 (m := t - f) (by omega) 3 (by omega) hi3)).2.2.2 (by decide) (by decide) ?_
          refine WP.iconst (n := 104) (z := (1 : Int32)) dSM_103 rfl rfl ?_
          exact WP.retN dSM_104 rfl (Or.inl rfl) (by decide : nar .boolean 1 = 1) (by decide) (by decide) ⟨rfl, rfl⟩
      · refine WP.icmpY (n := 82) dSM_64 (flt (own_lit1 (m := t - f) (by omega) 2 (by omega) hi2)).2.2.2 (by decide) (by decide) ?_
        refine WP.iload (n := 84) dSM_82 rfl rfl ?_
        refine WP.iconst (n := 85) (z := (3 : Int32)) dSM_84 rfl rfl ?_
        refine WP.icmpY (n := 103) dSM_85 (flt (own_lit1 (m := t - f) (by omega) 3 (by omega) (by omega))).2.2.2 (by decide) (by decide) ?_
        refine WP.iconst (n := 104) (z := (1 : Int32)) dSM_103 rfl rfl ?_
        exact WP.retN dSM_104 rfl (Or.inl rfl) (by decide : nar .boolean 1 = 1) (by decide) (by decide) ⟨rfl, rfl⟩
    · refine WP.icmpY (n := 61) dSM_43 (flt (own_lit1 (m := t - f) (by omega) 1 (by omega) hi1)).2.2.2 (by decide) (by decide) ?_
      refine WP.iload (n := 63) dSM_61 rfl rfl ?_
      refine WP.iconst (n := 64) (z := (2 : Int32)) dSM_63 rfl rfl ?_
      refine WP.icmpY (n := 82) dSM_64 (flt (own_lit1 (m := t - f) (by omega) 2 (by omega) (by omega))).2.2.2 (by decide) (by decide) ?_
      refine WP.iload (n := 84) dSM_82 rfl rfl ?_
      refine WP.iconst (n := 85) (z := (3 : Int32)) dSM_84 rfl rfl ?_
      refine WP.icmpY (n := 103) dSM_85 (flt (own_lit1 (m := t - f) (by omega) 3 (by omega) (by omega))).2.2.2 (by decide) (by decide) ?_
      refine WP.iconst (n := 104) (z := (1 : Int32)) dSM_103 rfl rfl ?_
      exact WP.retN dSM_104 rfl (Or.inl rfl) (by decide : nar .boolean 1 = 1) (by decide) (by decide) ⟨rfl, rfl⟩
  · refine WP.ifcY (n := 40) dSM_24 ((if0 _ _).trans (flt (own_lit1 (m := t - f) (by omega) 0 (by omega) hi0)).2.2.2) (by decide) (by decide) ?_
    refine WP.iload (n := 42) dSM_40 rfl rfl ?_
    refine WP.iconst (n := 43) (z := (1 : Int32)) dSM_42 rfl rfl ?_
    refine WP.icmpY (n := 61) dSM_43 (flt (own_lit1 (m := t - f) (by omega) 1 (by omega) (by omega))).2.2.2 (by decide) (by decide) ?_
    refine WP.iload (n := 63) dSM_61 rfl rfl ?_
    refine WP.iconst (n := 64) (z := (2 : Int32)) dSM_63 rfl rfl ?_
    refine WP.icmpY (n := 82) dSM_64 (flt (own_lit1 (m := t - f) (by omega) 2 (by omega) (by omega))).2.2.2 (by decide) (by decide) ?_
    refine WP.iload (n := 84) dSM_82 rfl rfl ?_
    refine WP.iconst (n := 85) (z := (3 : Int32)) dSM_84 rfl rfl ?_
    refine WP.icmpY (n := 103) dSM_85 (flt (own_lit1 (m := t - f) (by omega) 3 (by omega) (by omega))).2.2.2 (by decide) (by decide) ?_
    refine WP.iconst (n := 104) (z := (1 : Int32)) dSM_103 rfl rfl ?_
    exact WP.retN dSM_104 rfl (Or.inl rfl) (by decide : nar .boolean 1 = 1) (by decide) (by decide) ⟨rfl, rfl⟩
theorem dST_0 : decode method_7_code 0 = .ok (.aload_n 3, 1) := by decide +kernel
theorem dST_1 : decode method_7_code 1 = .ok (.iconst 0, 1) := by decide +kernel
theorem dST_2 : decode method_7_code 2 = .ok (.iaload, 1) := by decide +kernel
theorem dST_3 : decode method_7_code 3 = .ok (.istore 4, 2) := by decide +kernel
theorem dST_5 : decode method_7_code 5 = .ok (.aload_n 0, 1) := by decide +kernel
theorem dST_6 : decode method_7_code 6 = .ok (.invokevirtual 20, 3) := by decide +kernel
theorem dST_9 : decode method_7_code 9 = .ok (.istore 5, 2) := by decide +kernel
theorem dST_11 : decode method_7_code 11 = .ok (.iload 4, 2) := by decide +kernel
theorem dST_13 : decode method_7_code 13 = .ok (.iload_n 2, 1) := by decide +kernel
theorem dST_14 : decode method_7_code 14 = .ok (.if_icmp .lt 14, 3) := by decide +kernel
theorem dST_17 : decode method_7_code 17 = .ok (.iload 5, 2) := by decide +kernel
theorem dST_19 : decode method_7_code 19 = .ok (.ifCond .ne 7, 3) := by decide +kernel
theorem dST_22 : decode method_7_code 22 = .ok (.iconst 1, 1) := by decide +kernel
theorem dST_23 : decode method_7_code 23 = .ok (.goto 4, 3) := by decide +kernel
theorem dST_26 : decode method_7_code 26 = .ok (.iconst 0, 1) := by decide +kernel
theorem dST_27 : decode method_7_code 27 = .ok (.ireturn, 1) := by decide +kernel
theorem dST_28 : decode method_7_code 28 = .ok (.iload 5, 2) := by decide +kernel
theorem dST_30 : decode method_7_code 30 = .ok (.ifCond .ne 5, 3) := by decide +kernel
theorem dST_33 : decode method_7_code 33 = .ok (.iconst 0, 1) := by decide +kernel
theorem dST_34 : decode method_7_code 34 = .ok (.ireturn, 1) := by decide +kernel
theorem dST_35 : decode method_7_code 35 = .ok (.aload_n 3, 1) := by decide +kernel
theorem dST_36 : decode method_7_code 36 = .ok (.iconst 1, 1) := by decide +kernel
theorem dST_37 : decode method_7_code 37 = .ok (.iaload, 1) := by decide +kernel
theorem dST_38 : decode method_7_code 38 = .ok (.istore 6, 2) := by decide +kernel
theorem dST_40 : decode method_7_code 40 = .ok (.aload_n 1, 1) := by decide +kernel
theorem dST_41 : decode method_7_code 41 = .ok (.iload 4, 2) := by decide +kernel
theorem dST_43 : decode method_7_code 43 = .ok (.caload, 1) := by decide +kernel
theorem dST_44 : decode method_7_code 44 = .ok (.bipush 60, 2) := by decide +kernel
theorem dST_46 : decode method_7_code 46 = .ok (.if_icmp .ne 17, 3) := by decide +kernel
theorem dST_49 : decode method_7_code 49 = .ok (.aload_n 1, 1) := by decide +kernel
theorem dST_50 : decode method_7_code 50 = .ok (.iload_n 2, 1) := by decide +kernel
theorem dST_51 : decode method_7_code 51 = .ok (.iload 4, 2) := by decide +kernel
theorem dST_53 : decode method_7_code 53 = .ok (.iconst 1, 1) := by decide +kernel
theorem dST_54 : decode method_7_code 54 = .ok (.iadd, 1) := by decide +kernel
theorem dST_55 : decode method_7_code 55 = .ok (.bipush 62, 2) := by decide +kernel
theorem dST_57 : decode method_7_code 57 = .ok (.invokestatic 26, 3) := by decide +kernel
theorem dST_60 : decode method_7_code 60 = .ok (.goto 4, 3) := by decide +kernel
theorem dST_63 : decode method_7_code 63 = .ok (.iconst (-1), 1) := by decide +kernel
theorem dST_64 : decode method_7_code 64 = .ok (.istore 7, 2) := by decide +kernel
theorem dST_66 : decode method_7_code 66 = .ok (.iload 7, 2) := by decide +kernel
theorem dST_68 : decode method_7_code 68 = .ok (.ifCond .lt 25, 3) := by decide +kernel
theorem dST_71 : decode method_7_code 71 = .ok (.iconst 1, 1) := by decide +kernel
theorem dST_72 : decode method_7_code 72 = .ok (.istore 8, 2) := by decide +kernel
theorem dST_74 : decode method_7_code 74 = .ok (.iload 4, 2) := by decide +kernel
theorem dST_76 : decode method_7_code 76 = .ok (.iconst 1, 1) := by decide +kernel
theorem dST_77 : decode method_7_code 77 = .ok (.iadd, 1) := by decide +kernel
theorem dST_78 : decode method_7_code 78 = .ok (.istore 9, 2) := by decide +kernel
theorem dST_80 : decode method_7_code 80 = .ok (.iload 7, 2) := by decide +kernel
theorem dST_82 : decode method_7_code 82 = .ok (.istore 10, 2) := by decide +kernel
theorem dST_84 : decode method_7_code 84 = .ok (.iload 7, 2) := by decide +kernel
theorem dST_86 : decode method_7_code 86 = .ok (.iconst 1, 1) := by decide +kernel
theorem dST_87 : decode method_7_code 87 = .ok (.iadd, 1) := by decide +kernel
theorem dST_88 : decode method_7_code 88 = .ok (.istore 11, 2) := by decide +kernel
theorem dST_90 : decode method_7_code 90 = .ok (.goto 40, 3) := by decide +kernel
theorem dST_93 : decode method_7_code 93 = .ok (.iconst 0, 1) := by decide +kernel
theorem dST_94 : decode method_7_code 94 = .ok (.istore 8, 2) := by decide +kernel
theorem dST_96 : decode method_7_code 96 = .ok (.aload_n 1, 1) := by decide +kernel
theorem dST_97 : decode method_7_code 97 = .ok (.iload_n 2, 1) := by decide +kernel
theorem dST_98 : decode method_7_code 98 = .ok (.iload 4, 2) := by decide +kernel
theorem dST_100 : decode method_7_code 100 = .ok (.iconst 1, 1) := by decide +kernel
theorem dST_101 : decode method_7_code 101 = .ok (.iadd, 1) := by decide +kernel
theorem dST_102 : decode method_7_code 102 = .ok (.bipush 60, 2) := by decide +kernel
theorem dST_104 : decode method_7_code 104 = .ok (.invokestatic 26, 3) := by decide +kernel
theorem dST_107 : decode method_7_code 107 = .ok (.istore 12, 2) := by decide +kernel
theorem dST_109 : decode method_7_code 109 = .ok (.iload 12, 2) := by decide +kernel
theorem dST_111 : decode method_7_code 111 = .ok (.ifCond .ge 7, 3) := by decide +kernel
theorem dST_114 : decode method_7_code 114 = .ok (.iload_n 2, 1) := by decide +kernel
theorem dST_115 : decode method_7_code 115 = .ok (.goto 5, 3) := by decide +kernel
theorem dST_118 : decode method_7_code 118 = .ok (.iload 12, 2) := by decide +kernel
theorem dST_120 : decode method_7_code 120 = .ok (.istore 11, 2) := by decide +kernel
theorem dST_122 : decode method_7_code 122 = .ok (.iload 4, 2) := by decide +kernel
theorem dST_124 : decode method_7_code 124 = .ok (.istore 9, 2) := by decide +kernel
theorem dST_126 : decode method_7_code 126 = .ok (.iload 11, 2) := by decide +kernel
theorem dST_128 : decode method_7_code 128 = .ok (.istore 10, 2) := by decide +kernel
theorem dST_130 : decode method_7_code 130 = .ok (.aload_n 0, 1) := by decide +kernel
theorem dST_131 : decode method_7_code 131 = .ok (.invokevirtual 32, 3) := by decide +kernel
theorem dST_134 : decode method_7_code 134 = .ok (.iload 8, 2) := by decide +kernel
theorem dST_136 : decode method_7_code 136 = .ok (.if_icmp .ne 31, 3) := by decide +kernel
theorem dST_139 : decode method_7_code 139 = .ok (.aload_n 0, 1) := by decide +kernel
theorem dST_140 : decode method_7_code 140 = .ok (.invokevirtual 35, 3) := by decide +kernel
theorem dST_143 : decode method_7_code 143 = .ok (.aload_n 1, 1) := by decide +kernel
theorem dST_144 : decode method_7_code 144 = .ok (.iload 9, 2) := by decide +kernel
theorem dST_146 : decode method_7_code 146 = .ok (.iload 10, 2) := by decide +kernel
theorem dST_148 : decode method_7_code 148 = .ok (.invokestatic 39, 3) := by decide +kernel
theorem dST_151 : decode method_7_code 151 = .ok (.ifCond .eq 16, 3) := by decide +kernel
theorem dST_154 : decode method_7_code 154 = .ok (.aload_n 0, 1) := by decide +kernel
theorem dST_155 : decode method_7_code 155 = .ok (.invokevirtual 43, 3) := by decide +kernel
theorem dST_158 : decode method_7_code 158 = .ok (.iload 6, 2) := by decide +kernel
theorem dST_160 : decode method_7_code 160 = .ok (.if_icmp .ne 7, 3) := by decide +kernel
theorem dST_163 : decode method_7_code 163 = .ok (.iconst 1, 1) := by decide +kernel
theorem dST_164 : decode method_7_code 164 = .ok (.goto 4, 3) := by decide +kernel
theorem dST_167 : decode method_7_code 167 = .ok (.iconst 0, 1) := by decide +kernel
theorem dST_168 : decode method_7_code 168 = .ok (.istore 12, 2) := by decide +kernel
theorem dST_170 : decode method_7_code 170 = .ok (.aload_n 3, 1) := by decide +kernel
theorem dST_171 : decode method_7_code 171 = .ok (.iconst 0, 1) := by decide +kernel
theorem dST_172 : decode method_7_code 172 = .ok (.iload 11, 2) := by decide +kernel
theorem dST_174 : decode method_7_code 174 = .ok (.iastore, 1) := by decide +kernel
theorem dST_175 : decode method_7_code 175 = .ok (.aload_n 3, 1) := by decide +kernel
theorem dST_176 : decode method_7_code 176 = .ok (.iconst 1, 1) := by decide +kernel
theorem dST_177 : decode method_7_code 177 = .ok (.iload 6, 2) := by decide +kernel
theorem dST_179 : decode method_7_code 179 = .ok (.aload_n 1, 1) := by decide +kernel
theorem dST_180 : decode method_7_code 180 = .ok (.iload 4, 2) := by decide +kernel
theorem dST_182 : decode method_7_code 182 = .ok (.iload 11, 2) := by decide +kernel
theorem dST_184 : decode method_7_code 184 = .ok (.invokestatic 46, 3) := by decide +kernel
theorem dST_187 : decode method_7_code 187 = .ok (.iadd, 1) := by decide +kernel
theorem dST_188 : decode method_7_code 188 = .ok (.iastore, 1) := by decide +kernel
theorem dST_189 : decode method_7_code 189 = .ok (.iload 12, 2) := by decide +kernel
theorem dST_191 : decode method_7_code 191 = .ok (.ireturn, 1) := by decide +kernel
set_option maxRecDepth 65536 in
set_option maxHeartbeats 40000000 in
theorem own_sta (l : Launch) (Z : State) (a0 : Array Value) (hw : ∀ d ∈ tables_1, d.before a0 Z = true) (EL : List (String × Nat)) (hEL : EW Z a0 EL) (h0 : Heap) (vm0 : Vm) (a s c st y : Addr) (kc ks : ClassId) (c0 c1 c2 c3 : Int32) (cs : List Int32) (hcs : ∀ k, k < cs.length → cs.getD k 0 = [c0, c1, c2, c3].getD k 0) (hl : cs.length ≤ 4) (p f t e : Nat) (ln x7 tg x12 : Int32) (hc : own_cut cs p tg f t e) (F : SG Z h0 a s (Int32.ofNat e) (ln + own_cnt cs (e - p) p) ln tg (.ref y)) (Y : SC Z h0 y ((cs.drop f).take (t - f))) (G : SC Z h0 s cs) (B : Arv Z h0 c kc .char 4 ([c0, c1, c2, c3].map Value.int) (.int 0)) (D : Arv Z h0 st ks .int 2 [.int (Int32.ofNat p), .int ln] (.int 0)) (hN : Z.heap.size ≤ st) (fv : Value) (hv : fv.isRef = true) (Fm : Sta Z Z.heap "jdk/internal/util/Preconditions" "SIOOBE_FORMATTER" "Ljava/util/function/BiFunction;" fv) (cz : Int32) (O : Sta Z Z.heap "java/lang/String" "COMPACT_STRINGS" "Z" (.int cz)) (hO : ¬ cz = 0) : WP l Z EL false "com/example/fionn/fionn/io/SgmlScannerNextPinLaw" "step" method_7_code 13 (some .boolean) ({ frames := 6, cells := 4, slots := 12, locals := 160 } : Room) (fun v h' => v = some (.int 1) ∧ ∃ p' ln', p' ≤ cs.length ∧ own_Inv Z h' a s c st kc ks c0 c1 c2 c3 cs p' ln') vm0 h0 4 12 130 #[.val (.ref a), .val (.ref c), .val (.int (Int32.ofNat cs.length)), .val (.ref st), .val (.int (Int32.ofNat p)), .val (.int (1 : Int32)), .val (.int ln), .val (.int x7), .val (.int tg), .val (.int (Int32.ofNat f)), .val (.int (Int32.ofNat t)), .val (.int (Int32.ofNat e)), .unset] [] := by
  obtain ⟨e1, e2, e3, e4, htg⟩ := own_cut_le hc
  have na : a ≠ st := Exa.neArv F.1 D (hw _ (List.mem_of_getElem? (i := 31) rfl))
  have nc : c ≠ st := own_arvne B D (by decide)
  refine WP.aloadN (n := 131) dST_130 rfl rfl rfl ?_
  refine WP.callV (n := 134) (ce' := 4) (sl' := 12) (Wd := 0) (a := a) (argsL := []) (rest := []) (own_gt l Z a0 hw EL hEL h0 a s _ _ _ tg y htg F) F.1 dST_131 (hw _ (List.mem_of_getElem? (i := 143) rfl)) (hw _ (List.mem_of_getElem? (i := 144) rfl)) (hw _ (List.mem_of_getElem? (i := 146) rfl)) (hw _ (List.mem_of_getElem? (i := 145) rfl)) (hw _ (List.mem_of_getElem? (i := 32) rfl)) (hw _ (List.mem_of_getElem? (i := 147) rfl)) (by decide) (fun _ hz => notFace_of_selects (args := #[]) (mvT hz (hw _ (List.mem_of_getElem? (i := 146) rfl)))) (fun _ q => nomatch q) (by decide) (by decide) rfl rfl (by decide) (by decide) rfl rfl (lenOf own_pd6 rfl) rfl (Nat.le_of_eq rfl) rfl (fun v158 vm158 h158 q158 r158 => ?_)
  obtain ⟨rfl, rfl⟩ := q158
  refine WP.iload (n := 136) dST_134 rfl rfl ?_
  refine WP.icmpN (n' := 139) dST_136 (teq rfl).2 rfl ?_
  refine WP.aloadN (n := 140) dST_139 rfl rfl rfl ?_
  refine WP.callV (n := 143) (ce' := 4) (sl' := 12) (Wd := 0) (a := a) (argsL := []) (rest := []) (own_gp l Z a0 hw EL hEL h0 a s _ _ _ tg y htg F) F.1 dST_140 (hw _ (List.mem_of_getElem? (i := 148) rfl)) (hw _ (List.mem_of_getElem? (i := 149) rfl)) (hw _ (List.mem_of_getElem? (i := 151) rfl)) (hw _ (List.mem_of_getElem? (i := 150) rfl)) (hw _ (List.mem_of_getElem? (i := 32) rfl)) (hw _ (List.mem_of_getElem? (i := 152) rfl)) (by decide) (fun _ hz => notFace_of_selects (args := #[]) (mvT hz (hw _ (List.mem_of_getElem? (i := 151) rfl)))) (fun _ q => nomatch q) (by decide) (by decide) rfl rfl (by decide) (by decide) rfl rfl (lenOf own_pd19 rfl) rfl (Nat.le_of_eq rfl) rfl (fun v159 vm159 h159 q159 r159 => ?_)
  obtain ⟨rfl, rfl⟩ := q159
  refine WP.aloadN (n := 144) dST_143 rfl rfl rfl ?_
  refine WP.iload (n := 146) dST_144 rfl rfl ?_
  refine WP.iload (n := 148) dST_146 rfl rfl ?_
  refine WP.callS (n := 151) (ce' := 4) (sl' := 12) (Wd := 0) (argsL := [(.ref y), (.ref c), (.int (Int32.ofNat f)), (.int (Int32.ofNat t))]) (rest := []) (own_sm l Z a0 hw EL hEL h0 c kc c0 c1 c2 c3 B cs hcs hl f t e3 e4 y Y fv hv Fm cz O hO) dST_148 (hw _ (List.mem_of_getElem? (i := 153) rfl)) (hw _ (List.mem_of_getElem? (i := 154) rfl)) (hw _ (List.mem_of_getElem? (i := 3) rfl)) (hw _ (List.mem_of_getElem? (i := 155) rfl)) (by decide) (fun _ q => nomatch q) (by decide) (by decide) rfl rfl (by decide) (by decide) rfl rfl (lenOf own_pd20 rfl) rfl (Nat.le_of_eq rfl) rfl (fun v160 vm160 h160 q160 r160 => ?_)
  obtain ⟨rfl, rfl⟩ := q160
  refine WP.ifcN (n' := 154) dST_151 (by decide) rfl ?_
  refine WP.aloadN (n := 155) dST_154 rfl rfl rfl ?_
  refine WP.callV (n := 158) (ce' := 4) (sl' := 12) (Wd := 0) (a := a) (argsL := []) (rest := []) (own_gl l Z a0 hw EL hEL h0 a s _ _ ln tg y htg F) F.1 dST_155 (hw _ (List.mem_of_getElem? (i := 158) rfl)) (hw _ (List.mem_of_getElem? (i := 159) rfl)) (hw _ (List.mem_of_getElem? (i := 161) rfl)) (hw _ (List.mem_of_getElem? (i := 160) rfl)) (hw _ (List.mem_of_getElem? (i := 32) rfl)) (hw _ (List.mem_of_getElem? (i := 162) rfl)) (by decide) (fun _ hz => notFace_of_selects (args := #[]) (mvT hz (hw _ (List.mem_of_getElem? (i := 161) rfl)))) (fun _ q => nomatch q) (by decide) (by decide) rfl rfl (by decide) (by decide) rfl rfl (lenOf own_pd10 rfl) rfl (Nat.le_of_eq rfl) rfl (fun v161 vm161 h161 q161 r161 => ?_)
  obtain ⟨rfl, rfl⟩ := q161
  refine WP.iload (n := 160) dST_158 rfl rfl ?_
  refine WP.icmpN (n' := 163) dST_160 (teq rfl).2 rfl ?_
  refine WP.iconst (n := 164) (z := (1 : Int32)) dST_163 rfl rfl ?_
  refine WP.goto (n := 168) dST_164 (by decide) (by decide) ?_
  refine WP.istore (n := 170) (Ls' := #[.val (.ref a), .val (.ref c), .val (.int (Int32.ofNat cs.length)), .val (.ref st), .val (.int (Int32.ofNat p)), .val (.int (1 : Int32)), .val (.int ln), .val (.int x7), .val (.int tg), .val (.int (Int32.ofNat f)), .val (.int (Int32.ofNat t)), .val (.int (Int32.ofNat e)), .val (.int (1 : Int32))]) dST_168 rfl rfl ?_
  refine WP.aloadN (n := 171) dST_170 rfl rfl rfl ?_
  refine WP.iconst (n := 172) (z := (0 : Int32)) dST_171 rfl rfl ?_
  refine WP.iload (n := 174) dST_172 rfl rfl ?_
  refine WP.stI (n := 175) (i := 0) dST_174 D (by decide) rfl (Nat.le_of_ble_eq_true rfl) hN rfl (fun h162 W162 D162 r162 => ?_)
  have D162_ : Arv Z h162 st ks .int 2 [.int (Int32.ofNat e), .int ln] (.int 0) := D162
  have B162 := B.other W162 nc
  have G162 := own_sckA G D (Keep.of_wr W162) (hw _ (List.mem_of_getElem? (i := 10) rfl))
  have F162 := F.keep (Keep.of_wr W162) (fun q => na (List.mem_singleton.mp q))
  refine WP.aloadN (n := 176) dST_175 rfl rfl rfl ?_
  refine WP.iconst (n := 177) (z := (1 : Int32)) dST_176 rfl rfl ?_
  refine WP.iload (n := 179) dST_177 rfl rfl ?_
  refine WP.aloadN (n := 180) dST_179 rfl rfl rfl ?_
  refine WP.iload (n := 182) dST_180 rfl rfl ?_
  refine WP.iload (n := 184) dST_182 rfl rfl ?_
  refine WP.callS (n := 187) (ce' := 4) (sl' := 12) (Wd := 3) (argsL := [(.ref c), (.int (Int32.ofNat p)), (.int (Int32.ofNat e))]) (rest := [(.int ln), (.int (1 : Int32)), (.ref st)]) (own_cn l Z a0 hw EL hEL h162 c kc c0 c1 c2 c3 B162 p e e1 (by omega)) dST_184 (hw _ (List.mem_of_getElem? (i := 163) rfl)) (hw _ (List.mem_of_getElem? (i := 164) rfl)) (hw _ (List.mem_of_getElem? (i := 3) rfl)) (hw _ (List.mem_of_getElem? (i := 165) rfl)) (by decide) (fun _ q => nomatch q) (by decide) (by decide) rfl rfl (by decide) (by decide) rfl rfl (lenOf own_pd21 rfl) rfl (Nat.le_of_eq rfl) rfl (fun v163 vm163 h163 q163 r163 => ?_)
  obtain ⟨rfl, rfl⟩ := q163
  refine WP.iadd (n := 188) dST_187  rfl ?_
  refine WP.stI (n := 189) (i := 1) dST_188 D162_ (by decide) rfl (Nat.le_of_ble_eq_true rfl) hN rfl (fun h164 W164 D164 r164 => ?_)
  have D164_ : Arv Z h164 st ks .int 2 [.int (Int32.ofNat e), .int (ln + own_cnt [c0, c1, c2, c3] (e - p) p)] (.int 0) := D164
  have B164 := B162.other W164 nc
  have G164 := own_sckA G162 D162_ (Keep.of_wr W164) (hw _ (List.mem_of_getElem? (i := 10) rfl))
  have F164 := F162.keep (Keep.of_wr W164) (fun q => na (List.mem_singleton.mp q))
  refine WP.iload (n := 191) dST_189 rfl rfl ?_
  rw [own_cnt_cong cs [c0, c1, c2, c3] (e - p) p (fun j _ h2 => hcs j (by omega))] at F164
  exact WP.retN dST_191 rfl (Or.inl rfl) (by decide : nar .boolean 1 = 1) (by decide) (by decide) ⟨rfl, e, _, e2, ⟨_, _, _, F164⟩, G164, B164, D164_⟩
set_option maxRecDepth 65536 in
set_option maxHeartbeats 40000000 in
theorem own_stb (l : Launch) (Z : State) (a0 : Array Value) (hw : ∀ d ∈ tables_1, d.before a0 Z = true) (EL : List (String × Nat)) (hEL : EW Z a0 EL) (h0 : Heap) (vm0 : Vm) (a s c st y : Addr) (kc ks : ClassId) (c0 c1 c2 c3 : Int32) (cs : List Int32) (hcs : ∀ k, k < cs.length → cs.getD k 0 = [c0, c1, c2, c3].getD k 0) (hl : cs.length ≤ 4) (p f t e : Nat) (ln x7 tg x12 : Int32) (hc : own_cut cs p tg f t e) (F : SG Z h0 a s (Int32.ofNat e) (ln + own_cnt cs (e - p) p) ln tg (.ref y)) (Y : SC Z h0 y ((cs.drop f).take (t - f))) (G : SC Z h0 s cs) (B : Arv Z h0 c kc .char 4 ([c0, c1, c2, c3].map Value.int) (.int 0)) (D : Arv Z h0 st ks .int 2 [.int (Int32.ofNat p), .int ln] (.int 0)) (hN : Z.heap.size ≤ st) (fv : Value) (hv : fv.isRef = true) (Fm : Sta Z Z.heap "jdk/internal/util/Preconditions" "SIOOBE_FORMATTER" "Ljava/util/function/BiFunction;" fv) (cz : Int32) (O : Sta Z Z.heap "java/lang/String" "COMPACT_STRINGS" "Z" (.int cz)) (hO : ¬ cz = 0) : WP l Z EL false "com/example/fionn/fionn/io/SgmlScannerNextPinLaw" "step" method_7_code 13 (some .boolean) ({ frames := 6, cells := 4, slots := 12, locals := 160 } : Room) (fun v h' => v = some (.int 1) ∧ ∃ p' ln', p' ≤ cs.length ∧ own_Inv Z h' a s c st kc ks c0 c1 c2 c3 cs p' ln') vm0 h0 4 12 130 #[.val (.ref a), .val (.ref c), .val (.int (Int32.ofNat cs.length)), .val (.ref st), .val (.int (Int32.ofNat p)), .val (.int (1 : Int32)), .val (.int ln), .val (.int x7), .val (.int tg), .val (.int (Int32.ofNat f)), .val (.int (Int32.ofNat t)), .val (.int (Int32.ofNat e)), .val (.int x12)] [] := by
  obtain ⟨e1, e2, e3, e4, htg⟩ := own_cut_le hc
  have na : a ≠ st := Exa.neArv F.1 D (hw _ (List.mem_of_getElem? (i := 31) rfl))
  have nc : c ≠ st := own_arvne B D (by decide)
  refine WP.aloadN (n := 131) dST_130 rfl rfl rfl ?_
  refine WP.callV (n := 134) (ce' := 4) (sl' := 12) (Wd := 0) (a := a) (argsL := []) (rest := []) (own_gt l Z a0 hw EL hEL h0 a s _ _ _ tg y htg F) F.1 dST_131 (hw _ (List.mem_of_getElem? (i := 143) rfl)) (hw _ (List.mem_of_getElem? (i := 144) rfl)) (hw _ (List.mem_of_getElem? (i := 146) rfl)) (hw _ (List.mem_of_getElem? (i := 145) rfl)) (hw _ (List.mem_of_getElem? (i := 32) rfl)) (hw _ (List.mem_of_getElem? (i := 147) rfl)) (by decide) (fun _ hz => notFace_of_selects (args := #[]) (mvT hz (hw _ (List.mem_of_getElem? (i := 146) rfl)))) (fun _ q => nomatch q) (by decide) (by decide) rfl rfl (by decide) (by decide) rfl rfl (lenOf own_pd6 rfl) rfl (Nat.le_of_eq rfl) rfl (fun v165 vm165 h165 q165 r165 => ?_)
  obtain ⟨rfl, rfl⟩ := q165
  refine WP.iload (n := 136) dST_134 rfl rfl ?_
  refine WP.icmpN (n' := 139) dST_136 (teq rfl).2 rfl ?_
  refine WP.aloadN (n := 140) dST_139 rfl rfl rfl ?_
  refine WP.callV (n := 143) (ce' := 4) (sl' := 12) (Wd := 0) (a := a) (argsL := []) (rest := []) (own_gp l Z a0 hw EL hEL h0 a s _ _ _ tg y htg F) F.1 dST_140 (hw _ (List.mem_of_getElem? (i := 148) rfl)) (hw _ (List.mem_of_getElem? (i := 149) rfl)) (hw _ (List.mem_of_getElem? (i := 151) rfl)) (hw _ (List.mem_of_getElem? (i := 150) rfl)) (hw _ (List.mem_of_getElem? (i := 32) rfl)) (hw _ (List.mem_of_getElem? (i := 152) rfl)) (by decide) (fun _ hz => notFace_of_selects (args := #[]) (mvT hz (hw _ (List.mem_of_getElem? (i := 151) rfl)))) (fun _ q => nomatch q) (by decide) (by decide) rfl rfl (by decide) (by decide) rfl rfl (lenOf own_pd19 rfl) rfl (Nat.le_of_eq rfl) rfl (fun v166 vm166 h166 q166 r166 => ?_)
  obtain ⟨rfl, rfl⟩ := q166
  refine WP.aloadN (n := 144) dST_143 rfl rfl rfl ?_
  refine WP.iload (n := 146) dST_144 rfl rfl ?_
  refine WP.iload (n := 148) dST_146 rfl rfl ?_
  refine WP.callS (n := 151) (ce' := 4) (sl' := 12) (Wd := 0) (argsL := [(.ref y), (.ref c), (.int (Int32.ofNat f)), (.int (Int32.ofNat t))]) (rest := []) (own_sm l Z a0 hw EL hEL h0 c kc c0 c1 c2 c3 B cs hcs hl f t e3 e4 y Y fv hv Fm cz O hO) dST_148 (hw _ (List.mem_of_getElem? (i := 153) rfl)) (hw _ (List.mem_of_getElem? (i := 154) rfl)) (hw _ (List.mem_of_getElem? (i := 3) rfl)) (hw _ (List.mem_of_getElem? (i := 155) rfl)) (by decide) (fun _ q => nomatch q) (by decide) (by decide) rfl rfl (by decide) (by decide) rfl rfl (lenOf own_pd20 rfl) rfl (Nat.le_of_eq rfl) rfl (fun v167 vm167 h167 q167 r167 => ?_)
  obtain ⟨rfl, rfl⟩ := q167
  refine WP.ifcN (n' := 154) dST_151 (by decide) rfl ?_
  refine WP.aloadN (n := 155) dST_154 rfl rfl rfl ?_
  refine WP.callV (n := 158) (ce' := 4) (sl' := 12) (Wd := 0) (a := a) (argsL := []) (rest := []) (own_gl l Z a0 hw EL hEL h0 a s _ _ ln tg y htg F) F.1 dST_155 (hw _ (List.mem_of_getElem? (i := 158) rfl)) (hw _ (List.mem_of_getElem? (i := 159) rfl)) (hw _ (List.mem_of_getElem? (i := 161) rfl)) (hw _ (List.mem_of_getElem? (i := 160) rfl)) (hw _ (List.mem_of_getElem? (i := 32) rfl)) (hw _ (List.mem_of_getElem? (i := 162) rfl)) (by decide) (fun _ hz => notFace_of_selects (args := #[]) (mvT hz (hw _ (List.mem_of_getElem? (i := 161) rfl)))) (fun _ q => nomatch q) (by decide) (by decide) rfl rfl (by decide) (by decide) rfl rfl (lenOf own_pd10 rfl) rfl (Nat.le_of_eq rfl) rfl (fun v168 vm168 h168 q168 r168 => ?_)
  obtain ⟨rfl, rfl⟩ := q168
  refine WP.iload (n := 160) dST_158 rfl rfl ?_
  refine WP.icmpN (n' := 163) dST_160 (teq rfl).2 rfl ?_
  refine WP.iconst (n := 164) (z := (1 : Int32)) dST_163 rfl rfl ?_
  refine WP.goto (n := 168) dST_164 (by decide) (by decide) ?_
  refine WP.istore (n := 170) (Ls' := #[.val (.ref a), .val (.ref c), .val (.int (Int32.ofNat cs.length)), .val (.ref st), .val (.int (Int32.ofNat p)), .val (.int (1 : Int32)), .val (.int ln), .val (.int x7), .val (.int tg), .val (.int (Int32.ofNat f)), .val (.int (Int32.ofNat t)), .val (.int (Int32.ofNat e)), .val (.int (1 : Int32))]) dST_168 rfl rfl ?_
  refine WP.aloadN (n := 171) dST_170 rfl rfl rfl ?_
  refine WP.iconst (n := 172) (z := (0 : Int32)) dST_171 rfl rfl ?_
  refine WP.iload (n := 174) dST_172 rfl rfl ?_
  refine WP.stI (n := 175) (i := 0) dST_174 D (by decide) rfl (Nat.le_of_ble_eq_true rfl) hN rfl (fun h169 W169 D169 r169 => ?_)
  have D169_ : Arv Z h169 st ks .int 2 [.int (Int32.ofNat e), .int ln] (.int 0) := D169
  have B169 := B.other W169 nc
  have G169 := own_sckA G D (Keep.of_wr W169) (hw _ (List.mem_of_getElem? (i := 10) rfl))
  have F169 := F.keep (Keep.of_wr W169) (fun q => na (List.mem_singleton.mp q))
  refine WP.aloadN (n := 176) dST_175 rfl rfl rfl ?_
  refine WP.iconst (n := 177) (z := (1 : Int32)) dST_176 rfl rfl ?_
  refine WP.iload (n := 179) dST_177 rfl rfl ?_
  refine WP.aloadN (n := 180) dST_179 rfl rfl rfl ?_
  refine WP.iload (n := 182) dST_180 rfl rfl ?_
  refine WP.iload (n := 184) dST_182 rfl rfl ?_
  refine WP.callS (n := 187) (ce' := 4) (sl' := 12) (Wd := 3) (argsL := [(.ref c), (.int (Int32.ofNat p)), (.int (Int32.ofNat e))]) (rest := [(.int ln), (.int (1 : Int32)), (.ref st)]) (own_cn l Z a0 hw EL hEL h169 c kc c0 c1 c2 c3 B169 p e e1 (by omega)) dST_184 (hw _ (List.mem_of_getElem? (i := 163) rfl)) (hw _ (List.mem_of_getElem? (i := 164) rfl)) (hw _ (List.mem_of_getElem? (i := 3) rfl)) (hw _ (List.mem_of_getElem? (i := 165) rfl)) (by decide) (fun _ q => nomatch q) (by decide) (by decide) rfl rfl (by decide) (by decide) rfl rfl (lenOf own_pd21 rfl) rfl (Nat.le_of_eq rfl) rfl (fun v170 vm170 h170 q170 r170 => ?_)
  obtain ⟨rfl, rfl⟩ := q170
  refine WP.iadd (n := 188) dST_187  rfl ?_
  refine WP.stI (n := 189) (i := 1) dST_188 D169_ (by decide) rfl (Nat.le_of_ble_eq_true rfl) hN rfl (fun h171 W171 D171 r171 => ?_)
  have D171_ : Arv Z h171 st ks .int 2 [.int (Int32.ofNat e), .int (ln + own_cnt [c0, c1, c2, c3] (e - p) p)] (.int 0) := D171
  have B171 := B169.other W171 nc
  have G171 := own_sckA G169 D169_ (Keep.of_wr W171) (hw _ (List.mem_of_getElem? (i := 10) rfl))
  have F171 := F169.keep (Keep.of_wr W171) (fun q => na (List.mem_singleton.mp q))
  refine WP.iload (n := 191) dST_189 rfl rfl ?_
  rw [own_cnt_cong cs [c0, c1, c2, c3] (e - p) p (fun j _ h2 => hcs j (by omega))] at F171
  exact WP.retN dST_191 rfl (Or.inl rfl) (by decide : nar .boolean 1 = 1) (by decide) (by decide) ⟨rfl, e, _, e2, ⟨_, _, _, F171⟩, G171, B171, D171_⟩
theorem dSTP_0 : decode method_7_code 0 = .ok (.aload_n 3, 1) := by decide +kernel
theorem dSTP_1 : decode method_7_code 1 = .ok (.iconst 0, 1) := by decide +kernel
theorem dSTP_2 : decode method_7_code 2 = .ok (.iaload, 1) := by decide +kernel
theorem dSTP_3 : decode method_7_code 3 = .ok (.istore 4, 2) := by decide +kernel
theorem dSTP_5 : decode method_7_code 5 = .ok (.aload_n 0, 1) := by decide +kernel
theorem dSTP_6 : decode method_7_code 6 = .ok (.invokevirtual 20, 3) := by decide +kernel
theorem dSTP_9 : decode method_7_code 9 = .ok (.istore 5, 2) := by decide +kernel
theorem dSTP_11 : decode method_7_code 11 = .ok (.iload 4, 2) := by decide +kernel
theorem dSTP_13 : decode method_7_code 13 = .ok (.iload_n 2, 1) := by decide +kernel
theorem dSTP_14 : decode method_7_code 14 = .ok (.if_icmp .lt 14, 3) := by decide +kernel
theorem dSTP_17 : decode method_7_code 17 = .ok (.iload 5, 2) := by decide +kernel
theorem dSTP_19 : decode method_7_code 19 = .ok (.ifCond .ne 7, 3) := by decide +kernel
theorem dSTP_22 : decode method_7_code 22 = .ok (.iconst 1, 1) := by decide +kernel
theorem dSTP_23 : decode method_7_code 23 = .ok (.goto 4, 3) := by decide +kernel
theorem dSTP_26 : decode method_7_code 26 = .ok (.iconst 0, 1) := by decide +kernel
theorem dSTP_27 : decode method_7_code 27 = .ok (.ireturn, 1) := by decide +kernel
theorem dSTP_28 : decode method_7_code 28 = .ok (.iload 5, 2) := by decide +kernel
theorem dSTP_30 : decode method_7_code 30 = .ok (.ifCond .ne 5, 3) := by decide +kernel
theorem dSTP_33 : decode method_7_code 33 = .ok (.iconst 0, 1) := by decide +kernel
theorem dSTP_34 : decode method_7_code 34 = .ok (.ireturn, 1) := by decide +kernel
theorem dSTP_35 : decode method_7_code 35 = .ok (.aload_n 3, 1) := by decide +kernel
theorem dSTP_36 : decode method_7_code 36 = .ok (.iconst 1, 1) := by decide +kernel
theorem dSTP_37 : decode method_7_code 37 = .ok (.iaload, 1) := by decide +kernel
theorem dSTP_38 : decode method_7_code 38 = .ok (.istore 6, 2) := by decide +kernel
theorem dSTP_40 : decode method_7_code 40 = .ok (.aload_n 1, 1) := by decide +kernel
theorem dSTP_41 : decode method_7_code 41 = .ok (.iload 4, 2) := by decide +kernel
theorem dSTP_43 : decode method_7_code 43 = .ok (.caload, 1) := by decide +kernel
theorem dSTP_44 : decode method_7_code 44 = .ok (.bipush 60, 2) := by decide +kernel
theorem dSTP_46 : decode method_7_code 46 = .ok (.if_icmp .ne 17, 3) := by decide +kernel
theorem dSTP_49 : decode method_7_code 49 = .ok (.aload_n 1, 1) := by decide +kernel
theorem dSTP_50 : decode method_7_code 50 = .ok (.iload_n 2, 1) := by decide +kernel
theorem dSTP_51 : decode method_7_code 51 = .ok (.iload 4, 2) := by decide +kernel
theorem dSTP_53 : decode method_7_code 53 = .ok (.iconst 1, 1) := by decide +kernel
theorem dSTP_54 : decode method_7_code 54 = .ok (.iadd, 1) := by decide +kernel
theorem dSTP_55 : decode method_7_code 55 = .ok (.bipush 62, 2) := by decide +kernel
theorem dSTP_57 : decode method_7_code 57 = .ok (.invokestatic 26, 3) := by decide +kernel
theorem dSTP_60 : decode method_7_code 60 = .ok (.goto 4, 3) := by decide +kernel
theorem dSTP_63 : decode method_7_code 63 = .ok (.iconst (-1), 1) := by decide +kernel
theorem dSTP_64 : decode method_7_code 64 = .ok (.istore 7, 2) := by decide +kernel
theorem dSTP_66 : decode method_7_code 66 = .ok (.iload 7, 2) := by decide +kernel
theorem dSTP_68 : decode method_7_code 68 = .ok (.ifCond .lt 25, 3) := by decide +kernel
theorem dSTP_71 : decode method_7_code 71 = .ok (.iconst 1, 1) := by decide +kernel
theorem dSTP_72 : decode method_7_code 72 = .ok (.istore 8, 2) := by decide +kernel
theorem dSTP_74 : decode method_7_code 74 = .ok (.iload 4, 2) := by decide +kernel
theorem dSTP_76 : decode method_7_code 76 = .ok (.iconst 1, 1) := by decide +kernel
theorem dSTP_77 : decode method_7_code 77 = .ok (.iadd, 1) := by decide +kernel
theorem dSTP_78 : decode method_7_code 78 = .ok (.istore 9, 2) := by decide +kernel
theorem dSTP_80 : decode method_7_code 80 = .ok (.iload 7, 2) := by decide +kernel
theorem dSTP_82 : decode method_7_code 82 = .ok (.istore 10, 2) := by decide +kernel
theorem dSTP_84 : decode method_7_code 84 = .ok (.iload 7, 2) := by decide +kernel
theorem dSTP_86 : decode method_7_code 86 = .ok (.iconst 1, 1) := by decide +kernel
theorem dSTP_87 : decode method_7_code 87 = .ok (.iadd, 1) := by decide +kernel
theorem dSTP_88 : decode method_7_code 88 = .ok (.istore 11, 2) := by decide +kernel
theorem dSTP_90 : decode method_7_code 90 = .ok (.goto 40, 3) := by decide +kernel
theorem dSTP_93 : decode method_7_code 93 = .ok (.iconst 0, 1) := by decide +kernel
theorem dSTP_94 : decode method_7_code 94 = .ok (.istore 8, 2) := by decide +kernel
theorem dSTP_96 : decode method_7_code 96 = .ok (.aload_n 1, 1) := by decide +kernel
theorem dSTP_97 : decode method_7_code 97 = .ok (.iload_n 2, 1) := by decide +kernel
theorem dSTP_98 : decode method_7_code 98 = .ok (.iload 4, 2) := by decide +kernel
theorem dSTP_100 : decode method_7_code 100 = .ok (.iconst 1, 1) := by decide +kernel
theorem dSTP_101 : decode method_7_code 101 = .ok (.iadd, 1) := by decide +kernel
theorem dSTP_102 : decode method_7_code 102 = .ok (.bipush 60, 2) := by decide +kernel
theorem dSTP_104 : decode method_7_code 104 = .ok (.invokestatic 26, 3) := by decide +kernel
theorem dSTP_107 : decode method_7_code 107 = .ok (.istore 12, 2) := by decide +kernel
theorem dSTP_109 : decode method_7_code 109 = .ok (.iload 12, 2) := by decide +kernel
theorem dSTP_111 : decode method_7_code 111 = .ok (.ifCond .ge 7, 3) := by decide +kernel
theorem dSTP_114 : decode method_7_code 114 = .ok (.iload_n 2, 1) := by decide +kernel
theorem dSTP_115 : decode method_7_code 115 = .ok (.goto 5, 3) := by decide +kernel
theorem dSTP_118 : decode method_7_code 118 = .ok (.iload 12, 2) := by decide +kernel
theorem dSTP_120 : decode method_7_code 120 = .ok (.istore 11, 2) := by decide +kernel
theorem dSTP_122 : decode method_7_code 122 = .ok (.iload 4, 2) := by decide +kernel
theorem dSTP_124 : decode method_7_code 124 = .ok (.istore 9, 2) := by decide +kernel
theorem dSTP_126 : decode method_7_code 126 = .ok (.iload 11, 2) := by decide +kernel
theorem dSTP_128 : decode method_7_code 128 = .ok (.istore 10, 2) := by decide +kernel
theorem dSTP_130 : decode method_7_code 130 = .ok (.aload_n 0, 1) := by decide +kernel
theorem dSTP_131 : decode method_7_code 131 = .ok (.invokevirtual 32, 3) := by decide +kernel
theorem dSTP_134 : decode method_7_code 134 = .ok (.iload 8, 2) := by decide +kernel
theorem dSTP_136 : decode method_7_code 136 = .ok (.if_icmp .ne 31, 3) := by decide +kernel
theorem dSTP_139 : decode method_7_code 139 = .ok (.aload_n 0, 1) := by decide +kernel
theorem dSTP_140 : decode method_7_code 140 = .ok (.invokevirtual 35, 3) := by decide +kernel
theorem dSTP_143 : decode method_7_code 143 = .ok (.aload_n 1, 1) := by decide +kernel
theorem dSTP_144 : decode method_7_code 144 = .ok (.iload 9, 2) := by decide +kernel
theorem dSTP_146 : decode method_7_code 146 = .ok (.iload 10, 2) := by decide +kernel
theorem dSTP_148 : decode method_7_code 148 = .ok (.invokestatic 39, 3) := by decide +kernel
theorem dSTP_151 : decode method_7_code 151 = .ok (.ifCond .eq 16, 3) := by decide +kernel
theorem dSTP_154 : decode method_7_code 154 = .ok (.aload_n 0, 1) := by decide +kernel
theorem dSTP_155 : decode method_7_code 155 = .ok (.invokevirtual 43, 3) := by decide +kernel
theorem dSTP_158 : decode method_7_code 158 = .ok (.iload 6, 2) := by decide +kernel
theorem dSTP_160 : decode method_7_code 160 = .ok (.if_icmp .ne 7, 3) := by decide +kernel
theorem dSTP_163 : decode method_7_code 163 = .ok (.iconst 1, 1) := by decide +kernel
theorem dSTP_164 : decode method_7_code 164 = .ok (.goto 4, 3) := by decide +kernel
theorem dSTP_167 : decode method_7_code 167 = .ok (.iconst 0, 1) := by decide +kernel
theorem dSTP_168 : decode method_7_code 168 = .ok (.istore 12, 2) := by decide +kernel
theorem dSTP_170 : decode method_7_code 170 = .ok (.aload_n 3, 1) := by decide +kernel
theorem dSTP_171 : decode method_7_code 171 = .ok (.iconst 0, 1) := by decide +kernel
theorem dSTP_172 : decode method_7_code 172 = .ok (.iload 11, 2) := by decide +kernel
theorem dSTP_174 : decode method_7_code 174 = .ok (.iastore, 1) := by decide +kernel
theorem dSTP_175 : decode method_7_code 175 = .ok (.aload_n 3, 1) := by decide +kernel
theorem dSTP_176 : decode method_7_code 176 = .ok (.iconst 1, 1) := by decide +kernel
theorem dSTP_177 : decode method_7_code 177 = .ok (.iload 6, 2) := by decide +kernel
theorem dSTP_179 : decode method_7_code 179 = .ok (.aload_n 1, 1) := by decide +kernel
theorem dSTP_180 : decode method_7_code 180 = .ok (.iload 4, 2) := by decide +kernel
theorem dSTP_182 : decode method_7_code 182 = .ok (.iload 11, 2) := by decide +kernel
theorem dSTP_184 : decode method_7_code 184 = .ok (.invokestatic 46, 3) := by decide +kernel
theorem dSTP_187 : decode method_7_code 187 = .ok (.iadd, 1) := by decide +kernel
theorem dSTP_188 : decode method_7_code 188 = .ok (.iastore, 1) := by decide +kernel
theorem dSTP_189 : decode method_7_code 189 = .ok (.iload 12, 2) := by decide +kernel
theorem dSTP_191 : decode method_7_code 191 = .ok (.ireturn, 1) := by decide +kernel
set_option maxRecDepth 65536 in
set_option maxHeartbeats 40000000 in
theorem own_stp (l : Launch) (Z : State) (a0 : Array Value) (hw : ∀ d ∈ tables_1, d.before a0 Z = true) (EL : List (String × Nat)) (hEL : EW Z a0 EL) (h0 : Heap) (a s c st : Addr) (kc ks : ClassId) (c0 c1 c2 c3 : Int32) (cs : List Int32) (hcs : ∀ k, k < cs.length → cs.getD k 0 = [c0, c1, c2, c3].getD k 0) (hl : cs.length ≤ 4) (n : Nat) (hnl : cs.length = n) (p : Nat) (hple : p ≤ cs.length) (ln : Int32) (I : own_Inv Z h0 a s c st kc ks c0 c1 c2 c3 cs p ln) (hN : Z.heap.size ≤ st) (hm : ("java/lang/StringLatin1", 151) ∈ EL) (fv : Value) (hv : fv.isRef = true) (Fm : Sta Z Z.heap "jdk/internal/util/Preconditions" "SIOOBE_FORMATTER" "Ljava/util/function/BiFunction;" fv) (cz : Int32) (O : Sta Z Z.heap "java/lang/String" "COMPACT_STRINGS" "Z" (.int cz)) (hO : ¬ cz = 0) :
    Con l Z EL false [] (⟨"com/example/fionn/fionn/io/SgmlScannerNextPinLaw", "step", "(Lcom/example/fionn/fionn/io/SgmlScanner;[CI[I)Z"⟩ : MethodName) method_7_code 13 (some .boolean) ({ frames := 6, cells := 4, slots := 12, locals := 160 } : Room) #[(.ref a), (.ref c), (.int (Int32.ofNat n)), (.ref st)] h0 (fun v h' => v = some (.int 1) ∧ ∃ p' ln', p' ≤ cs.length ∧ own_Inv Z h' a s c st kc ks c0 c1 c2 c3 cs p' ln') := by
  refine Con.of (Ls := #[.val (.ref a), .val (.ref c), .val (.int (Int32.ofNat n)), .val (.ref st), .unset, .unset, .unset, .unset, .unset, .unset, .unset, .unset, .unset]) (plainFor_of_name own_pn6) hEL (fun m => by first | (simp [entryFrame, mkF, argsToLocals, Value.category]; done) | rfl) ?_
  intro vm0 hZ0 hE0 hC0 hS0
  obtain ⟨⟨pl, tg, pv, F⟩, G, B, D⟩ := id I
  have nac : a ≠ c := Exa.neArv F.1 B (hw _ (List.mem_of_getElem? (i := 31) rfl))
  have nas : a ≠ st := Exa.neArv F.1 D (hw _ (List.mem_of_getElem? (i := 31) rfl))
  subst hnl
  refine WP.aloadN (n := 1) dSTP_0 rfl rfl rfl ?_
  refine WP.iconst (n := 2) (z := (0 : Int32)) dSTP_1 rfl rfl ?_
  refine WP.iaload (n := 3) (v := .int (Int32.ofNat p)) dSTP_2 D ⟨by decide, by decide⟩ rfl rfl ?_
  refine WP.istore (n := 5) (Ls' := #[.val (.ref a), .val (.ref c), .val (.int (Int32.ofNat cs.length)), .val (.ref st), .val (.int (Int32.ofNat p)), .unset, .unset, .unset, .unset, .unset, .unset, .unset, .unset]) dSTP_3 rfl rfl ?_
  refine WP.aloadN (n := 6) dSTP_5 rfl rfl rfl ?_
  by_cases hp : p < cs.length
  · obtain ⟨tg', f, t, e, hc⟩ := own_cut_ex cs p hp
    refine WP.callV (n := 9) (ce' := 4) (sl' := 12) (Wd := 0) (a := a) (argsL := []) (rest := []) (own_nx1 l Z a0 hw EL hEL h0 a s cs G p ln pl tg pv F tg' f t e hc hm fv hv Fm cz O hO) F.1 dSTP_6 (hw _ (List.mem_of_getElem? (i := 51) rfl)) (hw _ (List.mem_of_getElem? (i := 52) rfl)) (hw _ (List.mem_of_getElem? (i := 54) rfl)) (hw _ (List.mem_of_getElem? (i := 53) rfl)) (hw _ (List.mem_of_getElem? (i := 32) rfl)) (hw _ (List.mem_of_getElem? (i := 55) rfl)) (by decide) (fun _ hz => notFace_of_selects (args := #[]) (mvT hz (hw _ (List.mem_of_getElem? (i := 54) rfl)))) (fun _ q => nomatch q) (by decide) (by decide) rfl rfl (by decide) (by decide) rfl rfl (lenOf own_pd6 rfl) rfl (Nat.le_of_eq rfl) rfl (fun v172 vm172 h172 q172 r172 => ?_)
    obtain ⟨rfl, K172, y172, Y172, F172⟩ := q172
    have B172 := B.keep K172 (fun q => nac (List.mem_singleton.mp q).symm)
    have D172 := D.keep K172 (fun q => nas (List.mem_singleton.mp q).symm)
    have G172 := own_sck G F.1 K172 (by decide) (hw _ (List.mem_of_getElem? (i := 31) rfl))
    refine WP.istore (n := 11) (Ls' := #[.val (.ref a), .val (.ref c), .val (.int (Int32.ofNat cs.length)), .val (.ref st), .val (.int (Int32.ofNat p)), .val (.int (1 : Int32)), .unset, .unset, .unset, .unset, .unset, .unset, .unset]) dSTP_9 rfl rfl ?_
    refine WP.iload (n := 13) dSTP_11 rfl rfl ?_
    refine WP.iloadN (n := 14) dSTP_13 rfl rfl ?_
    refine WP.icmpY (n := 28) dSTP_14 (tlt (own_lit0 (by omega) p (by omega) hp)).1 (by decide) (by decide) ?_
    refine WP.iload (n := 30) dSTP_28 rfl rfl ?_
    refine WP.ifcY (n := 35) dSTP_30 (by decide) (by decide) (by decide) ?_
    refine WP.aloadN (n := 36) dSTP_35 rfl rfl rfl ?_
    refine WP.iconst (n := 37) (z := (1 : Int32)) dSTP_36 rfl rfl ?_
    refine WP.iaload (n := 38) (v := .int ln) dSTP_37 D172 ⟨by decide, by decide⟩ rfl rfl ?_
    refine WP.istore (n := 40) (Ls' := #[.val (.ref a), .val (.ref c), .val (.int (Int32.ofNat cs.length)), .val (.ref st), .val (.int (Int32.ofNat p)), .val (.int (1 : Int32)), .val (.int ln), .unset, .unset, .unset, .unset, .unset, .unset]) dSTP_38 rfl rfl ?_
    refine WP.aloadN (n := 41) dSTP_40 rfl rfl rfl ?_
    refine WP.iload (n := 43) dSTP_41 rfl rfl ?_
    refine WP.caload (n := 44) (v := .int ([c0, c1, c2, c3].getD p 0)) dSTP_43 B172 ⟨own_nn (by omega), own_lit0 (m := 4) (by omega) p (by omega) (by omega)⟩ (by rw [own_clamp (by omega)]; exact own_mapget (by show p < 4; omega)) rfl ?_
    rw [← hcs p hp]
    refine WP.bipush (n := 46) (z := (60 : Int32)) dSTP_44 (by decide) rfl ?_
    rcases id hc with ⟨rfl, d2, d3, rfl, rfl, d6, d7⟩ | ⟨rfl, d2, df, dt, d5, d6, d7⟩
    · refine WP.icmpN (n' := 49) dSTP_46 (teq d2).2 rfl ?_
      refine WP.aloadN (n := 50) dSTP_49 rfl rfl rfl ?_
      refine WP.iloadN (n := 51) dSTP_50 rfl rfl ?_
      refine WP.iload (n := 53) dSTP_51 rfl rfl ?_
      refine WP.iconst (n := 54) (z := (1 : Int32)) dSTP_53 rfl rfl ?_
      refine WP.iadd (n := 55) dSTP_54  rfl ?_
      rw [show Int32.ofNat p + 1 = Int32.ofNat (p + 1) from own_inc (by omega)]
      refine WP.bipush (n := 57) (z := (62 : Int32)) dSTP_55 (by decide) rfl ?_
      refine WP.callS (n := 60) (ce' := 4) (sl' := 12) (Wd := 0) (argsL := [(.ref c), (.int (Int32.ofNat cs.length)), (.int (Int32.ofNat (p + 1))), (.int (62 : Int32))]) (rest := []) (own_ff l Z a0 hw EL hEL h172 c kc c0 c1 c2 c3 B172 62 cs.length (p + 1) (by omega) (by omega) hl) dSTP_57 (hw _ (List.mem_of_getElem? (i := 140) rfl)) (hw _ (List.mem_of_getElem? (i := 141) rfl)) (hw _ (List.mem_of_getElem? (i := 3) rfl)) (hw _ (List.mem_of_getElem? (i := 142) rfl)) (by decide) (fun _ q => nomatch q) (by decide) (by decide) rfl rfl (by decide) (by decide) rfl rfl (lenOf own_pd22 rfl) rfl (Nat.le_of_eq rfl) rfl (fun v173 vm173 h173 q173 r173 => ?_)
      obtain ⟨rfl, rfl⟩ := q173
      rw [← own_find_cong cs [c0, c1, c2, c3] 62 (cs.length - (p + 1)) (p + 1) (fun j _ h2 => hcs j (by omega))]
      rw [← own_find_step hp d2, d3]
      refine WP.goto (n := 64) dSTP_60 (by decide) (by decide) ?_
      refine WP.istore (n := 66) (Ls' := #[.val (.ref a), .val (.ref c), .val (.int (Int32.ofNat cs.length)), .val (.ref st), .val (.int (Int32.ofNat p)), .val (.int (1 : Int32)), .val (.int ln), .val (.int (Int32.ofNat t)), .unset, .unset, .unset, .unset, .unset]) dSTP_64 rfl rfl ?_
      refine WP.iload (n := 68) dSTP_66 rfl rfl ?_
      refine WP.ifcN (n' := 71) dSTP_68 ((if0 _ _).trans (flt (own_nn (by omega))).1) rfl ?_
      refine WP.iconst (n := 72) (z := (1 : Int32)) dSTP_71 rfl rfl ?_
      refine WP.istore (n := 74) (Ls' := #[.val (.ref a), .val (.ref c), .val (.int (Int32.ofNat cs.length)), .val (.ref st), .val (.int (Int32.ofNat p)), .val (.int (1 : Int32)), .val (.int ln), .val (.int (Int32.ofNat t)), .val (.int (1 : Int32)), .unset, .unset, .unset, .unset]) dSTP_72 rfl rfl ?_
      refine WP.iload (n := 76) dSTP_74 rfl rfl ?_
      refine WP.iconst (n := 77) (z := (1 : Int32)) dSTP_76 rfl rfl ?_
      refine WP.iadd (n := 78) dSTP_77  rfl ?_
      rw [show Int32.ofNat p + 1 = Int32.ofNat (p + 1) from own_inc (by omega)]
      refine WP.istore (n := 80) (Ls' := #[.val (.ref a), .val (.ref c), .val (.int (Int32.ofNat cs.length)), .val (.ref st), .val (.int (Int32.ofNat p)), .val (.int (1 : Int32)), .val (.int ln), .val (.int (Int32.ofNat t)), .val (.int (1 : Int32)), .val (.int (Int32.ofNat (p + 1))), .unset, .unset, .unset]) dSTP_78 rfl rfl ?_
      refine WP.iload (n := 82) dSTP_80 rfl rfl ?_
      refine WP.istore (n := 84) (Ls' := #[.val (.ref a), .val (.ref c), .val (.int (Int32.ofNat cs.length)), .val (.ref st), .val (.int (Int32.ofNat p)), .val (.int (1 : Int32)), .val (.int ln), .val (.int (Int32.ofNat t)), .val (.int (1 : Int32)), .val (.int (Int32.ofNat (p + 1))), .val (.int (Int32.ofNat t)), .unset, .unset]) dSTP_82 rfl rfl ?_
      refine WP.iload (n := 86) dSTP_84 rfl rfl ?_
      refine WP.iconst (n := 87) (z := (1 : Int32)) dSTP_86 rfl rfl ?_
      refine WP.iadd (n := 88) dSTP_87  rfl ?_
      rw [show Int32.ofNat t + 1 = Int32.ofNat (t + 1) from own_inc (by omega)]
      refine WP.istore (n := 90) (Ls' := #[.val (.ref a), .val (.ref c), .val (.int (Int32.ofNat cs.length)), .val (.ref st), .val (.int (Int32.ofNat p)), .val (.int (1 : Int32)), .val (.int ln), .val (.int (Int32.ofNat t)), .val (.int (1 : Int32)), .val (.int (Int32.ofNat (p + 1))), .val (.int (Int32.ofNat t)), .val (.int (Int32.ofNat (t + 1))), .unset]) dSTP_88 rfl rfl ?_
      refine WP.goto (n := 130) dSTP_90 (by decide) (by decide) ?_
      exact own_sta l Z a0 hw EL hEL _ _ a s c st y172 kc ks c0 c1 c2 c3 cs hcs hl p (p + 1) t (t + 1) ln (Int32.ofNat t) 1 0 hc F172 Y172 G172 B172 D172 hN fv hv Fm cz O hO
    · obtain rfl : p = f := df.symm
      obtain rfl : e = t := dt.symm
      by_cases hcp : cs.getD p 0 = 60
      · refine WP.icmpN (n' := 49) dSTP_46 (teq hcp).2 rfl ?_
        refine WP.aloadN (n := 50) dSTP_49 rfl rfl rfl ?_
        refine WP.iloadN (n := 51) dSTP_50 rfl rfl ?_
        refine WP.iload (n := 53) dSTP_51 rfl rfl ?_
        refine WP.iconst (n := 54) (z := (1 : Int32)) dSTP_53 rfl rfl ?_
        refine WP.iadd (n := 55) dSTP_54  rfl ?_
        rw [show Int32.ofNat p + 1 = Int32.ofNat (p + 1) from own_inc (by omega)]
        refine WP.bipush (n := 57) (z := (62 : Int32)) dSTP_55 (by decide) rfl ?_
        refine WP.callS (n := 60) (ce' := 4) (sl' := 12) (Wd := 0) (argsL := [(.ref c), (.int (Int32.ofNat cs.length)), (.int (Int32.ofNat (p + 1))), (.int (62 : Int32))]) (rest := []) (own_ff l Z a0 hw EL hEL h172 c kc c0 c1 c2 c3 B172 62 cs.length (p + 1) (by omega) (by omega) hl) dSTP_57 (hw _ (List.mem_of_getElem? (i := 140) rfl)) (hw _ (List.mem_of_getElem? (i := 141) rfl)) (hw _ (List.mem_of_getElem? (i := 3) rfl)) (hw _ (List.mem_of_getElem? (i := 142) rfl)) (by decide) (fun _ q => nomatch q) (by decide) (by decide) rfl rfl (by decide) (by decide) rfl rfl (lenOf own_pd22 rfl) rfl (Nat.le_of_eq rfl) rfl (fun v174 vm174 h174 q174 r174 => ?_)
        obtain ⟨rfl, rfl⟩ := q174
        rw [← own_find_cong cs [c0, c1, c2, c3] 62 (cs.length - (p + 1)) (p + 1) (fun j _ h2 => hcs j (by omega))]
        rw [← own_find_step hp hcp, d2 hcp]
        refine WP.goto (n := 64) dSTP_60 (by decide) (by decide) ?_
        refine WP.istore (n := 66) (Ls' := #[.val (.ref a), .val (.ref c), .val (.int (Int32.ofNat cs.length)), .val (.ref st), .val (.int (Int32.ofNat p)), .val (.int (1 : Int32)), .val (.int ln), .val (.int (-1 : Int32)), .unset, .unset, .unset, .unset, .unset]) dSTP_64 rfl rfl ?_
        refine WP.iload (n := 68) dSTP_66 rfl rfl ?_
        refine WP.ifcY (n := 93) dSTP_68 (by decide) (by decide) (by decide) ?_
        refine WP.iconst (n := 94) (z := (0 : Int32)) dSTP_93 rfl rfl ?_
        refine WP.istore (n := 96) (Ls' := #[.val (.ref a), .val (.ref c), .val (.int (Int32.ofNat cs.length)), .val (.ref st), .val (.int (Int32.ofNat p)), .val (.int (1 : Int32)), .val (.int ln), .val (.int (-1 : Int32)), .val (.int (0 : Int32)), .unset, .unset, .unset, .unset]) dSTP_94 rfl rfl ?_
        refine WP.aloadN (n := 97) dSTP_96 rfl rfl rfl ?_
        refine WP.iloadN (n := 98) dSTP_97 rfl rfl ?_
        refine WP.iload (n := 100) dSTP_98 rfl rfl ?_
        refine WP.iconst (n := 101) (z := (1 : Int32)) dSTP_100 rfl rfl ?_
        refine WP.iadd (n := 102) dSTP_101  rfl ?_
        rw [show Int32.ofNat p + 1 = Int32.ofNat (p + 1) from own_inc (by omega)]
        refine WP.bipush (n := 104) (z := (60 : Int32)) dSTP_102 (by decide) rfl ?_
        refine WP.callS (n := 107) (ce' := 4) (sl' := 12) (Wd := 0) (argsL := [(.ref c), (.int (Int32.ofNat cs.length)), (.int (Int32.ofNat (p + 1))), (.int (60 : Int32))]) (rest := []) (own_ff l Z a0 hw EL hEL h172 c kc c0 c1 c2 c3 B172 60 cs.length (p + 1) (by omega) (by omega) hl) dSTP_104 (hw _ (List.mem_of_getElem? (i := 140) rfl)) (hw _ (List.mem_of_getElem? (i := 141) rfl)) (hw _ (List.mem_of_getElem? (i := 3) rfl)) (hw _ (List.mem_of_getElem? (i := 142) rfl)) (by decide) (fun _ q => nomatch q) (by decide) (by decide) rfl rfl (by decide) (by decide) rfl rfl (lenOf own_pd22 rfl) rfl (Nat.le_of_eq rfl) rfl (fun v175 vm175 h175 q175 r175 => ?_)
        obtain ⟨rfl, rfl⟩ := q175
        rw [← own_find_cong cs [c0, c1, c2, c3] 60 (cs.length - (p + 1)) (p + 1) (fun j _ h2 => hcs j (by omega))]
        rcases d7 with ⟨d7, d8⟩ | d7
        · rw [d7]
          refine WP.istore (n := 109) (Ls' := #[.val (.ref a), .val (.ref c), .val (.int (Int32.ofNat cs.length)), .val (.ref st), .val (.int (Int32.ofNat p)), .val (.int (1 : Int32)), .val (.int ln), .val (.int (-1 : Int32)), .val (.int (0 : Int32)), .unset, .unset, .unset, .val (.int (-1 : Int32))]) dSTP_107 rfl rfl ?_
          refine WP.iload (n := 111) dSTP_109 rfl rfl ?_
          refine WP.ifcN (n' := 114) dSTP_111 (by decide) rfl ?_
          refine WP.iloadN (n := 115) dSTP_114 rfl rfl ?_
          refine WP.goto (n := 120) dSTP_115 (by decide) (by decide) ?_
          refine own_stk (st' := [.int (Int32.ofNat e)]) (by show [Value.int (Int32.ofNat cs.length)] = _; rw [d8]) ?_
          refine WP.istore (n := 122) (Ls' := #[.val (.ref a), .val (.ref c), .val (.int (Int32.ofNat cs.length)), .val (.ref st), .val (.int (Int32.ofNat p)), .val (.int (1 : Int32)), .val (.int ln), .val (.int (-1 : Int32)), .val (.int (0 : Int32)), .unset, .unset, .val (.int (Int32.ofNat e)), .val (.int (-1 : Int32))]) dSTP_120 rfl rfl ?_
          refine WP.iload (n := 124) dSTP_122 rfl rfl ?_
          refine WP.istore (n := 126) (Ls' := #[.val (.ref a), .val (.ref c), .val (.int (Int32.ofNat cs.length)), .val (.ref st), .val (.int (Int32.ofNat p)), .val (.int (1 : Int32)), .val (.int ln), .val (.int (-1 : Int32)), .val (.int (0 : Int32)), .val (.int (Int32.ofNat p)), .unset, .val (.int (Int32.ofNat e)), .val (.int (-1 : Int32))]) dSTP_124 rfl rfl ?_
          refine WP.iload (n := 128) dSTP_126 rfl rfl ?_
          refine WP.istore (n := 130) (Ls' := #[.val (.ref a), .val (.ref c), .val (.int (Int32.ofNat cs.length)), .val (.ref st), .val (.int (Int32.ofNat p)), .val (.int (1 : Int32)), .val (.int ln), .val (.int (-1 : Int32)), .val (.int (0 : Int32)), .val (.int (Int32.ofNat p)), .val (.int (Int32.ofNat e)), .val (.int (Int32.ofNat e)), .val (.int (-1 : Int32))]) dSTP_128 rfl rfl ?_
          exact own_stb l Z a0 hw EL hEL _ _ a s c st y172 kc ks c0 c1 c2 c3 cs hcs hl p p e e ln (-1 : Int32) 0 (-1 : Int32) hc F172 Y172 G172 B172 D172 hN fv hv Fm cz O hO
        · rw [d7]
          refine WP.istore (n := 109) (Ls' := #[.val (.ref a), .val (.ref c), .val (.int (Int32.ofNat cs.length)), .val (.ref st), .val (.int (Int32.ofNat p)), .val (.int (1 : Int32)), .val (.int ln), .val (.int (-1 : Int32)), .val (.int (0 : Int32)), .unset, .unset, .unset, .val (.int (Int32.ofNat e))]) dSTP_107 rfl rfl ?_
          refine WP.iload (n := 111) dSTP_109 rfl rfl ?_
          refine WP.ifcY (n := 118) dSTP_111 ((if0 _ _).trans (flt (own_nn (by omega))).2.1) (by decide) (by decide) ?_
          refine WP.iload (n := 120) dSTP_118 rfl rfl ?_
          refine WP.istore (n := 122) (Ls' := #[.val (.ref a), .val (.ref c), .val (.int (Int32.ofNat cs.length)), .val (.ref st), .val (.int (Int32.ofNat p)), .val (.int (1 : Int32)), .val (.int ln), .val (.int (-1 : Int32)), .val (.int (0 : Int32)), .unset, .unset, .val (.int (Int32.ofNat e)), .val (.int (Int32.ofNat e))]) dSTP_120 rfl rfl ?_
          refine WP.iload (n := 124) dSTP_122 rfl rfl ?_
          refine WP.istore (n := 126) (Ls' := #[.val (.ref a), .val (.ref c), .val (.int (Int32.ofNat cs.length)), .val (.ref st), .val (.int (Int32.ofNat p)), .val (.int (1 : Int32)), .val (.int ln), .val (.int (-1 : Int32)), .val (.int (0 : Int32)), .val (.int (Int32.ofNat p)), .unset, .val (.int (Int32.ofNat e)), .val (.int (Int32.ofNat e))]) dSTP_124 rfl rfl ?_
          refine WP.iload (n := 128) dSTP_126 rfl rfl ?_
          refine WP.istore (n := 130) (Ls' := #[.val (.ref a), .val (.ref c), .val (.int (Int32.ofNat cs.length)), .val (.ref st), .val (.int (Int32.ofNat p)), .val (.int (1 : Int32)), .val (.int ln), .val (.int (-1 : Int32)), .val (.int (0 : Int32)), .val (.int (Int32.ofNat p)), .val (.int (Int32.ofNat e)), .val (.int (Int32.ofNat e)), .val (.int (Int32.ofNat e))]) dSTP_128 rfl rfl ?_
          exact own_stb l Z a0 hw EL hEL _ _ a s c st y172 kc ks c0 c1 c2 c3 cs hcs hl p p e e ln (-1 : Int32) 0 (Int32.ofNat e) hc F172 Y172 G172 B172 D172 hN fv hv Fm cz O hO
      · refine WP.icmpY (n := 63) dSTP_46 (feq hcp).2 (by decide) (by decide) ?_
        refine WP.iconst (n := 64) (z := (-1 : Int32)) dSTP_63 rfl rfl ?_
        refine WP.istore (n := 66) (Ls' := #[.val (.ref a), .val (.ref c), .val (.int (Int32.ofNat cs.length)), .val (.ref st), .val (.int (Int32.ofNat p)), .val (.int (1 : Int32)), .val (.int ln), .val (.int (-1 : Int32)), .unset, .unset, .unset, .unset, .unset]) dSTP_64 rfl rfl ?_
        refine WP.iload (n := 68) dSTP_66 rfl rfl ?_
        refine WP.ifcY (n := 93) dSTP_68 (by decide) (by decide) (by decide) ?_
        refine WP.iconst (n := 94) (z := (0 : Int32)) dSTP_93 rfl rfl ?_
        refine WP.istore (n := 96) (Ls' := #[.val (.ref a), .val (.ref c), .val (.int (Int32.ofNat cs.length)), .val (.ref st), .val (.int (Int32.ofNat p)), .val (.int (1 : Int32)), .val (.int ln), .val (.int (-1 : Int32)), .val (.int (0 : Int32)), .unset, .unset, .unset, .unset]) dSTP_94 rfl rfl ?_
        refine WP.aloadN (n := 97) dSTP_96 rfl rfl rfl ?_
        refine WP.iloadN (n := 98) dSTP_97 rfl rfl ?_
        refine WP.iload (n := 100) dSTP_98 rfl rfl ?_
        refine WP.iconst (n := 101) (z := (1 : Int32)) dSTP_100 rfl rfl ?_
        refine WP.iadd (n := 102) dSTP_101  rfl ?_
        rw [show Int32.ofNat p + 1 = Int32.ofNat (p + 1) from own_inc (by omega)]
        refine WP.bipush (n := 104) (z := (60 : Int32)) dSTP_102 (by decide) rfl ?_
        refine WP.callS (n := 107) (ce' := 4) (sl' := 12) (Wd := 0) (argsL := [(.ref c), (.int (Int32.ofNat cs.length)), (.int (Int32.ofNat (p + 1))), (.int (60 : Int32))]) (rest := []) (own_ff l Z a0 hw EL hEL h172 c kc c0 c1 c2 c3 B172 60 cs.length (p + 1) (by omega) (by omega) hl) dSTP_104 (hw _ (List.mem_of_getElem? (i := 140) rfl)) (hw _ (List.mem_of_getElem? (i := 141) rfl)) (hw _ (List.mem_of_getElem? (i := 3) rfl)) (hw _ (List.mem_of_getElem? (i := 142) rfl)) (by decide) (fun _ q => nomatch q) (by decide) (by decide) rfl rfl (by decide) (by decide) rfl rfl (lenOf own_pd22 rfl) rfl (Nat.le_of_eq rfl) rfl (fun v176 vm176 h176 q176 r176 => ?_)
        obtain ⟨rfl, rfl⟩ := q176
        rw [← own_find_cong cs [c0, c1, c2, c3] 60 (cs.length - (p + 1)) (p + 1) (fun j _ h2 => hcs j (by omega))]
        rcases d7 with ⟨d7, d8⟩ | d7
        · rw [d7]
          refine WP.istore (n := 109) (Ls' := #[.val (.ref a), .val (.ref c), .val (.int (Int32.ofNat cs.length)), .val (.ref st), .val (.int (Int32.ofNat p)), .val (.int (1 : Int32)), .val (.int ln), .val (.int (-1 : Int32)), .val (.int (0 : Int32)), .unset, .unset, .unset, .val (.int (-1 : Int32))]) dSTP_107 rfl rfl ?_
          refine WP.iload (n := 111) dSTP_109 rfl rfl ?_
          refine WP.ifcN (n' := 114) dSTP_111 (by decide) rfl ?_
          refine WP.iloadN (n := 115) dSTP_114 rfl rfl ?_
          refine WP.goto (n := 120) dSTP_115 (by decide) (by decide) ?_
          refine own_stk (st' := [.int (Int32.ofNat e)]) (by show [Value.int (Int32.ofNat cs.length)] = _; rw [d8]) ?_
          refine WP.istore (n := 122) (Ls' := #[.val (.ref a), .val (.ref c), .val (.int (Int32.ofNat cs.length)), .val (.ref st), .val (.int (Int32.ofNat p)), .val (.int (1 : Int32)), .val (.int ln), .val (.int (-1 : Int32)), .val (.int (0 : Int32)), .unset, .unset, .val (.int (Int32.ofNat e)), .val (.int (-1 : Int32))]) dSTP_120 rfl rfl ?_
          refine WP.iload (n := 124) dSTP_122 rfl rfl ?_
          refine WP.istore (n := 126) (Ls' := #[.val (.ref a), .val (.ref c), .val (.int (Int32.ofNat cs.length)), .val (.ref st), .val (.int (Int32.ofNat p)), .val (.int (1 : Int32)), .val (.int ln), .val (.int (-1 : Int32)), .val (.int (0 : Int32)), .val (.int (Int32.ofNat p)), .unset, .val (.int (Int32.ofNat e)), .val (.int (-1 : Int32))]) dSTP_124 rfl rfl ?_
          refine WP.iload (n := 128) dSTP_126 rfl rfl ?_
          refine WP.istore (n := 130) (Ls' := #[.val (.ref a), .val (.ref c), .val (.int (Int32.ofNat cs.length)), .val (.ref st), .val (.int (Int32.ofNat p)), .val (.int (1 : Int32)), .val (.int ln), .val (.int (-1 : Int32)), .val (.int (0 : Int32)), .val (.int (Int32.ofNat p)), .val (.int (Int32.ofNat e)), .val (.int (Int32.ofNat e)), .val (.int (-1 : Int32))]) dSTP_128 rfl rfl ?_
          exact own_stb l Z a0 hw EL hEL _ _ a s c st y172 kc ks c0 c1 c2 c3 cs hcs hl p p e e ln (-1 : Int32) 0 (-1 : Int32) hc F172 Y172 G172 B172 D172 hN fv hv Fm cz O hO
        · rw [d7]
          refine WP.istore (n := 109) (Ls' := #[.val (.ref a), .val (.ref c), .val (.int (Int32.ofNat cs.length)), .val (.ref st), .val (.int (Int32.ofNat p)), .val (.int (1 : Int32)), .val (.int ln), .val (.int (-1 : Int32)), .val (.int (0 : Int32)), .unset, .unset, .unset, .val (.int (Int32.ofNat e))]) dSTP_107 rfl rfl ?_
          refine WP.iload (n := 111) dSTP_109 rfl rfl ?_
          refine WP.ifcY (n := 118) dSTP_111 ((if0 _ _).trans (flt (own_nn (by omega))).2.1) (by decide) (by decide) ?_
          refine WP.iload (n := 120) dSTP_118 rfl rfl ?_
          refine WP.istore (n := 122) (Ls' := #[.val (.ref a), .val (.ref c), .val (.int (Int32.ofNat cs.length)), .val (.ref st), .val (.int (Int32.ofNat p)), .val (.int (1 : Int32)), .val (.int ln), .val (.int (-1 : Int32)), .val (.int (0 : Int32)), .unset, .unset, .val (.int (Int32.ofNat e)), .val (.int (Int32.ofNat e))]) dSTP_120 rfl rfl ?_
          refine WP.iload (n := 124) dSTP_122 rfl rfl ?_
          refine WP.istore (n := 126) (Ls' := #[.val (.ref a), .val (.ref c), .val (.int (Int32.ofNat cs.length)), .val (.ref st), .val (.int (Int32.ofNat p)), .val (.int (1 : Int32)), .val (.int ln), .val (.int (-1 : Int32)), .val (.int (0 : Int32)), .val (.int (Int32.ofNat p)), .unset, .val (.int (Int32.ofNat e)), .val (.int (Int32.ofNat e))]) dSTP_124 rfl rfl ?_
          refine WP.iload (n := 128) dSTP_126 rfl rfl ?_
          refine WP.istore (n := 130) (Ls' := #[.val (.ref a), .val (.ref c), .val (.int (Int32.ofNat cs.length)), .val (.ref st), .val (.int (Int32.ofNat p)), .val (.int (1 : Int32)), .val (.int ln), .val (.int (-1 : Int32)), .val (.int (0 : Int32)), .val (.int (Int32.ofNat p)), .val (.int (Int32.ofNat e)), .val (.int (Int32.ofNat e)), .val (.int (Int32.ofNat e))]) dSTP_128 rfl rfl ?_
          exact own_stb l Z a0 hw EL hEL _ _ a s c st y172 kc ks c0 c1 c2 c3 cs hcs hl p p e e ln (-1 : Int32) 0 (Int32.ofNat e) hc F172 Y172 G172 B172 D172 hN fv hv Fm cz O hO
  · refine WP.callV (n := 9) (ce' := 4) (sl' := 12) (Wd := 0) (a := a) (argsL := []) (rest := []) (own_nx0 l Z a0 hw EL hEL h0 a s cs G p ln pl tg pv F hp (by omega) hm fv hv Fm cz O hO) F.1 dSTP_6 (hw _ (List.mem_of_getElem? (i := 51) rfl)) (hw _ (List.mem_of_getElem? (i := 52) rfl)) (hw _ (List.mem_of_getElem? (i := 54) rfl)) (hw _ (List.mem_of_getElem? (i := 53) rfl)) (hw _ (List.mem_of_getElem? (i := 32) rfl)) (hw _ (List.mem_of_getElem? (i := 55) rfl)) (by decide) (fun _ hz => notFace_of_selects (args := #[]) (mvT hz (hw _ (List.mem_of_getElem? (i := 54) rfl)))) (fun _ q => nomatch q) (by decide) (by decide) rfl rfl (by decide) (by decide) rfl rfl (lenOf own_pd6 rfl) rfl (Nat.le_of_eq rfl) rfl (fun v177 vm177 h177 q177 r177 => ?_)
    obtain ⟨rfl, rfl⟩ := q177
    refine WP.istore (n := 11) (Ls' := #[.val (.ref a), .val (.ref c), .val (.int (Int32.ofNat cs.length)), .val (.ref st), .val (.int (Int32.ofNat p)), .val (.int (0 : Int32)), .unset, .unset, .unset, .unset, .unset, .unset, .unset]) dSTP_9 rfl rfl ?_
    refine WP.iload (n := 13) dSTP_11 rfl rfl ?_
    refine WP.iloadN (n := 14) dSTP_13 rfl rfl ?_
    refine WP.icmpN (n' := 17) dSTP_14 (flt (own_lit1 (by omega) p (by omega) hp)).1 rfl ?_
    refine WP.iload (n := 19) dSTP_17 rfl rfl ?_
    refine WP.ifcN (n' := 22) dSTP_19 (by decide) rfl ?_
    refine WP.iconst (n := 23) (z := (1 : Int32)) dSTP_22 rfl rfl ?_
    refine WP.goto (n := 27) dSTP_23 (by decide) (by decide) ?_
    exact WP.retN dSTP_27 rfl (Or.inl rfl) (by decide : nar .boolean 1 = 1) (by decide) (by decide) ⟨rfl, p, ln, hple, I⟩
set_option maxRecDepth 65536 in
set_option maxHeartbeats 40000000 in
theorem own_law (l : Launch) (Z : State) (a0 : Array Value) (hw : ∀ d ∈ tables_1, d.before a0 Z = true) (EL : List (String × Nat)) (hEL : EW Z a0 EL) (h0 : Heap) (i0 i1 i2 : Int32) (hm7 : ("java/lang/String", 7) ∈ EL) (hm : ("java/lang/StringLatin1", 151) ∈ EL) (fv : Value) (hv : fv.isRef = true) (Fm : Sta Z Z.heap "jdk/internal/util/Preconditions" "SIOOBE_FORMATTER" "Ljava/util/function/BiFunction;" fv) (cz : Int32) (O : Sta Z Z.heap "java/lang/String" "COMPACT_STRINGS" "Z" (.int cz)) (hO : ¬ cz = 0) :
    Con l Z EL false [] x code maxLocals ret room_1 #[(.int i0), (.int i1), (.int i2)] h0 (fun v h' => v = some (.int 1)) := by
  refine Con.of (Ls := #[.val (.int i0), .val (.int i1), .val (.int i2), .unset, .unset, .unset, .unset, .unset, .unset, .unset, .unset, .unset]) (plainFor_of_name own_pn6) hEL (fun m => by first | (simp [entryFrame, mkF, argsToLocals, Value.category, maxLocals]; done) | rfl) ?_
  intro vm0 hZ0 hE0 hC0 hS0
  show WP l Z EL false "com/example/fionn/fionn/io/SgmlScannerNextPinLaw" "law" code maxLocals ret room_1 _ vm0 h0 0 0 0 _ _
  refine WP.iconst (n := 1) (z := (4 : Int32)) at_0 rfl rfl ?_
  refine WP.newP (n := 3) (ce' := 1) (sl' := 4) (cap := 4) (ty := .char) at_1 (hw _ (List.mem_of_getElem? (i := 0) rfl)) rfl (by decide) (by decide) (by decide) rfl rfl (by decide) (by decide) rfl (fun c h178 kc g178 E178 V178 S178 N178 r178 => ?_)
  have V178_ : Arv Z h178 c kc .char 4 ([0, 0, 0, 0].map Value.int) (.int 0) := V178.pad (pad_rep [] (.int 0) 4)
  refine WP.astoreN (n := 4) (Ls' := #[.val (.int i0), .val (.int i1), .val (.int i2), .val (.ref c), .unset, .unset, .unset, .unset, .unset, .unset, .unset, .unset]) at_3 rfl rfl rfl ?_
  refine WP.aloadN (n := 5) at_4 rfl rfl rfl ?_
  refine WP.iconst (n := 6) (z := (0 : Int32)) at_5 rfl rfl ?_
  refine WP.iloadN (n := 7) at_6 rfl rfl ?_
  refine WP.iconst (n := 8) (z := (3 : Int32)) at_7 rfl rfl ?_
  refine WP.iand (n := 9) at_8  rfl ?_
  refine WP.iloadN (n := 10) at_9 rfl rfl ?_
  refine WP.sipush (n := 13) (z := (255 : Int32)) at_10 (by decide) rfl ?_
  refine WP.iand (n := 14) at_13  rfl ?_
  refine WP.callS (n := 17) (ce' := 1) (sl' := 4) (Wd := 2) (argsL := [(.int (i1 &&& (3 : Int32))), (.int (i2 &&& (255 : Int32)))]) (rest := [(.int (0 : Int32)), (.ref c)]) (own_pk l Z a0 hw EL hEL h178 (i1 &&& (3 : Int32)) (i2 &&& (255 : Int32)) (own_c8r _)) at_14 (hw _ (List.mem_of_getElem? (i := 1) rfl)) (hw _ (List.mem_of_getElem? (i := 2) rfl)) (hw _ (List.mem_of_getElem? (i := 3) rfl)) (hw _ (List.mem_of_getElem? (i := 4) rfl)) (by decide) (fun _ q => nomatch q) (by decide) (by decide) rfl rfl (by decide) (by decide) rfl rfl (lenOf own_pd23 rfl) rfl (Nat.le_of_eq rfl) rfl (fun v179 vm179 h179 q179 r179 => ?_)
  obtain ⟨x179, rfl, hx179, rfl⟩ := q179
  refine WP.inv fun hZ180 hE180 hC180 => ?_
  refine WP.stC (n := 18) (i := 0) (y := x179) at_17 V178_ (by decide) rfl (Nat.le_of_ble_eq_true rfl) (own_c16 hx179) N178 (Safe.arv hZ180.alike V178_ (by decide)) rfl (fun h180 W180 V180 r180 => ?_)
  have V180_ : Arv Z h180 c kc .char 4 ([x179, 0, 0, 0].map Value.int) (.int 0) := V180
  refine WP.aloadN (n := 19) at_18 rfl rfl rfl ?_
  refine WP.iconst (n := 20) (z := (1 : Int32)) at_19 rfl rfl ?_
  refine WP.iloadN (n := 21) at_20 rfl rfl ?_
  refine WP.iconst (n := 22) (z := (2 : Int32)) at_21 rfl rfl ?_
  refine WP.ishr (n := 23) at_22  rfl ?_
  refine WP.iconst (n := 24) (z := (3 : Int32)) at_23 rfl rfl ?_
  refine WP.iand (n := 25) at_24  rfl ?_
  refine WP.iloadN (n := 26) at_25 rfl rfl ?_
  refine WP.bipush (n := 28) (z := (8 : Int32)) at_26 (by decide) rfl ?_
  refine WP.ishr (n := 29) at_28  rfl ?_
  refine WP.sipush (n := 32) (z := (255 : Int32)) at_29 (by decide) rfl ?_
  refine WP.iand (n := 33) at_32  rfl ?_
  refine WP.callS (n := 36) (ce' := 1) (sl' := 4) (Wd := 2) (argsL := [(.int ((i1 >>> ((2 : Int32) &&& 31)) &&& (3 : Int32))), (.int ((i2 >>> ((8 : Int32) &&& 31)) &&& (255 : Int32)))]) (rest := [(.int (1 : Int32)), (.ref c)]) (own_pk l Z a0 hw EL hEL h180 ((i1 >>> ((2 : Int32) &&& 31)) &&& (3 : Int32)) ((i2 >>> ((8 : Int32) &&& 31)) &&& (255 : Int32)) (own_c8r _)) at_33 (hw _ (List.mem_of_getElem? (i := 1) rfl)) (hw _ (List.mem_of_getElem? (i := 2) rfl)) (hw _ (List.mem_of_getElem? (i := 3) rfl)) (hw _ (List.mem_of_getElem? (i := 4) rfl)) (by decide) (fun _ q => nomatch q) (by decide) (by decide) rfl rfl (by decide) (by decide) rfl rfl (lenOf own_pd23 rfl) rfl (Nat.le_of_eq rfl) rfl (fun v181 vm181 h181 q181 r181 => ?_)
  obtain ⟨x181, rfl, hx181, rfl⟩ := q181
  refine WP.inv fun hZ182 hE182 hC182 => ?_
  refine WP.stC (n := 37) (i := 1) (y := x181) at_36 V180_ (by decide) rfl (Nat.le_of_ble_eq_true rfl) (own_c16 hx181) N178 (Safe.arv hZ182.alike V180_ (by decide)) rfl (fun h182 W182 V182 r182 => ?_)
  have V182_ : Arv Z h182 c kc .char 4 ([x179, x181, 0, 0].map Value.int) (.int 0) := V182
  refine WP.aloadN (n := 38) at_37 rfl rfl rfl ?_
  refine WP.iconst (n := 39) (z := (2 : Int32)) at_38 rfl rfl ?_
  refine WP.iloadN (n := 40) at_39 rfl rfl ?_
  refine WP.iconst (n := 41) (z := (4 : Int32)) at_40 rfl rfl ?_
  refine WP.ishr (n := 42) at_41  rfl ?_
  refine WP.iconst (n := 43) (z := (3 : Int32)) at_42 rfl rfl ?_
  refine WP.iand (n := 44) at_43  rfl ?_
  refine WP.iloadN (n := 45) at_44 rfl rfl ?_
  refine WP.bipush (n := 47) (z := (16 : Int32)) at_45 (by decide) rfl ?_
  refine WP.ishr (n := 48) at_47  rfl ?_
  refine WP.sipush (n := 51) (z := (255 : Int32)) at_48 (by decide) rfl ?_
  refine WP.iand (n := 52) at_51  rfl ?_
  refine WP.callS (n := 55) (ce' := 1) (sl' := 4) (Wd := 2) (argsL := [(.int ((i1 >>> ((4 : Int32) &&& 31)) &&& (3 : Int32))), (.int ((i2 >>> ((16 : Int32) &&& 31)) &&& (255 : Int32)))]) (rest := [(.int (2 : Int32)), (.ref c)]) (own_pk l Z a0 hw EL hEL h182 ((i1 >>> ((4 : Int32) &&& 31)) &&& (3 : Int32)) ((i2 >>> ((16 : Int32) &&& 31)) &&& (255 : Int32)) (own_c8r _)) at_52 (hw _ (List.mem_of_getElem? (i := 1) rfl)) (hw _ (List.mem_of_getElem? (i := 2) rfl)) (hw _ (List.mem_of_getElem? (i := 3) rfl)) (hw _ (List.mem_of_getElem? (i := 4) rfl)) (by decide) (fun _ q => nomatch q) (by decide) (by decide) rfl rfl (by decide) (by decide) rfl rfl (lenOf own_pd23 rfl) rfl (Nat.le_of_eq rfl) rfl (fun v183 vm183 h183 q183 r183 => ?_)
  obtain ⟨x183, rfl, hx183, rfl⟩ := q183
  refine WP.inv fun hZ184 hE184 hC184 => ?_
  refine WP.stC (n := 56) (i := 2) (y := x183) at_55 V182_ (by decide) rfl (Nat.le_of_ble_eq_true rfl) (own_c16 hx183) N178 (Safe.arv hZ184.alike V182_ (by decide)) rfl (fun h184 W184 V184 r184 => ?_)
  have V184_ : Arv Z h184 c kc .char 4 ([x179, x181, x183, 0].map Value.int) (.int 0) := V184
  refine WP.aloadN (n := 57) at_56 rfl rfl rfl ?_
  refine WP.iconst (n := 58) (z := (3 : Int32)) at_57 rfl rfl ?_
  refine WP.iloadN (n := 59) at_58 rfl rfl ?_
  refine WP.bipush (n := 61) (z := (6 : Int32)) at_59 (by decide) rfl ?_
  refine WP.ishr (n := 62) at_61  rfl ?_
  refine WP.iconst (n := 63) (z := (3 : Int32)) at_62 rfl rfl ?_
  refine WP.iand (n := 64) at_63  rfl ?_
  refine WP.iloadN (n := 65) at_64 rfl rfl ?_
  refine WP.bipush (n := 67) (z := (24 : Int32)) at_65 (by decide) rfl ?_
  refine WP.ishr (n := 68) at_67  rfl ?_
  refine WP.sipush (n := 71) (z := (255 : Int32)) at_68 (by decide) rfl ?_
  refine WP.iand (n := 72) at_71  rfl ?_
  refine WP.callS (n := 75) (ce' := 1) (sl' := 4) (Wd := 2) (argsL := [(.int ((i1 >>> ((6 : Int32) &&& 31)) &&& (3 : Int32))), (.int ((i2 >>> ((24 : Int32) &&& 31)) &&& (255 : Int32)))]) (rest := [(.int (3 : Int32)), (.ref c)]) (own_pk l Z a0 hw EL hEL h184 ((i1 >>> ((6 : Int32) &&& 31)) &&& (3 : Int32)) ((i2 >>> ((24 : Int32) &&& 31)) &&& (255 : Int32)) (own_c8r _)) at_72 (hw _ (List.mem_of_getElem? (i := 1) rfl)) (hw _ (List.mem_of_getElem? (i := 2) rfl)) (hw _ (List.mem_of_getElem? (i := 3) rfl)) (hw _ (List.mem_of_getElem? (i := 4) rfl)) (by decide) (fun _ q => nomatch q) (by decide) (by decide) rfl rfl (by decide) (by decide) rfl rfl (lenOf own_pd23 rfl) rfl (Nat.le_of_eq rfl) rfl (fun v185 vm185 h185 q185 r185 => ?_)
  obtain ⟨x185, rfl, hx185, rfl⟩ := q185
  refine WP.inv fun hZ186 hE186 hC186 => ?_
  refine WP.stC (n := 76) (i := 3) (y := x185) at_75 V184_ (by decide) rfl (Nat.le_of_ble_eq_true rfl) (own_c16 hx185) N178 (Safe.arv hZ186.alike V184_ (by decide)) rfl (fun h186 W186 V186 r186 => ?_)
  have V186_ : Arv Z h186 c kc .char 4 ([x179, x181, x183, x185].map Value.int) (.int 0) := V186
  refine WP.iloadN (n := 77) at_76 rfl rfl ?_
  refine WP.ldcI (n := 79) (v := (2147483647 : Int32)) at_77 (hw _ (List.mem_of_getElem? (i := 5) rfl)) rfl ?_
  refine WP.iand (n := 80) at_79  rfl ?_
  refine WP.iconst (n := 81) (z := (5 : Int32)) at_80 rfl rfl ?_
  refine WP.irem (n := 82) at_81 (by decide) rfl ?_
  obtain ⟨n, hn, en⟩ := own_mod5 i0
  rw [en]
  have hr : Rng [x179, x181, x183, x185] := (own_rng_cons hx179 (own_rng_cons hx181 (own_rng_cons hx183 (own_rng_cons hx185 own_rng_nil))))
  have hlen : ([x179, x181, x183, x185].take n).length = n := by rw [List.length_take]; exact Nat.min_eq_left (by show n ≤ 4; exact hn)
  have hcs : ∀ k, k < ([x179, x181, x183, x185].take n).length → ([x179, x181, x183, x185].take n).getD k 0 = [x179, x181, x183, x185].getD k 0 := fun k hk => by rw [List.getD_eq_getElem?_getD, List.getD_eq_getElem?_getD, List.getElem?_take]; rw [hlen] at hk; rw [if_pos hk]
  refine WP.istore (n := 84) (Ls' := #[.val (.int i0), .val (.int i1), .val (.int i2), .val (.ref c), .val (.int (Int32.ofNat n)), .unset, .unset, .unset, .unset, .unset, .unset, .unset]) at_82 rfl rfl ?_
  refine WP.aloadN (n := 85) at_84 rfl rfl rfl ?_
  refine WP.iload (n := 87) at_85 rfl rfl ?_
  refine WP.callS (n := 90) (ce' := 6) (sl' := 16) (Wd := 0) (argsL := [(.ref c), (.int (Int32.ofNat n))]) (rest := []) (own_mk l Z a0 hw EL hEL h186 c kc x179 x181 x183 x185 V186_ hr n hn hm7 cz O hO) at_87 (hw _ (List.mem_of_getElem? (i := 6) rfl)) (hw _ (List.mem_of_getElem? (i := 7) rfl)) (hw _ (List.mem_of_getElem? (i := 3) rfl)) (hw _ (List.mem_of_getElem? (i := 8) rfl)) (by decide) (fun _ q => nomatch q) (by decide) (by decide) rfl rfl (by decide) (by decide) rfl rfl (lenOf own_pd24 rfl) rfl (Nat.le_of_eq rfl) rfl (fun v187 vm187 h187 q187 r187 => ?_)
  obtain ⟨s187, rfl, F187, E187⟩ := q187
  have V187 := V186_.ext E187
  refine WP.astore (n := 92) (Ls' := #[.val (.int i0), .val (.int i1), .val (.int i2), .val (.ref c), .val (.int (Int32.ofNat n)), .val (.ref s187), .unset, .unset, .unset, .unset, .unset, .unset]) at_90 rfl rfl rfl ?_
  refine WP.new (n := 95) (ce' := 7) (sl' := 22) at_92 (hw _ (List.mem_of_getElem? (i := 30) rfl)) (hw _ (List.mem_of_getElem? (i := 31) rfl)) (hw _ (List.mem_of_getElem? (i := 32) rfl)) rfl rfl (by decide) (by decide) rfl (fun a188 h188 g188 E188 A188 D188 S188 N188 r188 => ?_)
  refine WP.dup (n := 96) at_95 rfl rfl ?_
  refine WP.aload (n := 98) at_96 rfl rfl rfl ?_
  refine WP.callP (n := 101) (ce' := 9) (sl' := 54) (Wd := 1) (a := a188) (argsL := [(.ref s187)]) (rest := [(.ref a188)]) (own_gi l Z a0 hw EL hEL h188 a188 s187 _ (F187.ext E188) N188 A188 (D188 (Or.inr (hw _ (List.mem_of_getElem? (i := 46) rfl))) (ty := (.object "java/lang/String")) (by decide)) (D188 (Or.inl (hw _ (List.mem_of_getElem? (i := 57) rfl))) (ty := .int) (by decide)) (D188 (Or.inl (hw _ (List.mem_of_getElem? (i := 38) rfl))) (ty := .int) (by decide)) (D188 (Or.inl (hw _ (List.mem_of_getElem? (i := 80) rfl))) (ty := .int) (by decide)) (D188 (Or.inl (hw _ (List.mem_of_getElem? (i := 126) rfl))) (ty := .boolean) (by decide)) (D188 (Or.inl (hw _ (List.mem_of_getElem? (i := 139) rfl))) (ty := (.object "java/lang/String")) (by decide))) at_98 rfl (hw _ (List.mem_of_getElem? (i := 33) rfl)) (hw _ (List.mem_of_getElem? (i := 34) rfl)) (hw _ (List.mem_of_getElem? (i := 32) rfl)) (hw _ (List.mem_of_getElem? (i := 35) rfl)) (by decide) (fun _ q => nomatch q) (by decide) (by decide) rfl rfl (by decide) (by decide) rfl rfl (lenOf own_pd25 rfl) rfl (Nat.le_of_eq rfl) rfl (fun v189 vm189 h189 q189 r189 => ?_)
  obtain ⟨rfl, K189, F189⟩ := q189
  have V189 := (V187.ext E188).keep K189 (fun q => Exa.neArv A188 (V187.ext E188) (hw _ (List.mem_of_getElem? (i := 31) rfl)) (List.mem_singleton.mp q).symm)
  have G189 := own_sck (F187.ext E188) A188 K189 (by decide) (hw _ (List.mem_of_getElem? (i := 31) rfl))
  refine WP.astore (n := 103) (Ls' := #[.val (.int i0), .val (.int i1), .val (.int i2), .val (.ref c), .val (.int (Int32.ofNat n)), .val (.ref s187), .val (.ref a188), .unset, .unset, .unset, .unset, .unset]) at_101 rfl rfl rfl ?_
  refine WP.iconst (n := 104) (z := (2 : Int32)) at_103 rfl rfl ?_
  refine WP.newP (n := 106) (ce' := 10) (sl' := 56) (cap := 2) (ty := .int) at_104 (hw _ (List.mem_of_getElem? (i := 47) rfl)) rfl (by decide) (by decide) (by decide) rfl rfl (by decide) (by decide) rfl (fun st h190 ks g190 E190 D190 S190 N190 r190 => ?_)
  have D190_ : Arv Z h190 st ks .int 2 [.int 0, .int 0] (.int 0) := D190.pad (pad_rep [] (.int 0) 2)
  have V190_ := V189.ext E190
  have G190_ := G189.ext E190
  have F190_ := F189.ext E190
  refine WP.dup (n := 107) at_106 rfl rfl ?_
  refine WP.iconst (n := 108) (z := (0 : Int32)) at_107 rfl rfl ?_
  refine WP.iconst (n := 109) (z := (0 : Int32)) at_108 rfl rfl ?_
  refine WP.stI (n := 110) (i := 0) at_109 D190_ (by decide) rfl (Nat.le_of_ble_eq_true rfl) N190 rfl (fun h191 W191 D191 r191 => ?_)
  have D191_ : Arv Z h191 st ks .int 2 [.int 0, .int 0] (.int 0) := D191
  have V191_ := V190_.other W191 (own_arvne V190_ D190_ (by decide))
  have G191_ := own_sckA G190_ D190_ (Keep.of_wr W191) (hw _ (List.mem_of_getElem? (i := 10) rfl))
  have F191_ := F190_.keep (Keep.of_wr W191) (fun q => Exa.neArv F190_.1 D190_ (hw _ (List.mem_of_getElem? (i := 31) rfl)) (List.mem_singleton.mp q))
  refine WP.dup (n := 111) at_110 rfl rfl ?_
  refine WP.iconst (n := 112) (z := (1 : Int32)) at_111 rfl rfl ?_
  refine WP.iconst (n := 113) (z := (1 : Int32)) at_112 rfl rfl ?_
  refine WP.stI (n := 114) (i := 1) at_113 D191_ (by decide) rfl (Nat.le_of_ble_eq_true rfl) N190 rfl (fun h192 W192 D192 r192 => ?_)
  have D192_ : Arv Z h192 st ks .int 2 [.int 0, .int 1] (.int 0) := D192
  have V192_ := V191_.other W192 (own_arvne V191_ D191_ (by decide))
  have G192_ := own_sckA G191_ D191_ (Keep.of_wr W192) (hw _ (List.mem_of_getElem? (i := 10) rfl))
  have F192_ := F191_.keep (Keep.of_wr W192) (fun q => Exa.neArv F191_.1 D191_ (hw _ (List.mem_of_getElem? (i := 31) rfl)) (List.mem_singleton.mp q))
  refine WP.astore (n := 116) (Ls' := #[.val (.int i0), .val (.int i1), .val (.int i2), .val (.ref c), .val (.int (Int32.ofNat n)), .val (.ref s187), .val (.ref a188), .val (.ref st), .unset, .unset, .unset, .unset]) at_114 rfl rfl rfl ?_
  refine WP.aload (n := 118) at_116 rfl rfl rfl ?_
  refine WP.aloadN (n := 119) at_118 rfl rfl rfl ?_
  refine WP.iload (n := 121) at_119 rfl rfl ?_
  refine WP.aload (n := 123) at_121 rfl rfl rfl ?_
  have I0 : own_Inv Z _ a188 s187 c st kc ks x179 x181 x183 x185 ([x179, x181, x183, x185].take n) 0 1 := ⟨⟨_, _, _, F192_⟩, G192_, V192_, D192_⟩
  refine WP.callS (n := 126) (ce' := 14) (sl' := 68) (Wd := 0) (argsL := [(.ref a188), (.ref c), (.int (Int32.ofNat n)), (.ref st)]) (rest := []) (own_stp l Z a0 hw EL hEL h192 a188 s187 c st kc ks x179 x181 x183 x185 _ hcs (by rw [hlen]; exact hn) n hlen 0 (Nat.zero_le _) 1 I0 N190 hm fv hv Fm cz O hO) at_123 (hw _ (List.mem_of_getElem? (i := 48) rfl)) (hw _ (List.mem_of_getElem? (i := 49) rfl)) (hw _ (List.mem_of_getElem? (i := 3) rfl)) (hw _ (List.mem_of_getElem? (i := 50) rfl)) (by decide) (fun _ q => nomatch q) (by decide) (by decide) rfl rfl (by decide) (by decide) rfl rfl (lenOf own_pd26 rfl) rfl (Nat.le_of_eq rfl) rfl (fun v193 vm193 h193 q193 r193 => ?_)
  obtain ⟨rfl, p193, l193, hp193, I193⟩ := q193
  refine WP.istore (n := 128) (Ls' := #[.val (.int i0), .val (.int i1), .val (.int i2), .val (.ref c), .val (.int (Int32.ofNat n)), .val (.ref s187), .val (.ref a188), .val (.ref st), .val (.int (1 : Int32)), .unset, .unset, .unset]) at_126 rfl rfl ?_
  refine WP.aload (n := 130) at_128 rfl rfl rfl ?_
  refine WP.aloadN (n := 131) at_130 rfl rfl rfl ?_
  refine WP.iload (n := 133) at_131 rfl rfl ?_
  refine WP.aload (n := 135) at_133 rfl rfl rfl ?_
  refine WP.callS (n := 138) (ce' := 18) (sl' := 80) (Wd := 0) (argsL := [(.ref a188), (.ref c), (.int (Int32.ofNat n)), (.ref st)]) (rest := []) (own_stp l Z a0 hw EL hEL h193 a188 s187 c st kc ks x179 x181 x183 x185 _ hcs (by rw [hlen]; exact hn) n hlen p193 hp193 l193 I193 N190 hm fv hv Fm cz O hO) at_135 (hw _ (List.mem_of_getElem? (i := 48) rfl)) (hw _ (List.mem_of_getElem? (i := 49) rfl)) (hw _ (List.mem_of_getElem? (i := 3) rfl)) (hw _ (List.mem_of_getElem? (i := 50) rfl)) (by decide) (fun _ q => nomatch q) (by decide) (by decide) rfl rfl (by decide) (by decide) rfl rfl (lenOf own_pd26 rfl) rfl (Nat.le_of_eq rfl) rfl (fun v194 vm194 h194 q194 r194 => ?_)
  obtain ⟨rfl, p194, l194, hp194, I194⟩ := q194
  refine WP.istore (n := 140) (Ls' := #[.val (.int i0), .val (.int i1), .val (.int i2), .val (.ref c), .val (.int (Int32.ofNat n)), .val (.ref s187), .val (.ref a188), .val (.ref st), .val (.int (1 : Int32)), .val (.int (1 : Int32)), .unset, .unset]) at_138 rfl rfl ?_
  refine WP.aload (n := 142) at_140 rfl rfl rfl ?_
  refine WP.iconst (n := 143) (z := (0 : Int32)) at_142 rfl rfl ?_
  refine WP.iaload (n := 144) (v := .int (Int32.ofNat p194)) at_143 I194.2.2.2 ⟨by decide, by decide⟩ rfl rfl ?_
  refine WP.istore (n := 146) (Ls' := #[.val (.int i0), .val (.int i1), .val (.int i2), .val (.ref c), .val (.int (Int32.ofNat n)), .val (.ref s187), .val (.ref a188), .val (.ref st), .val (.int (1 : Int32)), .val (.int (1 : Int32)), .val (.int (Int32.ofNat p194)), .unset]) at_144 rfl rfl ?_
  refine WP.aload (n := 148) at_146 rfl rfl rfl ?_
  obtain ⟨⟨pl, tg, pv, FF⟩, GG, -, -⟩ := I194
  by_cases hq : p194 < ([x179, x181, x183, x185].take n).length
  · obtain ⟨tg', f, t, e, hc⟩ := own_cut_ex _ _ hq
    refine WP.callV (n := 151) (ce' := 22) (sl' := 92) (Wd := 0) (a := a188) (argsL := []) (rest := []) (own_nx1 l Z a0 hw EL hEL h194 a188 s187 _ GG _ _ _ _ _ FF tg' f t e hc hm fv hv Fm cz O hO) FF.1 at_148 (hw _ (List.mem_of_getElem? (i := 51) rfl)) (hw _ (List.mem_of_getElem? (i := 52) rfl)) (hw _ (List.mem_of_getElem? (i := 54) rfl)) (hw _ (List.mem_of_getElem? (i := 53) rfl)) (hw _ (List.mem_of_getElem? (i := 32) rfl)) (hw _ (List.mem_of_getElem? (i := 55) rfl)) (by decide) (fun _ hz => notFace_of_selects (args := #[]) (mvT hz (hw _ (List.mem_of_getElem? (i := 54) rfl)))) (fun _ q => nomatch q) (by decide) (by decide) rfl rfl (by decide) (by decide) rfl rfl (lenOf own_pd6 rfl) rfl (Nat.le_of_eq rfl) rfl (fun v195 vm195 h195 q195 r195 => ?_)
    obtain ⟨rfl, K195, y195, Y195, F195⟩ := q195
    rw [hlen] at hq
    refine WP.istore (n := 153) (Ls' := #[.val (.int i0), .val (.int i1), .val (.int i2), .val (.ref c), .val (.int (Int32.ofNat n)), .val (.ref s187), .val (.ref a188), .val (.ref st), .val (.int (1 : Int32)), .val (.int (1 : Int32)), .val (.int (Int32.ofNat p194)), .val (.int (1 : Int32))]) at_151 rfl rfl ?_
    refine WP.iload (n := 155) at_153 rfl rfl ?_
    refine WP.ifcN (n' := 158) at_155 (by decide) rfl ?_
    refine WP.iload (n := 160) at_158 rfl rfl ?_
    refine WP.ifcN (n' := 163) at_160 (by decide) rfl ?_
    refine WP.iload (n := 165) at_163 rfl rfl ?_
    refine WP.iload (n := 167) at_165 rfl rfl ?_
    refine WP.iload (n := 169) at_167 rfl rfl ?_
    refine WP.icmpN (n' := 172) at_169 (tlt (own_lit0 (m := n) (by omega) p194 (by rw [hlen] at hp194; omega) hq)).2.1 rfl ?_
    refine WP.iconst (n := 173) (z := (1 : Int32)) at_172 rfl rfl ?_
    refine WP.goto (n := 177) at_173 (by decide) (by decide) ?_
    refine WP.icmpN (n' := 180) at_177 (by decide) rfl ?_
    refine WP.iconst (n := 181) (z := (1 : Int32)) at_180 rfl rfl ?_
    refine WP.goto (n := 185) at_181 (by decide) (by decide) ?_
    exact WP.retN at_185 rfl (Or.inl rfl) (by decide : nar .boolean 1 = 1) (by decide) (by decide) rfl
  · refine WP.callV (n := 151) (ce' := 22) (sl' := 92) (Wd := 0) (a := a188) (argsL := []) (rest := []) (own_nx0 l Z a0 hw EL hEL h194 a188 s187 _ GG _ _ _ _ _ FF hq (by rw [hlen] at hp194; omega) hm fv hv Fm cz O hO) FF.1 at_148 (hw _ (List.mem_of_getElem? (i := 51) rfl)) (hw _ (List.mem_of_getElem? (i := 52) rfl)) (hw _ (List.mem_of_getElem? (i := 54) rfl)) (hw _ (List.mem_of_getElem? (i := 53) rfl)) (hw _ (List.mem_of_getElem? (i := 32) rfl)) (hw _ (List.mem_of_getElem? (i := 55) rfl)) (by decide) (fun _ hz => notFace_of_selects (args := #[]) (mvT hz (hw _ (List.mem_of_getElem? (i := 54) rfl)))) (fun _ q => nomatch q) (by decide) (by decide) rfl rfl (by decide) (by decide) rfl rfl (lenOf own_pd6 rfl) rfl (Nat.le_of_eq rfl) rfl (fun v196 vm196 h196 q196 r196 => ?_)
    obtain ⟨rfl, rfl⟩ := q196
    rw [hlen] at hq
    refine WP.istore (n := 153) (Ls' := #[.val (.int i0), .val (.int i1), .val (.int i2), .val (.ref c), .val (.int (Int32.ofNat n)), .val (.ref s187), .val (.ref a188), .val (.ref st), .val (.int (1 : Int32)), .val (.int (1 : Int32)), .val (.int (Int32.ofNat p194)), .val (.int (0 : Int32))]) at_151 rfl rfl ?_
    refine WP.iload (n := 155) at_153 rfl rfl ?_
    refine WP.ifcN (n' := 158) at_155 (by decide) rfl ?_
    refine WP.iload (n := 160) at_158 rfl rfl ?_
    refine WP.ifcN (n' := 163) at_160 (by decide) rfl ?_
    refine WP.iload (n := 165) at_163 rfl rfl ?_
    refine WP.iload (n := 167) at_165 rfl rfl ?_
    refine WP.iload (n := 169) at_167 rfl rfl ?_
    refine WP.icmpY (n := 176) at_169 (flt (own_lit1 (m := n) (by omega) p194 (by rw [hlen] at hp194; omega) hq)).2.1 (by decide) (by decide) ?_
    refine WP.iconst (n := 177) (z := (0 : Int32)) at_176 rfl rfl ?_
    refine WP.icmpN (n' := 180) at_177 (by decide) rfl ?_
    refine WP.iconst (n := 181) (z := (1 : Int32)) at_180 rfl rfl ?_
    refine WP.goto (n := 185) at_181 (by decide) (by decide) ?_
    exact WP.retN at_185 rfl (Or.inl rfl) (by decide : nar .boolean 1 = 1) (by decide) (by decide) rfl
set_option maxRecDepth 65536 in
set_option maxHeartbeats 40000000 in
theorem comes_1 {Post : Tables → Env → Array Value → State → Outcome → State → Prop} (hpost : ∀ tb e args s v u, (limb_1_1.after args s (.returned v) u = true ∧ limb_1_2.after args s (.returned v) u = true ∧ True) → FramedW s (.returned v) u (Jvm.fieldLocs frame_1_writes args s ++ Jvm.arrayLocs frame_1_arrays args s ++ Jvm.staticLocs frame_1_statics s) 40 3264 → Post tb e args s (.returned v) u) :
    ArmFor flags0 classFile x code maxLocals ret World_1 tables_1 room_1 Calls_1 rest_1 Pre_1 Post := by
  intro l hfl _ _ p e ha hc hk s m args below hf hA hF happ hP
  obtain ⟨hcalls, hrest, hpre⟩ := hP
  obtain ⟨-, -, -, hnamed, -, -, -, hat⟩ := (Spec.applies_iff hf).mp happ
  obtain ⟨hg, hn⟩ := and_e (Cond.before_iff.mp (show (Jvm.Cond.and given_1 narrow_1).before args s = true from hpre))
  obtain ⟨h1, g0'⟩ := and_e hg
  obtain ⟨w0, w1, w2, rfl⟩ : ∃ w0 w1 w2 : Value, args = #[w0, w1, w2] := by
    have hs : args.size = 3 := by simpa [Cond.value, given_1] using h1
    obtain ⟨L⟩ := args
    match L, hs with
    | [w0, w1, w2], _ => exact ⟨w0, w1, w2, rfl⟩
  have hw := fun d (hd : d ∈ tables_1) => atoms_spec (ws := Jvm.Cond.code x code maxLocals ret :: tables_1) hat d (List.mem_cons_of_mem _ hd)
  obtain ⟨g0, g1'⟩ := and_e g0'
  obtain ⟨i0, e0⟩ := is_v g0
  obtain rfl : w0 = (.int i0) := Option.some.inj e0
  obtain ⟨g1, g2'⟩ := and_e g1'
  obtain ⟨i1, e1⟩ := is_v g1
  obtain rfl : w1 = (.int i1) := Option.some.inj e1
  have g2 := g2'
  obtain ⟨i2, e2⟩ := is_v g2
  obtain rfl : w2 = (.int i2) := Option.some.inj e2
  obtain ⟨hsets, hown0⟩ := atoms_of _ (rest_1_c_eq ▸ (show rest_1_c.before _ s = true from hrest))
  have n3 := not_v (Cond.before_iff.mp (hsets _ (List.mem_of_getElem? (i := 2) rfl)))
  obtain ⟨i7, e7⟩ := is_v (Cond.before_iff.mp (hsets _ (List.mem_of_getElem? (i := 1) rfl)))
  have S8 : Sta s s.heap "java/lang/String" "COMPACT_STRINGS" "Z" (.int i7) := Sta.start e7 (Or.inl (hsets _ (List.mem_of_getElem? (i := 0) rfl)))
  have c13 : ¬ (i7 = (0 : Int32)) := gotF (Cond.eq_ints e7 (Term.int_eval (0))) n3
  have hEL : EW s _ consts_1 := (EW.cons (text := "content") (hw _ (List.mem_of_getElem? (i := 39) rfl)) (by decide) (EW.cons (text := "") (hw _ (List.mem_of_getElem? (i := 22) rfl)) (by decide) (EW.cons (text := "") (hw _ (List.mem_of_getElem? (i := 188) rfl)) (by decide) EW.nil)))
  have hCH : CHv s consts_1 s.vm s.heap := CHv.start hEL (fun p hp => hcalls.1 p hp) (hsets _ (List.mem_of_getElem? (i := 2) rfl)) (hw _ (List.mem_of_getElem? (i := 23) rfl)) (hw _ (List.mem_of_getElem? (i := 10) rfl))
  obtain ⟨fv, ef, hfv⟩ := isR_v (Cond.before_iff.mp (hsets _ (List.mem_of_getElem? (i := 8) rfl)))
  have SF : Sta s s.heap "jdk/internal/util/Preconditions" "SIOOBE_FORMATTER" "Ljava/util/function/BiFunction;" fv := Sta.start ef (Or.inl (hsets _ (List.mem_of_getElem? (i := 7) rfl)))
  obtain ⟨n, o, h1, h2, h3, _, L, rfl, rfl, hE, N, hCh, hNar, hq⟩ := own_law l s _ hw consts_1 hEL s.heap i0 i1 i2 (List.mem_of_getElem? (i := 1) rfl) (List.mem_of_getElem? (i := 2) rfl) fv hfv SF i7 S8 c13 tables_1 p e ha hc hk s m _ below hf ((Spec.applies_iff_loose hf).mp happ).1 ⟨rfl, State.Warmed39.refl s, rfl, ext_refl _, hCH, (fun _ q => nomatch q)⟩ trivial
  obtain ⟨q1, q2, q3, q4⟩ := hq
  refine ⟨n, _, h1, h2, h3, hpost _ _ _ _ _ _ ⟨Cond.after_iff.mpr rfl, Cond.after_iff.mpr (eq_i res_at (Term.int_eval (1)) rfl), trivial⟩ ⟨q1, q2, q3, (q4.sift fun y hy => Or.inr (N y hy)).mono (by decide) (by decide)⟩⟩
theorem main_1_1 : Claimed_1_1 := comes_1 fun _ _ _ _ _ _ h hF => ⟨h.1, hF⟩
theorem main_1_2 : Claimed_1_2 := comes_1 fun _ _ _ _ _ _ h hF => ⟨h.2.1, hF⟩
end Jvm.Pilot.@@N@@
namespace Jvm.Pilot.@@N@@
open Jvm Jvm.ClassFile Sem Op Lib Jvm.Free Jvm.Stand Jvm.Pilot.@@N@@.Jvm.D
/-! MADE BY PROGRAM (witnessworld.py) out of the Statement's table words and the real class files: 24 classes; the members and pool entries that the words name. The judged class is class 1, her method 7. -/
namespace start1
open Jvm.ClassFile
def u (s : String) : CpInfo := .utf8 (stringToUtf16 s)
/-- a pool by its gaps: so many unusable entries, then the entry; so many at the end -/
def gap : Nat → List CpInfo → List CpInfo
  | 0, r => r
  | n + 1, r => .unusable :: gap n r
def poolList (es : List (Nat × CpInfo)) (last : Nat) : List CpInfo := es.foldr (fun e r => gap e.1 (e.2 :: r)) (gap last [])
def pool (es : List (Nat × CpInfo)) (last : Nat) : Array CpInfo := ⟨poolList es last⟩
def fileOf (pool : Array CpInfo) (this : Nat) (attrs : Array Attribute := #[]) (ms : Array MethodInfo := #[]) (fl : Nat := 33) (sup : Nat := 0) (ifs : Array Nat := #[]) (fds : Array FieldInfo := #[]) : ClassFile where
  minorVersion := 0
  majorVersion := 65
  constantPool := pool
  accessFlags := fl
  thisClass := this
  superClass := sup
  interfaces := ifs
  fields := fds
  methods := ms
  attributes := attrs
def plain (name : String) (sup : Option ClassId) : Class where
  name := name
  kind := .ordinary
  loader := none
  accessFlags := 33
  super := sup
  interfaces := #[]
  cf := none
  fields := #[]
  methods := #[]
  instanceTypes := #[]
  staticTypes := #[]
  resolved := #[]
  callSites := []
  init := .initialized
  statics := none
  mirror := none

def pool0 : Array CpInfo := pool [(5, u "<init>"), (0, u "()V"), (1, .class_ 10), (1, u "java/lang/Object")] 113

def k0c0 : Code := { maxStack := 0, maxLocals := 1, code := object_method_1_code, exceptionTable := #[], attributes := #[] }
def k0m0 : Method := { name := "<init>", desc := "()V", sig := { parameters := [], returnType := none }, accessFlags := 1, code := some k0c0 }
/-- java/lang/Object -/
def k0 : Class := { plain "java/lang/Object" none with
  accessFlags := 33
  interfaces := #[]
  cf := some (fileOf pool0 8 #[] #[{ accessFlags := 1, nameIndex := 5, descriptorIndex := 6, attributes := #[] }] 33 0 #[] #[])
  fields := #[]
  methods := #[k0m0]
  instanceTypes := #[]
  staticTypes := #[]
  resolved := Array.replicate 124 none
  statics := none }

def pool1 : Array CpInfo := pool [(2, .class_ 4), (1, u "java/lang/Object"), (0, u "<init>"), (0, u "()V"), (0, .class_ 8), (0, u "java/lang/String"), (0, .methodref 7 10), (0, .nameAndType 5 11), (0, u "([C)V"), (0, .methodref 7 13), (0, .nameAndType 14 15), (0, u "length"), (0, u "()I"), (0, .methodref 7 17), (0, .nameAndType 18 19), (0, u "charAt"), (0, u "(I)C"), (0, .methodref 21 22), (0, .class_ 23), (0, .nameAndType 24 25), (0, u "com/example/fionn/fionn/io/SgmlScanner"), (0, u "next"), (0, u "()Z"), (0, .methodref 27 28), (0, .class_ 29), (0, .nameAndType 30 31), (0, u "com/example/fionn/fionn/io/SgmlScannerNextPinLaw"), (0, u "firstFrom"), (0, u "([CIIC)I"), (0, .methodref 21 33), (0, .nameAndType 34 25), (0, u "isTag"), (0, .methodref 21 36), (0, .nameAndType 37 38), (0, u "piece"), (0, u "()Ljava/lang/String;"), (0, .methodref 27 40), (0, .nameAndType 41 42), (0, u "same"), (0, u "(Ljava/lang/String;[CII)Z"), (0, .methodref 21 44), (0, .nameAndType 45 15), (0, u "line"), (0, .methodref 27 47), (0, .nameAndType 48 49), (0, u "countNl"), (0, u "([CII)I"), (0, .methodref 27 51), (0, .nameAndType 52 53), (0, u "pick"), (0, u "(II)C"), (0, .integer 2147483647), (0, .methodref 27 56), (0, .nameAndType 57 58), (0, u "mk"), (0, u "([CI)Ljava/lang/String;"), (0, .methodref 21 60), (0, .nameAndType 5 61), (0, u "(Ljava/lang/String;)V"), (0, .methodref 27 63), (0, .nameAndType 64 65), (0, u "step"), (0, u "(Lcom/example/fionn/fionn/io/SgmlScanner;[CI[I)Z"), (7, u "law"), (0, u "(III)Z")] 2

def k1m0 : Method := { name := "<init>", desc := "()V", sig := { parameters := [], returnType := none }, accessFlags := 2, code := none }
def k1c1 : Code := { maxStack := 2, maxLocals := 2, code := method_2_code, exceptionTable := #[], attributes := #[] }
def k1m1 : Method := { name := "pick", desc := "(II)C", sig := { parameters := [.int, .int], returnType := some .char }, accessFlags := 10, code := some k1c1 }
def k1c2 : Code := { maxStack := 7, maxLocals := 2, code := method_3_code, exceptionTable := #[], attributes := #[] }
def k1m2 : Method := { name := "mk", desc := "([CI)Ljava/lang/String;", sig := { parameters := [(.array .char), .int], returnType := some (.object "java/lang/String") }, accessFlags := 10, code := some k1c2 }
def k1c3 : Code := { maxStack := 2, maxLocals := 4, code := method_4_code, exceptionTable := #[], attributes := #[] }
def k1m3 : Method := { name := "firstFrom", desc := "([CIIC)I", sig := { parameters := [(.array .char), .int, .int, .char], returnType := some .int }, accessFlags := 10, code := some k1c3 }
def k1c4 : Code := { maxStack := 2, maxLocals := 4, code := method_5_code, exceptionTable := #[], attributes := #[] }
def k1m4 : Method := { name := "countNl", desc := "([CII)I", sig := { parameters := [(.array .char), .int, .int], returnType := some .int }, accessFlags := 10, code := some k1c4 }
def k1c5 : Code := { maxStack := 4, maxLocals := 5, code := method_6_code, exceptionTable := #[], attributes := #[] }
def k1m5 : Method := { name := "same", desc := "(Ljava/lang/String;[CII)Z", sig := { parameters := [(.object "java/lang/String"), (.array .char), .int, .int], returnType := some .boolean }, accessFlags := 10, code := some k1c5 }
def k1c6 : Code := { maxStack := 6, maxLocals := 13, code := method_7_code, exceptionTable := #[], attributes := #[] }
def k1m6 : Method := { name := "step", desc := "(Lcom/example/fionn/fionn/io/SgmlScanner;[CI[I)Z", sig := { parameters := [(.object "com/example/fionn/fionn/io/SgmlScanner"), (.array .char), .int, (.array .int)], returnType := some .boolean }, accessFlags := 10, code := some k1c6 }
def k1c7 : Code := { maxStack := 5, maxLocals := 12, code := code, exceptionTable := #[], attributes := #[] }
def k1m7 : Method := { name := "law", desc := "(III)Z", sig := { parameters := [.int, .int, .int], returnType := some .boolean }, accessFlags := 9, code := some k1c7 }
/-- com/example/fionn/fionn/io/SgmlScannerNextPinLaw -/
def k1 : Class := { plain "com/example/fionn/fionn/io/SgmlScannerNextPinLaw" (some 0) with
  accessFlags := 49
  interfaces := #[]
  cf := some (fileOf pool1 27 #[] #[{ accessFlags := 2, nameIndex := 5, descriptorIndex := 6, attributes := #[] }, { accessFlags := 10, nameIndex := 52, descriptorIndex := 53, attributes := #[] }, { accessFlags := 10, nameIndex := 57, descriptorIndex := 58, attributes := #[] }, { accessFlags := 10, nameIndex := 30, descriptorIndex := 31, attributes := #[] }, { accessFlags := 10, nameIndex := 48, descriptorIndex := 49, attributes := #[] }, { accessFlags := 10, nameIndex := 41, descriptorIndex := 42, attributes := #[] }, { accessFlags := 10, nameIndex := 64, descriptorIndex := 65, attributes := #[] }, { accessFlags := 9, nameIndex := 73, descriptorIndex := 74, attributes := #[] }] 49 2 #[] #[])
  fields := #[]
  methods := #[k1m0, k1m1, k1m2, k1m3, k1m4, k1m5, k1m6, k1m7]
  instanceTypes := #[]
  staticTypes := #[]
  resolved := Array.replicate 77 none
  statics := none }

def pool2 : Array CpInfo := pool [(1, .class_ 2), (0, u "java/io/Serializable"), (0, .class_ 4), (0, u "java/lang/Object")] 2

/-- java/io/Serializable -/
def k2 : Class := { plain "java/io/Serializable" (some 0) with
  accessFlags := 1537
  interfaces := #[]
  cf := some (fileOf pool2 1 #[] #[] 1537 3 #[] #[])
  fields := #[]
  methods := #[]
  instanceTypes := #[]
  staticTypes := #[]
  resolved := Array.replicate 7 none
  statics := none }

def pool3 : Array CpInfo := pool [(1, .class_ 2), (0, u "java/lang/Comparable"), (0, .class_ 4), (0, u "java/lang/Object")] 7

/-- java/lang/Comparable -/
def k3 : Class := { plain "java/lang/Comparable" (some 0) with
  accessFlags := 1537
  interfaces := #[]
  cf := some (fileOf pool3 1 #[] #[] 1537 3 #[] #[])
  fields := #[]
  methods := #[]
  instanceTypes := #[]
  staticTypes := #[]
  resolved := Array.replicate 12 none
  statics := none }

def pool4 : Array CpInfo := pool [(2, .class_ 4), (1, u "java/lang/CharSequence"), (42, .class_ 48), (0, u "java/lang/CharSequence$1CodePointIterator"), (10, .class_ 60), (0, u "java/lang/CharSequence$1CharIterator"), (5, .class_ 67), (0, u "java/lang/Object")] 63

/-- java/lang/CharSequence -/
def k4 : Class := { plain "java/lang/CharSequence" (some 0) with
  accessFlags := 1537
  interfaces := #[]
  cf := some (fileOf pool4 2 #[.nestMembers #[47, 59]] #[] 1537 66 #[] #[])
  fields := #[]
  methods := #[]
  instanceTypes := #[]
  staticTypes := #[]
  resolved := Array.replicate 131 none
  statics := none }

def pool5 : Array CpInfo := pool [(1, .class_ 2), (0, u "java/lang/constant/Constable"), (0, .class_ 4), (0, u "java/lang/Object")] 6

/-- java/lang/constant/Constable -/
def k5 : Class := { plain "java/lang/constant/Constable" (some 0) with
  accessFlags := 1537
  interfaces := #[]
  cf := some (fileOf pool5 1 #[] #[] 1537 3 #[] #[])
  fields := #[]
  methods := #[]
  instanceTypes := #[]
  staticTypes := #[]
  resolved := Array.replicate 11 none
  statics := none }

def pool6 : Array CpInfo := pool [(1, .class_ 2), (0, u "java/lang/constant/ConstantDesc"), (0, .class_ 4), (0, u "java/lang/Object")] 32

/-- java/lang/constant/ConstantDesc -/
def k6 : Class := { plain "java/lang/constant/ConstantDesc" (some 0) with
  accessFlags := 1537
  interfaces := #[]
  cf := some (fileOf pool6 1 #[] #[] 1537 3 #[] #[])
  fields := #[]
  methods := #[]
  instanceTypes := #[]
  staticTypes := #[]
  resolved := Array.replicate 37 none
  statics := none }

def pool7 : Array CpInfo := pool [(1, .methodref 2 3), (0, .class_ 4), (0, .nameAndType 5 6), (0, u "java/lang/Object"), (0, u "<init>"), (0, u "()V"), (0, .string 8), (0, u ""), (0, .fieldref 10 11), (0, .class_ 12), (0, .nameAndType 13 14), (0, u "java/lang/String"), (0, u "value"), (0, u "[B"), (0, .fieldref 10 16), (0, .nameAndType 17 18), (0, u "coder"), (0, u "B"), (2, u "hash"), (0, u "I"), (2, u "hashIsZero"), (0, u "Z"), (0, .methodref 10 28), (0, .nameAndType 5 29), (0, u "([CIILjava/lang/Void;)V"), (8, .fieldref 10 39), (0, .nameAndType 40 26), (0, u "COMPACT_STRINGS"), (1, .class_ 44), (1, u "java/lang/StringUTF16"), (0, u "compress"), (1, .methodref 42 48), (0, .nameAndType 49 50), (0, u "coderFromArrayLen"), (0, u "([BI)B"), (56, .class_ 109), (1, u "java/lang/StringLatin1"), (32, u "()Z"), (34, .methodref 42 178), (0, .nameAndType 45 179), (0, u "([CII)[B"), (31, u "([BB)V"), (122, u "()I"), (0, .methodref 10 336), (0, .nameAndType 17 337), (0, u "()B"), (25, u "([BI)C"), (27, u "(II)V"), (35, u "(I)C"), (64, .methodref 10 493), (0, .nameAndType 494 142), (0, u "isLatin1"), (0, .methodref 107 496), (0, .nameAndType 497 363), (0, u "charAt"), (3, u "checkIndex"), (3, .methodref 10 506), (0, .nameAndType 507 334), (0, u "length"), (5, u "checkFromToIndex"), (7, .methodref 10 522), (0, .nameAndType 523 524), (0, u "checkBoundsBeginEnd"), (0, u "(III)V"), (50, .class_ 576), (0, u "java/lang/CharSequence"), (22, u "CASE_INSENSITIVE_ORDER"), (0, u "Ljava/util/Comparator;"), (34, u "indexOf"), (0, u "(II)I"), (0, .methodref 107 638), (0, .nameAndType 635 639), (0, u "([BIII)I"), (43, u "substring"), (0, u "(II)Ljava/lang/String;"), (0, .methodref 107 686), (0, .nameAndType 687 688), (0, u "newString"), (0, u "([BII)Ljava/lang/String;"), (321, u "([C)V"), (42, .fieldref 1054 1055), (0, .class_ 1056), (0, .nameAndType 1057 1058), (0, u "jdk/internal/util/Preconditions"), (0, u "SIOOBE_FORMATTER"), (0, u "Ljava/util/function/BiFunction;"), (0, .methodref 1054 1060), (0, .nameAndType 501 1061), (0, u "(IILjava/util/function/BiFunction;)I"), (0, .methodref 1054 1063), (0, .nameAndType 513 1064), (0, u "(IIILjava/util/function/BiFunction;)I"), (36, u "serialPersistentFields"), (0, u "[Ljava/io/ObjectStreamField;"), (0, .class_ 1104), (0, u "java/lang/String$CaseInsensitiveComparator"), (1, .class_ 1107), (0, u "java/io/Serializable"), (0, .class_ 1109), (0, u "java/lang/Comparable"), (0, .class_ 1111), (0, u "java/lang/constant/Constable"), (0, .class_ 1113), (0, u "java/lang/constant/ConstantDesc"), (2, u "serialVersionUID"), (0, u "J"), (3, u "REPL"), (0, u "C"), (2, u "LATIN1"), (1, u "UTF16")] 323

def k7m0 : Method := { name := "<init>", desc := "()V", sig := { parameters := [], returnType := none }, accessFlags := 1, code := none }
def k7c1 : Code := { maxStack := 5, maxLocals := 2, code := jdk_42_method_3_code, exceptionTable := #[], attributes := #[] }
def k7m1 : Method := { name := "<init>", desc := "([C)V", sig := { parameters := [(.array .char)], returnType := none }, accessFlags := 1, code := some k7c1 }
def k7c2 : Code := { maxStack := 2, maxLocals := 1, code := jdk_42_method_54_code, exceptionTable := #[], attributes := #[] }
def k7m2 : Method := { name := "length", desc := "()I", sig := { parameters := [], returnType := some .int }, accessFlags := 1, code := some k7c2 }
def k7c3 : Code := { maxStack := 2, maxLocals := 2, code := jdk_42_method_56_code, exceptionTable := #[], attributes := #[] }
def k7m3 : Method := { name := "charAt", desc := "(I)C", sig := { parameters := [.int], returnType := some .char }, accessFlags := 1, code := some k7c3 }
def k7c4 : Code := { maxStack := 4, maxLocals := 3, code := jdk_42_method_80_code, exceptionTable := #[], attributes := #[] }
def k7m4 : Method := { name := "indexOf", desc := "(II)I", sig := { parameters := [.int, .int], returnType := some .int }, accessFlags := 1, code := some k7c4 }
def k7c5 : Code := { maxStack := 3, maxLocals := 5, code := jdk_42_method_92_code, exceptionTable := #[], attributes := #[] }
def k7m5 : Method := { name := "substring", desc := "(II)Ljava/lang/String;", sig := { parameters := [.int, .int], returnType := some (.object "java/lang/String") }, accessFlags := 1, code := some k7c5 }
def k7c6 : Code := { maxStack := 4, maxLocals := 6, code := jdk_42_method_149_code, exceptionTable := #[], attributes := #[] }
def k7m6 : Method := { name := "<init>", desc := "([CIILjava/lang/Void;)V", sig := { parameters := [(.array .char), .int, .int, (.object "java/lang/Void")], returnType := none }, accessFlags := 2, code := some k7c6 }
def k7c7 : Code := { maxStack := 2, maxLocals := 3, code := jdk_42_method_151_code, exceptionTable := #[], attributes := #[] }
def k7m7 : Method := { name := "<init>", desc := "([BB)V", sig := { parameters := [(.array .byte), .byte], returnType := none }, accessFlags := 0, code := some k7c7 }
def k7c8 : Code := { maxStack := 1, maxLocals := 1, code := jdk_42_method_152_code, exceptionTable := #[], attributes := #[] }
def k7m8 : Method := { name := "coder", desc := "()B", sig := { parameters := [], returnType := some .byte }, accessFlags := 0, code := some k7c8 }
def k7c9 : Code := { maxStack := 1, maxLocals := 1, code := jdk_42_method_154_code, exceptionTable := #[], attributes := #[] }
def k7m9 : Method := { name := "isLatin1", desc := "()Z", sig := { parameters := [], returnType := some .boolean }, accessFlags := 0, code := some k7c9 }
def k7c10 : Code := { maxStack := 3, maxLocals := 2, code := jdk_42_method_155_code, exceptionTable := #[], attributes := #[] }
def k7m10 : Method := { name := "checkIndex", desc := "(II)V", sig := { parameters := [.int, .int], returnType := none }, accessFlags := 8, code := some k7c10 }
def k7c11 : Code := { maxStack := 4, maxLocals := 3, code := jdk_42_method_158_code, exceptionTable := #[], attributes := #[] }
def k7m11 : Method := { name := "checkBoundsBeginEnd", desc := "(III)V", sig := { parameters := [.int, .int, .int], returnType := none }, accessFlags := 8, code := some k7c11 }
/-- java/lang/String -/
def k7 : Class := { plain "java/lang/String" (some 0) with
  accessFlags := 49
  interfaces := #[2, 3, 4, 5, 6]
  cf := some (fileOf pool7 10 #[.nestMembers #[1103]] #[{ accessFlags := 1, nameIndex := 5, descriptorIndex := 6, attributes := #[] }, { accessFlags := 1, nameIndex := 5, descriptorIndex := 1010, attributes := #[] }, { accessFlags := 1, nameIndex := 507, descriptorIndex := 334, attributes := #[] }, { accessFlags := 1, nameIndex := 497, descriptorIndex := 427, attributes := #[] }, { accessFlags := 1, nameIndex := 635, descriptorIndex := 636, attributes := #[] }, { accessFlags := 1, nameIndex := 683, descriptorIndex := 684, attributes := #[] }, { accessFlags := 2, nameIndex := 5, descriptorIndex := 29, attributes := #[] }, { accessFlags := 0, nameIndex := 5, descriptorIndex := 211, attributes := #[] }, { accessFlags := 0, nameIndex := 17, descriptorIndex := 337, attributes := #[] }, { accessFlags := 0, nameIndex := 494, descriptorIndex := 142, attributes := #[] }, { accessFlags := 8, nameIndex := 501, descriptorIndex := 391, attributes := #[] }, { accessFlags := 8, nameIndex := 523, descriptorIndex := 524, attributes := #[] }] 49 2 #[1106, 1108, 575, 1110, 1112] #[{ accessFlags := 18, nameIndex := 13, descriptorIndex := 14, attributes := #[] }, { accessFlags := 18, nameIndex := 17, descriptorIndex := 18, attributes := #[] }, { accessFlags := 2, nameIndex := 21, descriptorIndex := 22, attributes := #[] }, { accessFlags := 2, nameIndex := 25, descriptorIndex := 26, attributes := #[] }, { accessFlags := 26, nameIndex := 1116, descriptorIndex := 1117, attributes := #[] }, { accessFlags := 24, nameIndex := 40, descriptorIndex := 26, attributes := #[] }, { accessFlags := 26, nameIndex := 1101, descriptorIndex := 1102, attributes := #[] }, { accessFlags := 26, nameIndex := 1121, descriptorIndex := 1122, attributes := #[] }, { accessFlags := 25, nameIndex := 599, descriptorIndex := 600, attributes := #[] }, { accessFlags := 24, nameIndex := 1125, descriptorIndex := 18, attributes := #[] }, { accessFlags := 24, nameIndex := 1127, descriptorIndex := 18, attributes := #[] }])
  fields := #[{ name := "value", type := (.array .byte), accessFlags := 18, slot := 0, constantValue := 0 }, { name := "coder", type := .byte, accessFlags := 18, slot := 1, constantValue := 0 }, { name := "hash", type := .int, accessFlags := 2, slot := 2, constantValue := 0 }, { name := "hashIsZero", type := .boolean, accessFlags := 2, slot := 3, constantValue := 0 }, { name := "serialVersionUID", type := .long, accessFlags := 26, slot := 0, constantValue := 0 }, { name := "COMPACT_STRINGS", type := .boolean, accessFlags := 24, slot := 1, constantValue := 0 }, { name := "serialPersistentFields", type := (.array (.object "java/io/ObjectStreamField")), accessFlags := 26, slot := 2, constantValue := 0 }, { name := "REPL", type := .char, accessFlags := 26, slot := 3, constantValue := 0 }, { name := "CASE_INSENSITIVE_ORDER", type := (.object "java/util/Comparator"), accessFlags := 25, slot := 4, constantValue := 0 }, { name := "LATIN1", type := .byte, accessFlags := 24, slot := 5, constantValue := 0 }, { name := "UTF16", type := .byte, accessFlags := 24, slot := 6, constantValue := 0 }]
  methods := #[k7m0, k7m1, k7m2, k7m3, k7m4, k7m5, k7m6, k7m7, k7m8, k7m9, k7m10, k7m11]
  instanceTypes := #[(.array .byte), .byte, .int, .boolean]
  staticTypes := #[.long, .boolean, (.array (.object "java/io/ObjectStreamField")), .char, (.object "java/util/Comparator"), .byte, .byte]
  resolved := Array.replicate 1451 none
  statics := some 0 }

def pool8 : Array CpInfo := pool [(1, .methodref 2 3), (0, .class_ 4), (0, .nameAndType 5 6), (0, u "java/lang/Object"), (0, u "<init>"), (0, u "()V"), (0, .fieldref 8 9), (0, .class_ 10), (0, .nameAndType 11 12), (0, u "com/example/fionn/fionn/io/SgmlScanner"), (0, u "line"), (0, u "I"), (0, .string 14), (0, u "content"), (0, .methodref 16 17), (0, .class_ 18), (0, .nameAndType 19 20), (0, u "java/util/Objects"), (0, u "requireNonNull"), (0, u "(Ljava/lang/Object;Ljava/lang/String;)Ljava/lang/Object;"), (0, .class_ 22), (0, u "java/lang/String"), (0, .fieldref 8 24), (0, .nameAndType 14 25), (0, u "Ljava/lang/String;"), (0, .fieldref 8 27), (0, .nameAndType 28 12), (0, u "position"), (0, .methodref 21 30), (0, .nameAndType 31 32), (0, u "length"), (0, u "()I"), (0, .fieldref 8 34), (0, .nameAndType 35 12), (0, u "pieceLine"), (0, .methodref 21 37), (0, .nameAndType 38 39), (0, u "charAt"), (0, u "(I)C"), (0, .methodref 21 41), (0, .nameAndType 42 43), (0, u "indexOf"), (0, u "(II)I"), (0, .fieldref 8 45), (0, .nameAndType 46 47), (0, u "tag"), (0, u "Z"), (0, .methodref 21 49), (0, .nameAndType 50 51), (0, u "substring"), (0, u "(II)Ljava/lang/String;"), (0, .fieldref 8 53), (0, .nameAndType 54 25), (0, u "piece"), (0, u "(Ljava/lang/String;)V"), (2, u "next"), (0, u "()Z"), (1, u "isTag"), (0, u "()Ljava/lang/String;")] 2

def k8c0 : Code := { maxStack := 3, maxLocals := 2, code := prog_18_method_1_code, exceptionTable := #[], attributes := #[] }
def k8m0 : Method := { name := "<init>", desc := "(Ljava/lang/String;)V", sig := { parameters := [(.object "java/lang/String")], returnType := none }, accessFlags := 0, code := some k8c0 }
def k8c1 : Code := { maxStack := 4, maxLocals := 4, code := prog_18_method_2_code, exceptionTable := #[], attributes := #[] }
def k8m1 : Method := { name := "next", desc := "()Z", sig := { parameters := [], returnType := some .boolean }, accessFlags := 0, code := some k8c1 }
def k8c2 : Code := { maxStack := 1, maxLocals := 1, code := prog_18_method_3_code, exceptionTable := #[], attributes := #[] }
def k8m2 : Method := { name := "isTag", desc := "()Z", sig := { parameters := [], returnType := some .boolean }, accessFlags := 0, code := some k8c2 }
def k8c3 : Code := { maxStack := 1, maxLocals := 1, code := prog_18_method_4_code, exceptionTable := #[], attributes := #[] }
def k8m3 : Method := { name := "piece", desc := "()Ljava/lang/String;", sig := { parameters := [], returnType := some (.object "java/lang/String") }, accessFlags := 0, code := some k8c3 }
def k8c4 : Code := { maxStack := 1, maxLocals := 1, code := prog_18_method_5_code, exceptionTable := #[], attributes := #[] }
def k8m4 : Method := { name := "line", desc := "()I", sig := { parameters := [], returnType := some .int }, accessFlags := 0, code := some k8c4 }
/-- com/example/fionn/fionn/io/SgmlScanner -/
def k8 : Class := { plain "com/example/fionn/fionn/io/SgmlScanner" (some 0) with
  accessFlags := 48
  interfaces := #[]
  cf := some (fileOf pool8 8 #[] #[{ accessFlags := 0, nameIndex := 5, descriptorIndex := 55, attributes := #[] }, { accessFlags := 0, nameIndex := 58, descriptorIndex := 59, attributes := #[] }, { accessFlags := 0, nameIndex := 61, descriptorIndex := 59, attributes := #[] }, { accessFlags := 0, nameIndex := 54, descriptorIndex := 62, attributes := #[] }, { accessFlags := 0, nameIndex := 11, descriptorIndex := 32, attributes := #[] }] 48 2 #[] #[{ accessFlags := 18, nameIndex := 14, descriptorIndex := 25, attributes := #[] }, { accessFlags := 2, nameIndex := 28, descriptorIndex := 12, attributes := #[] }, { accessFlags := 2, nameIndex := 11, descriptorIndex := 12, attributes := #[] }, { accessFlags := 2, nameIndex := 46, descriptorIndex := 47, attributes := #[] }, { accessFlags := 2, nameIndex := 54, descriptorIndex := 25, attributes := #[] }, { accessFlags := 2, nameIndex := 35, descriptorIndex := 12, attributes := #[] }])
  fields := #[{ name := "content", type := (.object "java/lang/String"), accessFlags := 18, slot := 0, constantValue := 0 }, { name := "position", type := .int, accessFlags := 2, slot := 1, constantValue := 0 }, { name := "line", type := .int, accessFlags := 2, slot := 2, constantValue := 0 }, { name := "tag", type := .boolean, accessFlags := 2, slot := 3, constantValue := 0 }, { name := "piece", type := (.object "java/lang/String"), accessFlags := 2, slot := 4, constantValue := 0 }, { name := "pieceLine", type := .int, accessFlags := 2, slot := 5, constantValue := 0 }]
  methods := #[k8m0, k8m1, k8m2, k8m3, k8m4]
  instanceTypes := #[(.object "java/lang/String"), .int, .int, .boolean, (.object "java/lang/String"), .int]
  staticTypes := #[]
  resolved := Array.replicate 65 none
  statics := none }

def pool9 : Array CpInfo := pool [(2, .class_ 4), (1, u "java/lang/Object"), (0, u "<init>"), (0, u "()V"), (35, .class_ 44), (1, u "java/util/Objects"), (0, u "requireNonNull"), (48, u "(Ljava/lang/Object;Ljava/lang/String;)Ljava/lang/Object;")] 89

def k9m0 : Method := { name := "<init>", desc := "()V", sig := { parameters := [], returnType := none }, accessFlags := 2, code := none }
def k9c1 : Code := { maxStack := 3, maxLocals := 2, code := jdk_31_method_11_code, exceptionTable := #[], attributes := #[] }
def k9m1 : Method := { name := "requireNonNull", desc := "(Ljava/lang/Object;Ljava/lang/String;)Ljava/lang/Object;", sig := { parameters := [(.object "java/lang/Object"), (.object "java/lang/String")], returnType := some (.object "java/lang/Object") }, accessFlags := 9, code := some k9c1 }
/-- java/util/Objects -/
def k9 : Class := { plain "java/util/Objects" (some 0) with
  accessFlags := 49
  interfaces := #[]
  cf := some (fileOf pool9 42 #[] #[{ accessFlags := 2, nameIndex := 5, descriptorIndex := 6, attributes := #[] }, { accessFlags := 9, nameIndex := 45, descriptorIndex := 94, attributes := #[] }] 49 2 #[] #[])
  fields := #[]
  methods := #[k9m0, k9m1]
  instanceTypes := #[]
  staticTypes := #[]
  resolved := Array.replicate 184 none
  statics := none }

def pool10 : Array CpInfo := pool [(6, .class_ 8), (1, u "java/lang/Object"), (0, u "<init>"), (0, u "()V"), (1, .class_ 14), (1, u "java/lang/StringUTF16"), (31, u "$assertionsDisabled"), (0, u "Z"), (13, u "HI_BYTE_SHIFT"), (0, u "I"), (2, u "LO_BYTE_SHIFT"), (49, .methodref 12 116), (0, .nameAndType 117 118), (0, u "compress"), (0, u "([CI[BII)I"), (3, u "([CII)[B"), (138, u "coderFromArrayLen"), (0, u "([BI)B"), (106, .class_ 371), (1, u "java/lang/StringUTF16$LinesSpliterator"), (58, u "MAX_LENGTH"), (196, .class_ 628), (0, u "java/lang/StringUTF16$CodePointsSpliterator"), (0, .class_ 630), (0, u "java/lang/StringUTF16$CharsSpliterator")] 4

def k10m0 : Method := { name := "<init>", desc := "()V", sig := { parameters := [], returnType := none }, accessFlags := 0, code := none }
def k10c1 : Code := { maxStack := 2, maxLocals := 2, code := jdk_52_method_15_code, exceptionTable := #[], attributes := #[] }
def k10m1 : Method := { name := "coderFromArrayLen", desc := "([BI)B", sig := { parameters := [(.array .byte), .int], returnType := some .byte }, accessFlags := 8, code := some k10c1 }
def k10c2 : Code := { maxStack := 5, maxLocals := 6, code := jdk_52_method_16_code, exceptionTable := #[], attributes := #[] }
def k10m2 : Method := { name := "compress", desc := "([CII)[B", sig := { parameters := [(.array .char), .int, .int], returnType := some (.array .byte) }, accessFlags := 9, code := some k10c2 }
def k10c3 : Code := { maxStack := 3, maxLocals := 7, code := jdk_52_method_21_code, exceptionTable := #[], attributes := #[] }
def k10m3 : Method := { name := "compress", desc := "([CI[BII)I", sig := { parameters := [(.array .char), .int, (.array .byte), .int, .int], returnType := some .int }, accessFlags := 9, code := some k10c3 }
/-- java/lang/StringUTF16 -/
def k10 : Class := { plain "java/lang/StringUTF16" (some 0) with
  accessFlags := 48
  interfaces := #[]
  cf := some (fileOf pool10 12 #[.nestMembers #[627, 629, 369]] #[{ accessFlags := 0, nameIndex := 9, descriptorIndex := 10, attributes := #[] }, { accessFlags := 8, nameIndex := 261, descriptorIndex := 262, attributes := #[] }, { accessFlags := 9, nameIndex := 117, descriptorIndex := 122, attributes := #[] }, { accessFlags := 9, nameIndex := 117, descriptorIndex := 118, attributes := #[] }] 48 6 #[] #[{ accessFlags := 26, nameIndex := 61, descriptorIndex := 62, attributes := #[] }, { accessFlags := 26, nameIndex := 65, descriptorIndex := 62, attributes := #[] }, { accessFlags := 24, nameIndex := 430, descriptorIndex := 62, attributes := #[] }, { accessFlags := 4120, nameIndex := 46, descriptorIndex := 47, attributes := #[] }])
  fields := #[{ name := "HI_BYTE_SHIFT", type := .int, accessFlags := 26, slot := 0, constantValue := 0 }, { name := "LO_BYTE_SHIFT", type := .int, accessFlags := 26, slot := 1, constantValue := 0 }, { name := "MAX_LENGTH", type := .int, accessFlags := 24, slot := 2, constantValue := 0 }, { name := "$assertionsDisabled", type := .boolean, accessFlags := 4120, slot := 3, constantValue := 0 }]
  methods := #[k10m0, k10m1, k10m2, k10m3]
  instanceTypes := #[]
  staticTypes := #[.int, .int, .int, .boolean]
  resolved := Array.replicate 635 none
  statics := none }

def pool11 : Array CpInfo := pool [(1, .class_ 2), (0, u "java/lang/String"), (1, .class_ 6), (1, u "java/lang/Object"), (0, u "<init>"), (0, u "()V"), (0, .methodref 1 10), (0, .nameAndType 11 12), (0, u "checkIndex"), (0, u "(II)V"), (1, .class_ 16), (1, u "java/lang/StringLatin1"), (21, .methodref 39 40), (0, .class_ 41), (0, .nameAndType 42 43), (0, u "java/lang/Math"), (0, u "min"), (0, u "(II)I"), (9, u "([BI)C"), (34, .methodref 14 89), (0, .nameAndType 90 91), (0, u "canEncode"), (0, u "(I)Z"), (0, .methodref 39 93), (0, .nameAndType 94 43), (0, u "max"), (0, .methodref 14 96), (0, .nameAndType 97 98), (0, u "indexOfChar"), (0, u "([BIII)I"), (2, u "indexOf"), (10, .methodref 1 113), (0, .nameAndType 7 114), (0, u "([BB)V"), (6, u "$assertionsDisabled"), (0, u "Z"), (8, .class_ 133), (1, u "java/util/Arrays"), (17, .string 152), (0, u ""), (43, u "newString"), (0, u "([BII)Ljava/lang/String;"), (23, .class_ 223), (1, u "java/lang/StringLatin1$LinesSpliterator"), (8, .methodref 131 233), (0, .nameAndType 234 235), (0, u "copyOfRange"), (0, u "([BII)[B"), (16, u "charAt"), (137, .class_ 391), (0, u "java/lang/StringLatin1$CharsSpliterator")] 3

def k11m0 : Method := { name := "<init>", desc := "()V", sig := { parameters := [], returnType := none }, accessFlags := 0, code := none }
def k11c1 : Code := { maxStack := 2, maxLocals := 2, code := jdk_43_method_2_code, exceptionTable := #[], attributes := #[] }
def k11m1 : Method := { name := "charAt", desc := "([BI)C", sig := { parameters := [(.array .byte), .int], returnType := some .char }, accessFlags := 9, code := some k11c1 }
def k11c2 : Code := { maxStack := 2, maxLocals := 1, code := jdk_43_method_4_code, exceptionTable := #[], attributes := #[] }
def k11m2 : Method := { name := "canEncode", desc := "(I)Z", sig := { parameters := [.int], returnType := some .boolean }, accessFlags := 9, code := some k11c2 }
def k11c3 : Code := { maxStack := 4, maxLocals := 4, code := jdk_43_method_22_code, exceptionTable := #[], attributes := #[] }
def k11m3 : Method := { name := "indexOf", desc := "([BIII)I", sig := { parameters := [(.array .byte), .int, .int, .int], returnType := some .int }, accessFlags := 9, code := some k11c3 }
def k11c4 : Code := { maxStack := 2, maxLocals := 6, code := jdk_43_method_23_code, exceptionTable := #[], attributes := #[] }
def k11m4 : Method := { name := "indexOfChar", desc := "([BIII)I", sig := { parameters := [(.array .byte), .int, .int, .int], returnType := some .int }, accessFlags := 10, code := some k11c4 }
def k11c5 : Code := { maxStack := 6, maxLocals := 3, code := jdk_43_method_47_code, exceptionTable := #[], attributes := #[] }
def k11m5 : Method := { name := "newString", desc := "([BII)Ljava/lang/String;", sig := { parameters := [(.array .byte), .int, .int], returnType := some (.object "java/lang/String") }, accessFlags := 9, code := some k11c5 }
/-- java/lang/StringLatin1 -/
def k11 : Class := { plain "java/lang/StringLatin1" (some 0) with
  accessFlags := 48
  interfaces := #[]
  cf := some (fileOf pool11 14 #[.nestMembers #[390, 221]] #[{ accessFlags := 0, nameIndex := 7, descriptorIndex := 8, attributes := #[] }, { accessFlags := 9, nameIndex := 252, descriptorIndex := 53, attributes := #[] }, { accessFlags := 9, nameIndex := 90, descriptorIndex := 91, attributes := #[] }, { accessFlags := 9, nameIndex := 101, descriptorIndex := 98, attributes := #[] }, { accessFlags := 10, nameIndex := 97, descriptorIndex := 98, attributes := #[] }, { accessFlags := 9, nameIndex := 196, descriptorIndex := 197, attributes := #[] }] 48 4 #[] #[{ accessFlags := 4120, nameIndex := 121, descriptorIndex := 122, attributes := #[] }])
  fields := #[{ name := "$assertionsDisabled", type := .boolean, accessFlags := 4120, slot := 0, constantValue := 0 }]
  methods := #[k11m0, k11m1, k11m2, k11m3, k11m4, k11m5]
  instanceTypes := #[]
  staticTypes := #[.boolean]
  resolved := Array.replicate 395 none
  statics := none }

def pool12 : Array CpInfo := pool [(2, .class_ 4), (1, u "java/lang/Object"), (0, u "<init>"), (0, u "()V"), (17, .class_ 26), (1, u "jdk/internal/util/Preconditions"), (6, u "checkIndex"), (13, u "checkFromToIndex"), (7, .class_ 56), (0, u "jdk/internal/util/Preconditions$4"), (57, .class_ 115), (0, u "jdk/internal/util/Preconditions$1"), (7, u "SIOOBE_FORMATTER"), (0, u "Ljava/util/function/BiFunction;"), (0, .class_ 126), (0, u "jdk/internal/util/Preconditions$2"), (3, u "AIOOBE_FORMATTER"), (0, .class_ 132), (0, u "jdk/internal/util/Preconditions$3"), (3, u "IOOBE_FORMATTER"), (41, u "(IILjava/util/function/BiFunction;)I"), (4, u "(IIILjava/util/function/BiFunction;)I")] 10

def k12m0 : Method := { name := "<init>", desc := "()V", sig := { parameters := [], returnType := none }, accessFlags := 1, code := none }
def k12c1 : Code := { maxStack := 3, maxLocals := 3, code := jdk_41_method_11_code, exceptionTable := #[], attributes := #[] }
def k12m1 : Method := { name := "checkIndex", desc := "(IILjava/util/function/BiFunction;)I", sig := { parameters := [.int, .int, (.object "java/util/function/BiFunction")], returnType := some .int }, accessFlags := 9, code := some k12c1 }
def k12c2 : Code := { maxStack := 4, maxLocals := 4, code := jdk_41_method_12_code, exceptionTable := #[], attributes := #[] }
def k12m2 : Method := { name := "checkFromToIndex", desc := "(IIILjava/util/function/BiFunction;)I", sig := { parameters := [.int, .int, .int, (.object "java/util/function/BiFunction")], returnType := some .int }, accessFlags := 9, code := some k12c2 }
/-- jdk/internal/util/Preconditions -/
def k12 : Class := { plain "jdk/internal/util/Preconditions" (some 0) with
  accessFlags := 33
  interfaces := #[]
  cf := some (fileOf pool12 24 #[.nestMembers #[55, 131, 125, 114]] #[{ accessFlags := 1, nameIndex := 5, descriptorIndex := 6, attributes := #[] }, { accessFlags := 9, nameIndex := 33, descriptorIndex := 178, attributes := #[] }, { accessFlags := 9, nameIndex := 47, descriptorIndex := 183, attributes := #[] }] 33 2 #[] #[{ accessFlags := 25, nameIndex := 123, descriptorIndex := 124, attributes := #[] }, { accessFlags := 25, nameIndex := 130, descriptorIndex := 124, attributes := #[] }, { accessFlags := 25, nameIndex := 136, descriptorIndex := 124, attributes := #[] }])
  fields := #[{ name := "SIOOBE_FORMATTER", type := (.object "java/util/function/BiFunction"), accessFlags := 25, slot := 0, constantValue := 0 }, { name := "AIOOBE_FORMATTER", type := (.object "java/util/function/BiFunction"), accessFlags := 25, slot := 1, constantValue := 0 }, { name := "IOOBE_FORMATTER", type := (.object "java/util/function/BiFunction"), accessFlags := 25, slot := 2, constantValue := 0 }]
  methods := #[k12m0, k12m1, k12m2]
  instanceTypes := #[]
  staticTypes := #[(.object "java/util/function/BiFunction"), (.object "java/util/function/BiFunction"), (.object "java/util/function/BiFunction")]
  resolved := Array.replicate 194 none
  statics := some 1 }

def pool13 : Array CpInfo := pool [(1, .class_ 2), (0, u "java/lang/Math"), (1, .class_ 6), (1, u "java/lang/Object"), (0, u "<init>"), (0, u "()V"), (89, .class_ 100), (1, u "java/lang/Math$RandomNumberGeneratorHolder"), (71, u "negativeZeroFloatBits"), (0, u "J"), (2, u "negativeZeroDoubleBits"), (21, u "max"), (2, u "min"), (43, u "$assertionsDisabled"), (0, u "Z"), (88, u "(II)I"), (2, u "twoToTheDoubleScaleDown"), (0, u "D"), (4, u "twoToTheDoubleScaleUp"), (9, u "E"), (3, u "PI"), (2, u "TAU"), (2, u "DEGREES_TO_RADIANS"), (0, u "RADIANS_TO_DEGREES")] 94

def k13m0 : Method := { name := "<init>", desc := "()V", sig := { parameters := [], returnType := none }, accessFlags := 2, code := none }
def k13c1 : Code := { maxStack := 2, maxLocals := 2, code := jdk_29_method_65_code, exceptionTable := #[], attributes := #[] }
def k13m1 : Method := { name := "max", desc := "(II)I", sig := { parameters := [.int, .int], returnType := some .int }, accessFlags := 9, code := some k13c1 }
def k13c2 : Code := { maxStack := 2, maxLocals := 2, code := jdk_29_method_69_code, exceptionTable := #[], attributes := #[] }
def k13m2 : Method := { name := "min", desc := "(II)I", sig := { parameters := [.int, .int], returnType := some .int }, accessFlags := 9, code := some k13c2 }
/-- java/lang/Math -/
def k13 : Class := { plain "java/lang/Math" (some 0) with
  accessFlags := 49
  interfaces := #[]
  cf := some (fileOf pool13 1 #[.nestMembers #[98]] #[{ accessFlags := 2, nameIndex := 7, descriptorIndex := 8, attributes := #[] }, { accessFlags := 9, nameIndex := 198, descriptorIndex := 335, attributes := #[] }, { accessFlags := 9, nameIndex := 201, descriptorIndex := 335, attributes := #[] }] 49 4 #[] #[{ accessFlags := 25, nameIndex := 354, descriptorIndex := 339, attributes := #[] }, { accessFlags := 25, nameIndex := 358, descriptorIndex := 339, attributes := #[] }, { accessFlags := 25, nameIndex := 361, descriptorIndex := 339, attributes := #[] }, { accessFlags := 26, nameIndex := 364, descriptorIndex := 339, attributes := #[] }, { accessFlags := 26, nameIndex := 365, descriptorIndex := 339, attributes := #[] }, { accessFlags := 26, nameIndex := 172, descriptorIndex := 173, attributes := #[] }, { accessFlags := 26, nameIndex := 176, descriptorIndex := 173, attributes := #[] }, { accessFlags := 8, nameIndex := 344, descriptorIndex := 339, attributes := #[] }, { accessFlags := 8, nameIndex := 338, descriptorIndex := 339, attributes := #[] }, { accessFlags := 4120, nameIndex := 245, descriptorIndex := 246, attributes := #[] }])
  fields := #[{ name := "E", type := .double, accessFlags := 25, slot := 0, constantValue := 0 }, { name := "PI", type := .double, accessFlags := 25, slot := 1, constantValue := 0 }, { name := "TAU", type := .double, accessFlags := 25, slot := 2, constantValue := 0 }, { name := "DEGREES_TO_RADIANS", type := .double, accessFlags := 26, slot := 3, constantValue := 0 }, { name := "RADIANS_TO_DEGREES", type := .double, accessFlags := 26, slot := 4, constantValue := 0 }, { name := "negativeZeroFloatBits", type := .long, accessFlags := 26, slot := 5, constantValue := 0 }, { name := "negativeZeroDoubleBits", type := .long, accessFlags := 26, slot := 6, constantValue := 0 }, { name := "twoToTheDoubleScaleUp", type := .double, accessFlags := 8, slot := 7, constantValue := 0 }, { name := "twoToTheDoubleScaleDown", type := .double, accessFlags := 8, slot := 8, constantValue := 0 }, { name := "$assertionsDisabled", type := .boolean, accessFlags := 4120, slot := 9, constantValue := 0 }]
  methods := #[k13m0, k13m1, k13m2]
  instanceTypes := #[]
  staticTypes := #[.double, .double, .double, .double, .double, .long, .long, .double, .double, .boolean]
  resolved := Array.replicate 460 none
  statics := none }

def pool14 : Array CpInfo := pool [(2, .class_ 4), (1, u "java/lang/Object"), (0, u "<init>"), (0, u "()V"), (7, .class_ 16), (1, u "java/util/Arrays"), (57, .class_ 76), (1, u "java/util/Arrays$NaturalOrder"), (36, .class_ 115), (1, u "java/util/Arrays$LegacyMergeSort"), (1, u "Z"), (21, u "copyOfRange"), (10, .methodref 151 152), (0, .class_ 153), (0, .nameAndType 154 155), (0, u "java/lang/System"), (0, u "arraycopy"), (0, u "(Ljava/lang/Object;ILjava/lang/Object;II)V"), (148, .methodref 305 306), (0, .class_ 307), (0, .nameAndType 308 309), (0, u "java/lang/Math"), (0, u "min"), (0, u "(II)I"), (29, .methodref 14 340), (0, .nameAndType 341 342), (0, u "copyOfRangeByte"), (0, u "([BII)[B"), (0, .methodref 14 344), (0, .nameAndType 345 346), (0, u "checkLength"), (0, u "(II)V"), (28, .class_ 376), (0, u "java/util/Arrays$ArrayList"), (68, u "$assertionsDisabled"), (269, u "MIN_ARRAY_SORT_GRAN"), (0, u "I"), (2, u "INSERTIONSORT_THRESHOLD"), (255, .class_ 976), (0, u "java/util/Arrays$ArrayItr")] 52

def k14m0 : Method := { name := "<init>", desc := "()V", sig := { parameters := [], returnType := none }, accessFlags := 2, code := none }
def k14c1 : Code := { maxStack := 4, maxLocals := 2, code := jdk_65_method_131_code, exceptionTable := #[], attributes := #[] }
def k14m1 : Method := { name := "checkLength", desc := "(II)V", sig := { parameters := [.int, .int], returnType := none }, accessFlags := 10, code := some k14c1 }
def k14c2 : Code := { maxStack := 3, maxLocals := 3, code := jdk_65_method_132_code, exceptionTable := #[], attributes := #[] }
def k14m2 : Method := { name := "copyOfRange", desc := "([BII)[B", sig := { parameters := [(.array .byte), .int, .int], returnType := some (.array .byte) }, accessFlags := 9, code := some k14c2 }
def k14c3 : Code := { maxStack := 6, maxLocals := 5, code := jdk_65_method_133_code, exceptionTable := #[], attributes := #[] }
def k14m3 : Method := { name := "copyOfRangeByte", desc := "([BII)[B", sig := { parameters := [(.array .byte), .int, .int], returnType := some (.array .byte) }, accessFlags := 10, code := some k14c3 }
/-- java/util/Arrays -/
def k14 : Class := { plain "java/util/Arrays" (some 0) with
  accessFlags := 49
  interfaces := #[]
  cf := some (fileOf pool14 14 #[.nestMembers #[975, 375, 113, 74]] #[{ accessFlags := 2, nameIndex := 5, descriptorIndex := 6, attributes := #[] }, { accessFlags := 10, nameIndex := 345, descriptorIndex := 346, attributes := #[] }, { accessFlags := 9, nameIndex := 139, descriptorIndex := 342, attributes := #[] }, { accessFlags := 10, nameIndex := 341, descriptorIndex := 342, attributes := #[] }] 49 2 #[] #[{ accessFlags := 26, nameIndex := 715, descriptorIndex := 716, attributes := #[] }, { accessFlags := 26, nameIndex := 719, descriptorIndex := 716, attributes := #[] }, { accessFlags := 4120, nameIndex := 445, descriptorIndex := 117, attributes := #[] }])
  fields := #[{ name := "MIN_ARRAY_SORT_GRAN", type := .int, accessFlags := 26, slot := 0, constantValue := 0 }, { name := "INSERTIONSORT_THRESHOLD", type := .int, accessFlags := 26, slot := 1, constantValue := 0 }, { name := "$assertionsDisabled", type := .boolean, accessFlags := 4120, slot := 2, constantValue := 0 }]
  methods := #[k14m0, k14m1, k14m2, k14m3]
  instanceTypes := #[]
  staticTypes := #[.int, .int, .boolean]
  resolved := Array.replicate 1029 none
  statics := none }

def pool15 : Array CpInfo := pool [(2, .class_ 4), (1, u "java/lang/Object"), (0, u "<init>"), (0, u "()V"), (1, .class_ 10), (1, u "java/lang/System"), (0, u "allowSecurityManager"), (0, u "I"), (16, u "cons"), (0, u "Ljava/io/Console;"), (77, .class_ 110), (1, u "java/lang/System$CallersHolder"), (43, u "initialErrStream"), (0, u "Ljava/io/PrintStream;"), (19, u "security"), (0, u "Ljava/lang/SecurityManager;"), (31, .class_ 209), (0, u "java/lang/System$1"), (7, u "props"), (0, u "Ljava/util/Properties;"), (2, u "lineSeparator"), (0, u "Ljava/lang/String;"), (96, .class_ 321), (1, u "java/lang/System$LoggerFinder"), (5, .class_ 328), (0, u "java/lang/System$Logger"), (67, u "err"), (2, u "out"), (91, u "notSupportedJnuEncoding"), (15, u "in"), (17, u "initialIn"), (0, u "Ljava/io/InputStream;"), (35, u "bootLayer"), (0, u "Ljava/lang/ModuleLayer;"), (99, .class_ 664), (0, u "java/lang/System$2"), (9, u "NEVER"), (2, u "MAYBE"), (49, u "arraycopy"), (0, u "(Ljava/lang/Object;ILjava/lang/Object;II)V"), (72, .class_ 802), (0, u "java/lang/System$Logger$Level")] 31

def k15m0 : Method := { name := "<init>", desc := "()V", sig := { parameters := [], returnType := none }, accessFlags := 2, code := none }
def k15m1 : Method := { name := "arraycopy", desc := "(Ljava/lang/Object;ILjava/lang/Object;II)V", sig := { parameters := [(.object "java/lang/Object"), .int, (.object "java/lang/Object"), .int, .int], returnType := none }, accessFlags := 265, code := none }
/-- java/lang/System -/
def k15 : Class := { plain "java/lang/System" (some 0) with
  accessFlags := 49
  interfaces := #[]
  cf := some (fileOf pool15 8 #[.nestMembers #[319, 327, 801, 108, 663, 208]] #[{ accessFlags := 2, nameIndex := 5, descriptorIndex := 6, attributes := #[] }, { accessFlags := 265, nameIndex := 727, descriptorIndex := 728, attributes := #[] }] 49 2 #[] #[{ accessFlags := 25, nameIndex := 507, descriptorIndex := 526, attributes := #[] }, { accessFlags := 25, nameIndex := 399, descriptorIndex := 155, attributes := #[] }, { accessFlags := 25, nameIndex := 396, descriptorIndex := 155, attributes := #[] }, { accessFlags := 10, nameIndex := 525, descriptorIndex := 526, attributes := #[] }, { accessFlags := 26, nameIndex := 674, descriptorIndex := 12, attributes := #[] }, { accessFlags := 26, nameIndex := 677, descriptorIndex := 12, attributes := #[] }, { accessFlags := 10, nameIndex := 11, descriptorIndex := 12, attributes := #[] }, { accessFlags := 74, nameIndex := 175, descriptorIndex := 176, attributes := #[] }, { accessFlags := 10, nameIndex := 491, descriptorIndex := 222, attributes := #[] }, { accessFlags := 74, nameIndex := 29, descriptorIndex := 30, attributes := #[] }, { accessFlags := 74, nameIndex := 154, descriptorIndex := 155, attributes := #[] }, { accessFlags := 10, nameIndex := 217, descriptorIndex := 218, attributes := #[] }, { accessFlags := 10, nameIndex := 221, descriptorIndex := 222, attributes := #[] }, { accessFlags := 8, nameIndex := 562, descriptorIndex := 563, attributes := #[] }])
  fields := #[{ name := "in", type := (.object "java/io/InputStream"), accessFlags := 25, slot := 0, constantValue := 0 }, { name := "out", type := (.object "java/io/PrintStream"), accessFlags := 25, slot := 1, constantValue := 0 }, { name := "err", type := (.object "java/io/PrintStream"), accessFlags := 25, slot := 2, constantValue := 0 }, { name := "initialIn", type := (.object "java/io/InputStream"), accessFlags := 10, slot := 3, constantValue := 0 }, { name := "NEVER", type := .int, accessFlags := 26, slot := 4, constantValue := 0 }, { name := "MAYBE", type := .int, accessFlags := 26, slot := 5, constantValue := 0 }, { name := "allowSecurityManager", type := .int, accessFlags := 10, slot := 6, constantValue := 0 }, { name := "security", type := (.object "java/lang/SecurityManager"), accessFlags := 74, slot := 7, constantValue := 0 }, { name := "notSupportedJnuEncoding", type := (.object "java/lang/String"), accessFlags := 10, slot := 8, constantValue := 0 }, { name := "cons", type := (.object "java/io/Console"), accessFlags := 74, slot := 9, constantValue := 0 }, { name := "initialErrStream", type := (.object "java/io/PrintStream"), accessFlags := 74, slot := 10, constantValue := 0 }, { name := "props", type := (.object "java/util/Properties"), accessFlags := 10, slot := 11, constantValue := 0 }, { name := "lineSeparator", type := (.object "java/lang/String"), accessFlags := 10, slot := 12, constantValue := 0 }, { name := "bootLayer", type := (.object "java/lang/ModuleLayer"), accessFlags := 8, slot := 13, constantValue := 0 }]
  methods := #[k15m0, k15m1]
  instanceTypes := #[]
  staticTypes := #[(.object "java/io/InputStream"), (.object "java/io/PrintStream"), (.object "java/io/PrintStream"), (.object "java/io/InputStream"), .int, .int, .int, (.object "java/lang/SecurityManager"), (.object "java/lang/String"), (.object "java/io/Console"), (.object "java/io/PrintStream"), (.object "java/util/Properties"), (.object "java/lang/String"), (.object "java/lang/ModuleLayer")]
  resolved := Array.replicate 834 none
  statics := none }

def pool16 : Array CpInfo := pool [(9, u "<init>"), (6, .class_ 18), (1, u "java/lang/Object"), (0, u "()V"), (1, .class_ 23), (1, u "jdk/internal/util/ArraysSupport"), (0, u "LOG2_ARRAY_LONG_INDEX_SCALE"), (0, u "I"), (2, u "U"), (0, u "Ljdk/internal/misc/Unsafe;"), (8, u "BIG_ENDIAN"), (0, u "Z"), (8, u "LOG2_BYTE_BIT_SIZE"), (4, u "LOG2_ARRAY_INT_INDEX_SCALE"), (54, u "JLA"), (0, u "Ljdk/internal/access/JavaLangAccess;"), (11, u "LOG2_ARRAY_BOOLEAN_INDEX_SCALE"), (9, u "LOG2_ARRAY_BYTE_INDEX_SCALE"), (5, u "LOG2_ARRAY_CHAR_INDEX_SCALE"), (5, u "LOG2_ARRAY_SHORT_INDEX_SCALE"), (18, u "LOG2_ARRAY_FLOAT_INDEX_SCALE"), (24, u "LOG2_ARRAY_DOUBLE_INDEX_SCALE"), (89, u "T_BOOLEAN"), (2, u "T_CHAR"), (1, u "T_FLOAT"), (1, u "T_DOUBLE"), (1, u "T_BYTE"), (1, u "T_SHORT"), (1, u "T_INT"), (1, u "T_LONG"), (1, u "SOFT_MAX_ARRAY_LENGTH")] 83

def k16m0 : Method := { name := "<init>", desc := "()V", sig := { parameters := [], returnType := none }, accessFlags := 2, code := none }
/-- jdk/internal/util/ArraysSupport -/
def k16 : Class := { plain "jdk/internal/util/ArraysSupport" (some 0) with
  accessFlags := 33
  interfaces := #[]
  cf := some (fileOf pool16 21 #[] #[{ accessFlags := 2, nameIndex := 9, descriptorIndex := 19, attributes := #[] }] 33 16 #[] #[{ accessFlags := 24, nameIndex := 28, descriptorIndex := 29, attributes := #[] }, { accessFlags := 26, nameIndex := 38, descriptorIndex := 39, attributes := #[] }, { accessFlags := 25, nameIndex := 121, descriptorIndex := 25, attributes := #[] }, { accessFlags := 25, nameIndex := 131, descriptorIndex := 25, attributes := #[] }, { accessFlags := 25, nameIndex := 137, descriptorIndex := 25, attributes := #[] }, { accessFlags := 25, nameIndex := 143, descriptorIndex := 25, attributes := #[] }, { accessFlags := 25, nameIndex := 53, descriptorIndex := 25, attributes := #[] }, { accessFlags := 25, nameIndex := 24, descriptorIndex := 25, attributes := #[] }, { accessFlags := 25, nameIndex := 162, descriptorIndex := 25, attributes := #[] }, { accessFlags := 25, nameIndex := 187, descriptorIndex := 25, attributes := #[] }, { accessFlags := 26, nameIndex := 48, descriptorIndex := 25, attributes := #[] }, { accessFlags := 25, nameIndex := 277, descriptorIndex := 25, attributes := #[] }, { accessFlags := 25, nameIndex := 280, descriptorIndex := 25, attributes := #[] }, { accessFlags := 25, nameIndex := 282, descriptorIndex := 25, attributes := #[] }, { accessFlags := 25, nameIndex := 284, descriptorIndex := 25, attributes := #[] }, { accessFlags := 25, nameIndex := 286, descriptorIndex := 25, attributes := #[] }, { accessFlags := 25, nameIndex := 288, descriptorIndex := 25, attributes := #[] }, { accessFlags := 25, nameIndex := 290, descriptorIndex := 25, attributes := #[] }, { accessFlags := 25, nameIndex := 292, descriptorIndex := 25, attributes := #[] }, { accessFlags := 26, nameIndex := 108, descriptorIndex := 109, attributes := #[] }, { accessFlags := 25, nameIndex := 294, descriptorIndex := 25, attributes := #[] }])
  fields := #[{ name := "U", type := (.object "jdk/internal/misc/Unsafe"), accessFlags := 24, slot := 0, constantValue := 0 }, { name := "BIG_ENDIAN", type := .boolean, accessFlags := 26, slot := 1, constantValue := 0 }, { name := "LOG2_ARRAY_BOOLEAN_INDEX_SCALE", type := .int, accessFlags := 25, slot := 2, constantValue := 0 }, { name := "LOG2_ARRAY_BYTE_INDEX_SCALE", type := .int, accessFlags := 25, slot := 3, constantValue := 0 }, { name := "LOG2_ARRAY_CHAR_INDEX_SCALE", type := .int, accessFlags := 25, slot := 4, constantValue := 0 }, { name := "LOG2_ARRAY_SHORT_INDEX_SCALE", type := .int, accessFlags := 25, slot := 5, constantValue := 0 }, { name := "LOG2_ARRAY_INT_INDEX_SCALE", type := .int, accessFlags := 25, slot := 6, constantValue := 0 }, { name := "LOG2_ARRAY_LONG_INDEX_SCALE", type := .int, accessFlags := 25, slot := 7, constantValue := 0 }, { name := "LOG2_ARRAY_FLOAT_INDEX_SCALE", type := .int, accessFlags := 25, slot := 8, constantValue := 0 }, { name := "LOG2_ARRAY_DOUBLE_INDEX_SCALE", type := .int, accessFlags := 25, slot := 9, constantValue := 0 }, { name := "LOG2_BYTE_BIT_SIZE", type := .int, accessFlags := 26, slot := 10, constantValue := 0 }, { name := "T_BOOLEAN", type := .int, accessFlags := 25, slot := 11, constantValue := 0 }, { name := "T_CHAR", type := .int, accessFlags := 25, slot := 12, constantValue := 0 }, { name := "T_FLOAT", type := .int, accessFlags := 25, slot := 13, constantValue := 0 }, { name := "T_DOUBLE", type := .int, accessFlags := 25, slot := 14, constantValue := 0 }, { name := "T_BYTE", type := .int, accessFlags := 25, slot := 15, constantValue := 0 }, { name := "T_SHORT", type := .int, accessFlags := 25, slot := 16, constantValue := 0 }, { name := "T_INT", type := .int, accessFlags := 25, slot := 17, constantValue := 0 }, { name := "T_LONG", type := .int, accessFlags := 25, slot := 18, constantValue := 0 }, { name := "JLA", type := (.object "jdk/internal/access/JavaLangAccess"), accessFlags := 26, slot := 19, constantValue := 0 }, { name := "SOFT_MAX_ARRAY_LENGTH", type := .int, accessFlags := 25, slot := 20, constantValue := 0 }]
  methods := #[k16m0]
  instanceTypes := #[]
  staticTypes := #[(.object "jdk/internal/misc/Unsafe"), .boolean, .int, .int, .int, .int, .int, .int, .int, .int, .int, .int, .int, .int, .int, .int, .int, .int, .int, (.object "jdk/internal/access/JavaLangAccess"), .int]
  resolved := Array.replicate 378 none
  statics := none }

def pool17 : Array CpInfo := pool [(1, u "java/lang/Cloneable"), (0, .class_ 1), (0, u "java/lang/Object"), (0, .class_ 3)] 3

/-- java/lang/Cloneable -/
def k17 : Class := { plain "java/lang/Cloneable" (some 0) with
  accessFlags := 1537
  interfaces := #[]
  cf := some (fileOf pool17 2 #[] #[] 1537 4 #[] #[])
  fields := #[]
  methods := #[]
  instanceTypes := #[]
  staticTypes := #[]
  resolved := Array.replicate 8 none
  statics := none }

/-- the primitive byte -/
def k18 : Class := { plain "byte" none with kind := .primitive 'B', accessFlags := 0x411 }
/-- [B -/
def k19 : Class := { plain "[B" (some 0) with kind := .array 18 .byte, interfaces := #[17, 2], accessFlags := 1041 }

/-- the primitive char -/
def k20 : Class := { plain "char" none with kind := .primitive 'C', accessFlags := 0x411 }
/-- [C -/
def k21 : Class := { plain "[C" (some 0) with kind := .array 20 .char, interfaces := #[17, 2], accessFlags := 1041 }

/-- the primitive int -/
def k22 : Class := { plain "int" none with kind := .primitive 'I', accessFlags := 0x411 }
/-- [I -/
def k23 : Class := { plain "[I" (some 0) with kind := .array 22 .int, interfaces := #[17, 2], accessFlags := 1041 }

def heap : Heap := #[{ cls := 7, slots := #[.long 0, .int 1, .null, .int 0, .null, .int 0, .int 0], vm := .statics 7 },
  { cls := 12, slots := #[.null, .null, .null], vm := .statics 12 }]
def classes : Array Class := #[k0, k1, k2, k3, k4, k5, k6, k7, k8, k9, k10, k11, k12, k13, k14, k15, k16, k17, k18, k19, k20, k21, k22, k23]
def interned : List (Array UInt16 × Addr) := []
def slotsUsed : Nat := 10
def theMethod : MethodId := ⟨1, 7⟩
def args0 : Array Value := #[.int 5, .int 7, .int 2]
def aboutOver (below : List Frame) : State where
  vm := { classes := classes, interned := interned.toArray }
  heap := heap
  slotsUsed := slotsUsed
  threads := #[{ frames := .invoking theMethod args0 :: below }]
def below0 : List Frame := [.native { method := ⟨0, 0⟩, args := #[] }]
def about1 : State := aboutOver below0
def p0 : Program := .bare "" "" ""
def e0 : Env := launch0.env 0 0 0
theorem w_frames : about1.frames = Frame.invoking theMethod args0 :: below0 := rfl
set_option maxRecDepth 65536 in
theorem w_args : argsFit about1.vm theMethod args0 = true := by decide +kernel
set_option maxRecDepth 65536 in
theorem w_heap : heapFits about1 = true := by decide +kernel
set_option maxRecDepth 65536 in
theorem w_runnable : about1.curStatus? = some .runnable := by decide +kernel
set_option maxRecDepth 65536 in
theorem w_alone : about1.alone = true := by decide +kernel
set_option maxRecDepth 65536 in
theorem w_named : about1.methodNamed? x = some theMethod := by decide +kernel
set_option maxRecDepth 65536 in
theorem w_hears : about1.hears theMethod below0 = true := by decide +kernel
set_option maxRecDepth 65536 in
theorem w_ripe : about1.ripe theMethod args0 below0 = true := by decide +kernel
theorem w_running : about1.status = .running := rfl
set_option maxRecDepth 65536 in
theorem w_room : about1.hasRoom e0.platform room_1 = true :=
  launch0.hasRoom_least _ room_1 (by decide +kernel) (by decide +kernel) (by decide +kernel) (by decide +kernel) (by decide +kernel) (by decide +kernel)
theorem allAtoms_all (ts : List Jvm.Cond) (a : Array Jvm.Value) (st : Jvm.State) : (allAtoms ts).before a st = ts.all (fun c => c.before a st) := by
  induction ts with
  | nil => rfl
  | cons c t ih =>
    show (Jvm.Cond.and c (allAtoms t)).before a st = _
    rw [Jvm.Cond.before_and, ih, List.all_cons]
def words1 : List Jvm.Cond := Jvm.Cond.code x code maxLocals ret :: tables_1
/-- a 'code' word, met by the world's own term for the bytes: nothing is compared byte by byte -/
theorem code_word {y : MethodName} {bytes : ByteArray} {mx : Nat} {rt : Option FieldType} {a : Array Value} {s : State} {m : MethodId} {meth : Method} {c : Code} (h1 : s.methodNamed? y = some m) (h2 : s.vm.method? m = some meth) (h3 : meth.code = some c) (h4 : c.code = bytes)
    (h5 : (c.maxLocals == mx && c.exceptionTable.isEmpty && decide (c.maxStack ≤ mostOperands) && decide (meth.sig.returnType = rt) && !meth.locks && decide (parseMethodDescriptor y.desc = some meth.sig)) = true) : (Jvm.Cond.code y bytes mx rt).before a s = true := by
  simp only [Bool.and_eq_true, beq_iff_eq, Bool.not_eq_true', decide_eq_true_eq] at h5
  obtain ⟨⟨⟨⟨⟨g1, g2⟩, g3⟩, g4⟩, g5⟩, g6⟩ := h5
  simp [Cond.before, Cond.holds, Cond.value, h1, h2, h3, h4, g1, g2, g3, g4, g5, g6]
def isCode : Jvm.Cond → Bool
  | .code _ _ _ _ => true
  | _ => false
theorem all_split {L : List Jvm.Cond} {P : Jvm.Cond → Bool} (h1 : L.all (fun c => isCode c || P c) = true) (h2 : ∀ c ∈ L.filter isCode, P c = true) : L.all P = true := by
  refine List.all_eq_true.mpr fun c hc => ?_
  have h := List.all_eq_true.mp h1 c hc
  rcases Bool.eq_false_or_eq_true (isCode c) with hi | hi
  · exact h2 c (List.mem_filter.mpr ⟨hc, hi⟩)
  · simpa [hi] using h
set_option maxRecDepth 65536 in
theorem w_c0 : (Jvm.Cond.code x code maxLocals ret).before args0 about1 = true := code_word (m := ⟨1, 7⟩) (meth := k1m7) (c := k1c7) (by decide +kernel) rfl rfl rfl (by decide +kernel)
set_option maxRecDepth 65536 in
theorem w_c1 : (Jvm.Cond.code ({ cls := "com/example/fionn/fionn/io/SgmlScannerNextPinLaw", name := "pick", desc := "(II)C" } : Jvm.MethodName) method_2_code (2 : Nat) (Option.some Jvm.ClassFile.FieldType.char)).before args0 about1 = true := code_word (m := ⟨1, 1⟩) (meth := k1m1) (c := k1c1) (by decide +kernel) rfl rfl rfl (by decide +kernel)
set_option maxRecDepth 65536 in
theorem w_c2 : (Jvm.Cond.code ({ cls := "com/example/fionn/fionn/io/SgmlScannerNextPinLaw", name := "mk", desc := "([CI)Ljava/lang/String;" } : Jvm.MethodName) method_3_code (2 : Nat) (Option.some (Jvm.ClassFile.FieldType.object "java/lang/String"))).before args0 about1 = true := code_word (m := ⟨1, 2⟩) (meth := k1m2) (c := k1c2) (by decide +kernel) rfl rfl rfl (by decide +kernel)
set_option maxRecDepth 65536 in
theorem w_c3 : (Jvm.Cond.code ({ cls := "java/lang/String", name := "<init>", desc := "([C)V" } : Jvm.MethodName) jdk_42_method_3_code (2 : Nat) (Option.none : Option Jvm.ClassFile.FieldType)).before args0 about1 = true := code_word (m := ⟨7, 1⟩) (meth := k7m1) (c := k7c1) (by decide +kernel) rfl rfl rfl (by decide +kernel)
set_option maxRecDepth 65536 in
theorem w_c4 : (Jvm.Cond.code ({ cls := "java/lang/String", name := "<init>", desc := "([CIILjava/lang/Void;)V" } : Jvm.MethodName) jdk_42_method_149_code (6 : Nat) (Option.none : Option Jvm.ClassFile.FieldType)).before args0 about1 = true := code_word (m := ⟨7, 6⟩) (meth := k7m6) (c := k7c6) (by decide +kernel) rfl rfl rfl (by decide +kernel)
set_option maxRecDepth 65536 in
theorem w_c5 : (Jvm.Cond.code ({ cls := "java/lang/Object", name := "<init>", desc := "()V" } : Jvm.MethodName) object_method_1_code (1 : Nat) (Option.none : Option Jvm.ClassFile.FieldType)).before args0 about1 = true := code_word (m := ⟨0, 0⟩) (meth := k0m0) (c := k0c0) (by decide +kernel) rfl rfl rfl (by decide +kernel)
set_option maxRecDepth 65536 in
theorem w_c6 : (Jvm.Cond.code ({ cls := "com/example/fionn/fionn/io/SgmlScanner", name := "<init>", desc := "(Ljava/lang/String;)V" } : Jvm.MethodName) prog_18_method_1_code (2 : Nat) (Option.none : Option Jvm.ClassFile.FieldType)).before args0 about1 = true := code_word (m := ⟨8, 0⟩) (meth := k8m0) (c := k8c0) (by decide +kernel) rfl rfl rfl (by decide +kernel)
set_option maxRecDepth 65536 in
theorem w_c7 : (Jvm.Cond.code ({ cls := "java/util/Objects", name := "requireNonNull", desc := "(Ljava/lang/Object;Ljava/lang/String;)Ljava/lang/Object;" } : Jvm.MethodName) jdk_31_method_11_code (2 : Nat) (Option.some (Jvm.ClassFile.FieldType.object "java/lang/Object"))).before args0 about1 = true := code_word (m := ⟨9, 1⟩) (meth := k9m1) (c := k9c1) (by decide +kernel) rfl rfl rfl (by decide +kernel)
set_option maxRecDepth 65536 in
theorem w_c8 : (Jvm.Cond.code ({ cls := "com/example/fionn/fionn/io/SgmlScannerNextPinLaw", name := "step", desc := "(Lcom/example/fionn/fionn/io/SgmlScanner;[CI[I)Z" } : Jvm.MethodName) method_7_code (13 : Nat) (Option.some Jvm.ClassFile.FieldType.boolean)).before args0 about1 = true := code_word (m := ⟨1, 6⟩) (meth := k1m6) (c := k1c6) (by decide +kernel) rfl rfl rfl (by decide +kernel)
set_option maxRecDepth 65536 in
theorem w_c9 : (Jvm.Cond.code ({ cls := "com/example/fionn/fionn/io/SgmlScanner", name := "next", desc := "()Z" } : Jvm.MethodName) prog_18_method_2_code (4 : Nat) (Option.some Jvm.ClassFile.FieldType.boolean)).before args0 about1 = true := code_word (m := ⟨8, 1⟩) (meth := k8m1) (c := k8c1) (by decide +kernel) rfl rfl rfl (by decide +kernel)
set_option maxRecDepth 65536 in
theorem w_c10 : (Jvm.Cond.code ({ cls := "java/lang/String", name := "length", desc := "()I" } : Jvm.MethodName) jdk_42_method_54_code (1 : Nat) (Option.some Jvm.ClassFile.FieldType.int)).before args0 about1 = true := code_word (m := ⟨7, 2⟩) (meth := k7m2) (c := k7c2) (by decide +kernel) rfl rfl rfl (by decide +kernel)
set_option maxRecDepth 65536 in
theorem w_c11 : (Jvm.Cond.code ({ cls := "java/lang/String", name := "coder", desc := "()B" } : Jvm.MethodName) jdk_42_method_152_code (1 : Nat) (Option.some Jvm.ClassFile.FieldType.byte)).before args0 about1 = true := code_word (m := ⟨7, 8⟩) (meth := k7m8) (c := k7c8) (by decide +kernel) rfl rfl rfl (by decide +kernel)
set_option maxRecDepth 65536 in
theorem w_c12 : (Jvm.Cond.code ({ cls := "java/lang/StringUTF16", name := "compress", desc := "([CII)[B" } : Jvm.MethodName) jdk_52_method_16_code (6 : Nat) (Option.some (Jvm.ClassFile.FieldType.array Jvm.ClassFile.FieldType.byte))).before args0 about1 = true := code_word (m := ⟨10, 2⟩) (meth := k10m2) (c := k10c2) (by decide +kernel) rfl rfl rfl (by decide +kernel)
set_option maxRecDepth 65536 in
theorem w_c13 : (Jvm.Cond.code ({ cls := "java/lang/StringUTF16", name := "compress", desc := "([CI[BII)I" } : Jvm.MethodName) jdk_52_method_21_code (7 : Nat) (Option.some Jvm.ClassFile.FieldType.int)).before args0 about1 = true := code_word (m := ⟨10, 3⟩) (meth := k10m3) (c := k10c3) (by decide +kernel) rfl rfl rfl (by decide +kernel)
set_option maxRecDepth 65536 in
theorem w_c14 : (Jvm.Cond.code ({ cls := "java/lang/StringUTF16", name := "coderFromArrayLen", desc := "([BI)B" } : Jvm.MethodName) jdk_52_method_15_code (2 : Nat) (Option.some Jvm.ClassFile.FieldType.byte)).before args0 about1 = true := code_word (m := ⟨10, 1⟩) (meth := k10m1) (c := k10c1) (by decide +kernel) rfl rfl rfl (by decide +kernel)
set_option maxRecDepth 65536 in
theorem w_c15 : (Jvm.Cond.code ({ cls := "java/lang/String", name := "charAt", desc := "(I)C" } : Jvm.MethodName) jdk_42_method_56_code (2 : Nat) (Option.some Jvm.ClassFile.FieldType.char)).before args0 about1 = true := code_word (m := ⟨7, 3⟩) (meth := k7m3) (c := k7c3) (by decide +kernel) rfl rfl rfl (by decide +kernel)
set_option maxRecDepth 65536 in
theorem w_c16 : (Jvm.Cond.code ({ cls := "java/lang/String", name := "isLatin1", desc := "()Z" } : Jvm.MethodName) jdk_42_method_154_code (1 : Nat) (Option.some Jvm.ClassFile.FieldType.boolean)).before args0 about1 = true := code_word (m := ⟨7, 9⟩) (meth := k7m9) (c := k7c9) (by decide +kernel) rfl rfl rfl (by decide +kernel)
set_option maxRecDepth 65536 in
theorem w_c17 : (Jvm.Cond.code ({ cls := "java/lang/StringLatin1", name := "charAt", desc := "([BI)C" } : Jvm.MethodName) jdk_43_method_2_code (2 : Nat) (Option.some Jvm.ClassFile.FieldType.char)).before args0 about1 = true := code_word (m := ⟨11, 1⟩) (meth := k11m1) (c := k11c1) (by decide +kernel) rfl rfl rfl (by decide +kernel)
set_option maxRecDepth 65536 in
theorem w_c18 : (Jvm.Cond.code ({ cls := "java/lang/String", name := "checkIndex", desc := "(II)V" } : Jvm.MethodName) jdk_42_method_155_code (2 : Nat) (Option.none : Option Jvm.ClassFile.FieldType)).before args0 about1 = true := code_word (m := ⟨7, 10⟩) (meth := k7m10) (c := k7c10) (by decide +kernel) rfl rfl rfl (by decide +kernel)
set_option maxRecDepth 65536 in
theorem w_c19 : (Jvm.Cond.code ({ cls := "jdk/internal/util/Preconditions", name := "checkIndex", desc := "(IILjava/util/function/BiFunction;)I" } : Jvm.MethodName) jdk_41_method_11_code (3 : Nat) (Option.some Jvm.ClassFile.FieldType.int)).before args0 about1 = true := code_word (m := ⟨12, 1⟩) (meth := k12m1) (c := k12c1) (by decide +kernel) rfl rfl rfl (by decide +kernel)
set_option maxRecDepth 65536 in
theorem w_c20 : (Jvm.Cond.code ({ cls := "java/lang/String", name := "indexOf", desc := "(II)I" } : Jvm.MethodName) jdk_42_method_80_code (3 : Nat) (Option.some Jvm.ClassFile.FieldType.int)).before args0 about1 = true := code_word (m := ⟨7, 4⟩) (meth := k7m4) (c := k7c4) (by decide +kernel) rfl rfl rfl (by decide +kernel)
set_option maxRecDepth 65536 in
theorem w_c21 : (Jvm.Cond.code ({ cls := "java/lang/StringLatin1", name := "indexOf", desc := "([BIII)I" } : Jvm.MethodName) jdk_43_method_22_code (4 : Nat) (Option.some Jvm.ClassFile.FieldType.int)).before args0 about1 = true := code_word (m := ⟨11, 3⟩) (meth := k11m3) (c := k11c3) (by decide +kernel) rfl rfl rfl (by decide +kernel)
set_option maxRecDepth 65536 in
theorem w_c22 : (Jvm.Cond.code ({ cls := "java/lang/StringLatin1", name := "canEncode", desc := "(I)Z" } : Jvm.MethodName) jdk_43_method_4_code (1 : Nat) (Option.some Jvm.ClassFile.FieldType.boolean)).before args0 about1 = true := code_word (m := ⟨11, 2⟩) (meth := k11m2) (c := k11c2) (by decide +kernel) rfl rfl rfl (by decide +kernel)
set_option maxRecDepth 65536 in
theorem w_c23 : (Jvm.Cond.code ({ cls := "java/lang/Math", name := "max", desc := "(II)I" } : Jvm.MethodName) jdk_29_method_65_code (2 : Nat) (Option.some Jvm.ClassFile.FieldType.int)).before args0 about1 = true := code_word (m := ⟨13, 1⟩) (meth := k13m1) (c := k13c1) (by decide +kernel) rfl rfl rfl (by decide +kernel)
set_option maxRecDepth 65536 in
theorem w_c24 : (Jvm.Cond.code ({ cls := "java/lang/Math", name := "min", desc := "(II)I" } : Jvm.MethodName) jdk_29_method_69_code (2 : Nat) (Option.some Jvm.ClassFile.FieldType.int)).before args0 about1 = true := code_word (m := ⟨13, 2⟩) (meth := k13m2) (c := k13c2) (by decide +kernel) rfl rfl rfl (by decide +kernel)
set_option maxRecDepth 65536 in
theorem w_c25 : (Jvm.Cond.code ({ cls := "java/lang/StringLatin1", name := "indexOfChar", desc := "([BIII)I" } : Jvm.MethodName) jdk_43_method_23_code (6 : Nat) (Option.some Jvm.ClassFile.FieldType.int)).before args0 about1 = true := code_word (m := ⟨11, 4⟩) (meth := k11m4) (c := k11c4) (by decide +kernel) rfl rfl rfl (by decide +kernel)
set_option maxRecDepth 65536 in
theorem w_c26 : (Jvm.Cond.code ({ cls := "java/lang/String", name := "substring", desc := "(II)Ljava/lang/String;" } : Jvm.MethodName) jdk_42_method_92_code (5 : Nat) (Option.some (Jvm.ClassFile.FieldType.object "java/lang/String"))).before args0 about1 = true := code_word (m := ⟨7, 5⟩) (meth := k7m5) (c := k7c5) (by decide +kernel) rfl rfl rfl (by decide +kernel)
set_option maxRecDepth 65536 in
theorem w_c27 : (Jvm.Cond.code ({ cls := "java/lang/String", name := "checkBoundsBeginEnd", desc := "(III)V" } : Jvm.MethodName) jdk_42_method_158_code (3 : Nat) (Option.none : Option Jvm.ClassFile.FieldType)).before args0 about1 = true := code_word (m := ⟨7, 11⟩) (meth := k7m11) (c := k7c11) (by decide +kernel) rfl rfl rfl (by decide +kernel)
set_option maxRecDepth 65536 in
theorem w_c28 : (Jvm.Cond.code ({ cls := "jdk/internal/util/Preconditions", name := "checkFromToIndex", desc := "(IIILjava/util/function/BiFunction;)I" } : Jvm.MethodName) jdk_41_method_12_code (4 : Nat) (Option.some Jvm.ClassFile.FieldType.int)).before args0 about1 = true := code_word (m := ⟨12, 2⟩) (meth := k12m2) (c := k12c2) (by decide +kernel) rfl rfl rfl (by decide +kernel)
set_option maxRecDepth 65536 in
theorem w_c29 : (Jvm.Cond.code ({ cls := "com/example/fionn/fionn/io/SgmlScannerNextPinLaw", name := "firstFrom", desc := "([CIIC)I" } : Jvm.MethodName) method_4_code (4 : Nat) (Option.some Jvm.ClassFile.FieldType.int)).before args0 about1 = true := code_word (m := ⟨1, 3⟩) (meth := k1m3) (c := k1c3) (by decide +kernel) rfl rfl rfl (by decide +kernel)
set_option maxRecDepth 65536 in
theorem w_c30 : (Jvm.Cond.code ({ cls := "com/example/fionn/fionn/io/SgmlScanner", name := "isTag", desc := "()Z" } : Jvm.MethodName) prog_18_method_3_code (1 : Nat) (Option.some Jvm.ClassFile.FieldType.boolean)).before args0 about1 = true := code_word (m := ⟨8, 2⟩) (meth := k8m2) (c := k8c2) (by decide +kernel) rfl rfl rfl (by decide +kernel)
set_option maxRecDepth 65536 in
theorem w_c31 : (Jvm.Cond.code ({ cls := "com/example/fionn/fionn/io/SgmlScanner", name := "piece", desc := "()Ljava/lang/String;" } : Jvm.MethodName) prog_18_method_4_code (1 : Nat) (Option.some (Jvm.ClassFile.FieldType.object "java/lang/String"))).before args0 about1 = true := code_word (m := ⟨8, 3⟩) (meth := k8m3) (c := k8c3) (by decide +kernel) rfl rfl rfl (by decide +kernel)
set_option maxRecDepth 65536 in
theorem w_c32 : (Jvm.Cond.code ({ cls := "com/example/fionn/fionn/io/SgmlScannerNextPinLaw", name := "same", desc := "(Ljava/lang/String;[CII)Z" } : Jvm.MethodName) method_6_code (5 : Nat) (Option.some Jvm.ClassFile.FieldType.boolean)).before args0 about1 = true := code_word (m := ⟨1, 5⟩) (meth := k1m5) (c := k1c5) (by decide +kernel) rfl rfl rfl (by decide +kernel)
set_option maxRecDepth 65536 in
theorem w_c33 : (Jvm.Cond.code ({ cls := "com/example/fionn/fionn/io/SgmlScanner", name := "line", desc := "()I" } : Jvm.MethodName) prog_18_method_5_code (1 : Nat) (Option.some Jvm.ClassFile.FieldType.int)).before args0 about1 = true := code_word (m := ⟨8, 4⟩) (meth := k8m4) (c := k8c4) (by decide +kernel) rfl rfl rfl (by decide +kernel)
set_option maxRecDepth 65536 in
theorem w_c34 : (Jvm.Cond.code ({ cls := "com/example/fionn/fionn/io/SgmlScannerNextPinLaw", name := "countNl", desc := "([CII)I" } : Jvm.MethodName) method_5_code (4 : Nat) (Option.some Jvm.ClassFile.FieldType.int)).before args0 about1 = true := code_word (m := ⟨1, 4⟩) (meth := k1m4) (c := k1c4) (by decide +kernel) rfl rfl rfl (by decide +kernel)
set_option maxRecDepth 65536 in
theorem w_c35 : (Jvm.Cond.code ({ cls := "java/lang/StringLatin1", name := "newString", desc := "([BII)Ljava/lang/String;" } : Jvm.MethodName) jdk_43_method_47_code (3 : Nat) (Option.some (Jvm.ClassFile.FieldType.object "java/lang/String"))).before args0 about1 = true := code_word (m := ⟨11, 5⟩) (meth := k11m5) (c := k11c5) (by decide +kernel) rfl rfl rfl (by decide +kernel)
set_option maxRecDepth 65536 in
theorem w_c36 : (Jvm.Cond.code ({ cls := "java/util/Arrays", name := "copyOfRange", desc := "([BII)[B" } : Jvm.MethodName) jdk_65_method_132_code (3 : Nat) (Option.some (Jvm.ClassFile.FieldType.array Jvm.ClassFile.FieldType.byte))).before args0 about1 = true := code_word (m := ⟨14, 2⟩) (meth := k14m2) (c := k14c2) (by decide +kernel) rfl rfl rfl (by decide +kernel)
set_option maxRecDepth 65536 in
theorem w_c37 : (Jvm.Cond.code ({ cls := "java/util/Arrays", name := "copyOfRangeByte", desc := "([BII)[B" } : Jvm.MethodName) jdk_65_method_133_code (5 : Nat) (Option.some (Jvm.ClassFile.FieldType.array Jvm.ClassFile.FieldType.byte))).before args0 about1 = true := code_word (m := ⟨14, 3⟩) (meth := k14m3) (c := k14c3) (by decide +kernel) rfl rfl rfl (by decide +kernel)
set_option maxRecDepth 65536 in
theorem w_c38 : (Jvm.Cond.code ({ cls := "java/util/Arrays", name := "checkLength", desc := "(II)V" } : Jvm.MethodName) jdk_65_method_131_code (2 : Nat) (Option.none : Option Jvm.ClassFile.FieldType)).before args0 about1 = true := code_word (m := ⟨14, 1⟩) (meth := k14m1) (c := k14c1) (by decide +kernel) rfl rfl rfl (by decide +kernel)
set_option maxRecDepth 65536 in
theorem w_c39 : (Jvm.Cond.code ({ cls := "java/lang/String", name := "<init>", desc := "([BB)V" } : Jvm.MethodName) jdk_42_method_151_code (3 : Nat) (Option.none : Option Jvm.ClassFile.FieldType)).before args0 about1 = true := code_word (m := ⟨7, 7⟩) (meth := k7m7) (c := k7c7) (by decide +kernel) rfl rfl rfl (by decide +kernel)
def codes1 : List Jvm.Cond := [Jvm.Cond.code x code maxLocals ret, Jvm.Cond.code ({ cls := "com/example/fionn/fionn/io/SgmlScannerNextPinLaw", name := "pick", desc := "(II)C" } : Jvm.MethodName) method_2_code (2 : Nat) (Option.some Jvm.ClassFile.FieldType.char), Jvm.Cond.code ({ cls := "com/example/fionn/fionn/io/SgmlScannerNextPinLaw", name := "mk", desc := "([CI)Ljava/lang/String;" } : Jvm.MethodName) method_3_code (2 : Nat) (Option.some (Jvm.ClassFile.FieldType.object "java/lang/String")), Jvm.Cond.code ({ cls := "java/lang/String", name := "<init>", desc := "([C)V" } : Jvm.MethodName) jdk_42_method_3_code (2 : Nat) (Option.none : Option Jvm.ClassFile.FieldType), Jvm.Cond.code ({ cls := "java/lang/String", name := "<init>", desc := "([CIILjava/lang/Void;)V" } : Jvm.MethodName) jdk_42_method_149_code (6 : Nat) (Option.none : Option Jvm.ClassFile.FieldType), Jvm.Cond.code ({ cls := "java/lang/Object", name := "<init>", desc := "()V" } : Jvm.MethodName) object_method_1_code (1 : Nat) (Option.none : Option Jvm.ClassFile.FieldType), Jvm.Cond.code ({ cls := "com/example/fionn/fionn/io/SgmlScanner", name := "<init>", desc := "(Ljava/lang/String;)V" } : Jvm.MethodName) prog_18_method_1_code (2 : Nat) (Option.none : Option Jvm.ClassFile.FieldType), Jvm.Cond.code ({ cls := "java/util/Objects", name := "requireNonNull", desc := "(Ljava/lang/Object;Ljava/lang/String;)Ljava/lang/Object;" } : Jvm.MethodName) jdk_31_method_11_code (2 : Nat) (Option.some (Jvm.ClassFile.FieldType.object "java/lang/Object")), Jvm.Cond.code ({ cls := "com/example/fionn/fionn/io/SgmlScannerNextPinLaw", name := "step", desc := "(Lcom/example/fionn/fionn/io/SgmlScanner;[CI[I)Z" } : Jvm.MethodName) method_7_code (13 : Nat) (Option.some Jvm.ClassFile.FieldType.boolean), Jvm.Cond.code ({ cls := "com/example/fionn/fionn/io/SgmlScanner", name := "next", desc := "()Z" } : Jvm.MethodName) prog_18_method_2_code (4 : Nat) (Option.some Jvm.ClassFile.FieldType.boolean), Jvm.Cond.code ({ cls := "java/lang/String", name := "length", desc := "()I" } : Jvm.MethodName) jdk_42_method_54_code (1 : Nat) (Option.some Jvm.ClassFile.FieldType.int), Jvm.Cond.code ({ cls := "java/lang/String", name := "coder", desc := "()B" } : Jvm.MethodName) jdk_42_method_152_code (1 : Nat) (Option.some Jvm.ClassFile.FieldType.byte), Jvm.Cond.code ({ cls := "java/lang/StringUTF16", name := "compress", desc := "([CII)[B" } : Jvm.MethodName) jdk_52_method_16_code (6 : Nat) (Option.some (Jvm.ClassFile.FieldType.array Jvm.ClassFile.FieldType.byte)), Jvm.Cond.code ({ cls := "java/lang/StringUTF16", name := "compress", desc := "([CI[BII)I" } : Jvm.MethodName) jdk_52_method_21_code (7 : Nat) (Option.some Jvm.ClassFile.FieldType.int), Jvm.Cond.code ({ cls := "java/lang/StringUTF16", name := "coderFromArrayLen", desc := "([BI)B" } : Jvm.MethodName) jdk_52_method_15_code (2 : Nat) (Option.some Jvm.ClassFile.FieldType.byte), Jvm.Cond.code ({ cls := "java/lang/String", name := "charAt", desc := "(I)C" } : Jvm.MethodName) jdk_42_method_56_code (2 : Nat) (Option.some Jvm.ClassFile.FieldType.char), Jvm.Cond.code ({ cls := "java/lang/String", name := "isLatin1", desc := "()Z" } : Jvm.MethodName) jdk_42_method_154_code (1 : Nat) (Option.some Jvm.ClassFile.FieldType.boolean), Jvm.Cond.code ({ cls := "java/lang/StringLatin1", name := "charAt", desc := "([BI)C" } : Jvm.MethodName) jdk_43_method_2_code (2 : Nat) (Option.some Jvm.ClassFile.FieldType.char), Jvm.Cond.code ({ cls := "java/lang/String", name := "checkIndex", desc := "(II)V" } : Jvm.MethodName) jdk_42_method_155_code (2 : Nat) (Option.none : Option Jvm.ClassFile.FieldType), Jvm.Cond.code ({ cls := "jdk/internal/util/Preconditions", name := "checkIndex", desc := "(IILjava/util/function/BiFunction;)I" } : Jvm.MethodName) jdk_41_method_11_code (3 : Nat) (Option.some Jvm.ClassFile.FieldType.int), Jvm.Cond.code ({ cls := "java/lang/String", name := "indexOf", desc := "(II)I" } : Jvm.MethodName) jdk_42_method_80_code (3 : Nat) (Option.some Jvm.ClassFile.FieldType.int), Jvm.Cond.code ({ cls := "java/lang/StringLatin1", name := "indexOf", desc := "([BIII)I" } : Jvm.MethodName) jdk_43_method_22_code (4 : Nat) (Option.some Jvm.ClassFile.FieldType.int), Jvm.Cond.code ({ cls := "java/lang/StringLatin1", name := "canEncode", desc := "(I)Z" } : Jvm.MethodName) jdk_43_method_4_code (1 : Nat) (Option.some Jvm.ClassFile.FieldType.boolean), Jvm.Cond.code ({ cls := "java/lang/Math", name := "max", desc := "(II)I" } : Jvm.MethodName) jdk_29_method_65_code (2 : Nat) (Option.some Jvm.ClassFile.FieldType.int), Jvm.Cond.code ({ cls := "java/lang/Math", name := "min", desc := "(II)I" } : Jvm.MethodName) jdk_29_method_69_code (2 : Nat) (Option.some Jvm.ClassFile.FieldType.int), Jvm.Cond.code ({ cls := "java/lang/StringLatin1", name := "indexOfChar", desc := "([BIII)I" } : Jvm.MethodName) jdk_43_method_23_code (6 : Nat) (Option.some Jvm.ClassFile.FieldType.int), Jvm.Cond.code ({ cls := "java/lang/String", name := "substring", desc := "(II)Ljava/lang/String;" } : Jvm.MethodName) jdk_42_method_92_code (5 : Nat) (Option.some (Jvm.ClassFile.FieldType.object "java/lang/String")), Jvm.Cond.code ({ cls := "java/lang/String", name := "checkBoundsBeginEnd", desc := "(III)V" } : Jvm.MethodName) jdk_42_method_158_code (3 : Nat) (Option.none : Option Jvm.ClassFile.FieldType), Jvm.Cond.code ({ cls := "jdk/internal/util/Preconditions", name := "checkFromToIndex", desc := "(IIILjava/util/function/BiFunction;)I" } : Jvm.MethodName) jdk_41_method_12_code (4 : Nat) (Option.some Jvm.ClassFile.FieldType.int), Jvm.Cond.code ({ cls := "com/example/fionn/fionn/io/SgmlScannerNextPinLaw", name := "firstFrom", desc := "([CIIC)I" } : Jvm.MethodName) method_4_code (4 : Nat) (Option.some Jvm.ClassFile.FieldType.int), Jvm.Cond.code ({ cls := "com/example/fionn/fionn/io/SgmlScanner", name := "isTag", desc := "()Z" } : Jvm.MethodName) prog_18_method_3_code (1 : Nat) (Option.some Jvm.ClassFile.FieldType.boolean), Jvm.Cond.code ({ cls := "com/example/fionn/fionn/io/SgmlScanner", name := "piece", desc := "()Ljava/lang/String;" } : Jvm.MethodName) prog_18_method_4_code (1 : Nat) (Option.some (Jvm.ClassFile.FieldType.object "java/lang/String")), Jvm.Cond.code ({ cls := "com/example/fionn/fionn/io/SgmlScannerNextPinLaw", name := "same", desc := "(Ljava/lang/String;[CII)Z" } : Jvm.MethodName) method_6_code (5 : Nat) (Option.some Jvm.ClassFile.FieldType.boolean), Jvm.Cond.code ({ cls := "com/example/fionn/fionn/io/SgmlScanner", name := "line", desc := "()I" } : Jvm.MethodName) prog_18_method_5_code (1 : Nat) (Option.some Jvm.ClassFile.FieldType.int), Jvm.Cond.code ({ cls := "com/example/fionn/fionn/io/SgmlScannerNextPinLaw", name := "countNl", desc := "([CII)I" } : Jvm.MethodName) method_5_code (4 : Nat) (Option.some Jvm.ClassFile.FieldType.int), Jvm.Cond.code ({ cls := "java/lang/StringLatin1", name := "newString", desc := "([BII)Ljava/lang/String;" } : Jvm.MethodName) jdk_43_method_47_code (3 : Nat) (Option.some (Jvm.ClassFile.FieldType.object "java/lang/String")), Jvm.Cond.code ({ cls := "java/util/Arrays", name := "copyOfRange", desc := "([BII)[B" } : Jvm.MethodName) jdk_65_method_132_code (3 : Nat) (Option.some (Jvm.ClassFile.FieldType.array Jvm.ClassFile.FieldType.byte)), Jvm.Cond.code ({ cls := "java/util/Arrays", name := "copyOfRangeByte", desc := "([BII)[B" } : Jvm.MethodName) jdk_65_method_133_code (5 : Nat) (Option.some (Jvm.ClassFile.FieldType.array Jvm.ClassFile.FieldType.byte)), Jvm.Cond.code ({ cls := "java/util/Arrays", name := "checkLength", desc := "(II)V" } : Jvm.MethodName) jdk_65_method_131_code (2 : Nat) (Option.none : Option Jvm.ClassFile.FieldType), Jvm.Cond.code ({ cls := "java/lang/String", name := "<init>", desc := "([BB)V" } : Jvm.MethodName) jdk_42_method_151_code (3 : Nat) (Option.none : Option Jvm.ClassFile.FieldType)]
set_option maxRecDepth 65536 in
theorem codes_eq : words1.filter isCode = codes1 := rfl
theorem w_codes : ∀ c ∈ words1.filter isCode, c.before args0 about1 = true := by
  rw [codes_eq]
  intro c hc
  simp only [codes1, List.mem_cons, List.not_mem_nil, or_false] at hc
  rcases hc with rfl | rfl | rfl | rfl | rfl | rfl | rfl | rfl | rfl | rfl | rfl | rfl | rfl | rfl | rfl | rfl | rfl | rfl | rfl | rfl | rfl | rfl | rfl | rfl | rfl | rfl | rfl | rfl | rfl | rfl | rfl | rfl | rfl | rfl | rfl | rfl | rfl | rfl | rfl | rfl
  · exact w_c0
  · exact w_c1
  · exact w_c2
  · exact w_c3
  · exact w_c4
  · exact w_c5
  · exact w_c6
  · exact w_c7
  · exact w_c8
  · exact w_c9
  · exact w_c10
  · exact w_c11
  · exact w_c12
  · exact w_c13
  · exact w_c14
  · exact w_c15
  · exact w_c16
  · exact w_c17
  · exact w_c18
  · exact w_c19
  · exact w_c20
  · exact w_c21
  · exact w_c22
  · exact w_c23
  · exact w_c24
  · exact w_c25
  · exact w_c26
  · exact w_c27
  · exact w_c28
  · exact w_c29
  · exact w_c30
  · exact w_c31
  · exact w_c32
  · exact w_c33
  · exact w_c34
  · exact w_c35
  · exact w_c36
  · exact w_c37
  · exact w_c38
  · exact w_c39
set_option maxRecDepth 65536 in
theorem w_t1 : (words1.take 24).all (fun c => isCode c || c.before args0 about1) = true := by decide +kernel
set_option maxRecDepth 65536 in
theorem w_t2 : ((words1.drop 24).take 24).all (fun c => isCode c || c.before args0 about1) = true := by decide +kernel
set_option maxRecDepth 65536 in
theorem w_t3 : (((words1.drop 24).drop 24).take 24).all (fun c => isCode c || c.before args0 about1) = true := by decide +kernel
set_option maxRecDepth 65536 in
theorem w_t4 : ((((words1.drop 24).drop 24).drop 24).take 24).all (fun c => isCode c || c.before args0 about1) = true := by decide +kernel
set_option maxRecDepth 65536 in
theorem w_t5 : (((((words1.drop 24).drop 24).drop 24).drop 24).take 24).all (fun c => isCode c || c.before args0 about1) = true := by decide +kernel
set_option maxRecDepth 65536 in
theorem w_t6 : ((((((words1.drop 24).drop 24).drop 24).drop 24).drop 24).take 24).all (fun c => isCode c || c.before args0 about1) = true := by decide +kernel
set_option maxRecDepth 65536 in
theorem w_t7 : (((((((words1.drop 24).drop 24).drop 24).drop 24).drop 24).drop 24).take 24).all (fun c => isCode c || c.before args0 about1) = true := by decide +kernel
set_option maxRecDepth 65536 in
theorem w_t8 : (((((((words1.drop 24).drop 24).drop 24).drop 24).drop 24).drop 24).drop 24).all (fun c => isCode c || c.before args0 about1) = true := by decide +kernel
theorem w_tables : (allAtoms (Jvm.Cond.code x code maxLocals ret :: tables_1)).before args0 about1 = true := by
  rw [allAtoms_all]
  show words1.all (fun c => c.before args0 about1) = true
  refine all_split ?_ w_codes
  rw [← List.take_append_drop 24 words1, List.all_append, w_t1, ← List.take_append_drop 24 (words1.drop 24), List.all_append, w_t2, ← List.take_append_drop 24 ((words1.drop 24).drop 24), List.all_append, w_t3, ← List.take_append_drop 24 (((words1.drop 24).drop 24).drop 24), List.all_append, w_t4, ← List.take_append_drop 24 ((((words1.drop 24).drop 24).drop 24).drop 24), List.all_append, w_t5, ← List.take_append_drop 24 (((((words1.drop 24).drop 24).drop 24).drop 24).drop 24), List.all_append, w_t6, ← List.take_append_drop 24 ((((((words1.drop 24).drop 24).drop 24).drop 24).drop 24).drop 24), List.all_append, w_t7, w_t8]
  rfl
set_option maxRecDepth 65536 in
theorem w_rest : rest_1_c.before args0 about1 = true := by decide +kernel
set_option maxRecDepth 65536 in
theorem w_case : (Jvm.Cond.and given_1 narrow_1).before args0 about1 = true := by decide +kernel
set_option maxRecDepth 65536 in
theorem w_consts : constsHeld consts_1 about1 := Jvm.Lit.constsHeldB_iff.mp (by decide +kernel)
theorem w_applies : (headSpec (Jvm.Cond.code x code maxLocals ret :: tables_1) room_1).applies x e0.platform about1 = true :=
  (Spec.applies_iff w_frames).mpr ⟨w_running, w_runnable, w_alone, w_named, w_hears, w_ripe, w_room, w_tables⟩
theorem atStart : AtStart classFile x code maxLocals ret World_1 tables_1 room_1 Calls_1 rest_1 Pre_1 launch0 p0 e0 about1 theMethod args0 below0 :=
  ⟨lists_1, trivial, launch0.admits_env _ _ _, launch0.least_env, fairChoices_fair.cas, fairChoices_fair.clock, w_frames, w_args, w_heap, w_applies, ⟨w_consts, trivial⟩, w_rest, w_case⟩
end start1
theorem witness_1 : WitnessClaimed_1 := ⟨start1.p0, start1.e0, start1.about1, start1.theMethod, start1.args0, start1.below0, start1.atStart⟩
end Jvm.Pilot.@@N@@
