import JvmDerived
import JvmDerived.Pilot.@@N@@Statement
import JvmDerived.Pilot.@@N@@Code
set_option linter.unusedVariables false
set_option linter.unusedSimpArgs false
@@BLOCK:LamKit.lean.txt@@
/- laws to paste: Road.backV (cut by pick.py; bodies as the Statement names them) -/
namespace Jvm.Pilot.@@N@@
namespace StrChars
open Jvm Sem ClassFile Op Lib Jvm.Stand Jvm.Free.XT Jvm.Free.ALB Jvm.Free.JM Jvm.Free
open Jvm.Lib.Cold (StaticIs)
/-- a char array whose places are chars -/
def Ch (a : Addr) (A : Cell) (U : State) : Prop := Arr .char a A U ∧ Typed .char A
theorem Ch.mv {a : Addr} {A : Cell} {U U' : State} (h : Ch a A U) (hal : U.vm.Alike U'.vm) (hh : U'.heap = U.heap) : Ch a A U' := ⟨h.1.mv hal hh, h.2⟩
theorem Ch.keep {a : Addr} {A : Cell} {U U' : State} (h : Ch a A U) (hal : U.vm.Alike U'.vm) (hk : U'.heap[a]? = some A) : Ch a A U' := ⟨h.1.keep hal hk, h.2⟩
/-- what place i of a char[]'s cell holds -/
def cv (A : Cell) (i : Nat) : Int32 := match A.slots[i]? with | some (.int x) => x | _ => 0
theorem Ch.get {a : Addr} {A : Cell} {U : State} (h : Ch a A U) {i : Nat} (hi : i < A.slots.size) : A.slots[i]? = some (.int (cv A i)) := by
  have e := Array.getElem?_eq_getElem hi
  have f := h.2 i _ e
  unfold cv; rw [e]
  generalize A.slots[i] = v at f
  cases v <;> simp [fits] at f ⊢
/-- the byte that i2b leaves of a char -/
def lo8 (x : Int32) : Int32 := x.toInt8.toInt32
theorem fits_lo8 (y : Int32) : fits .byte (.int (lo8 y)) = true := by
  have h1 := y.toInt8.le_toInt
  have h2 := y.toInt8.toInt_lt
  simp only [lo8, fits, Bool.and_eq_true, decide_eq_true_eq, Int32.le_iff_toInt_le, Int8.toInt_toInt32, show (-128 : Int32).toInt = -128 from by decide, show (127 : Int32).toInt = 127 from by decide]
  omega
/-- A' is A but that each place j of lo .. hi - 1 holds f j -/
def Laid (A A' : Cell) (lo hi : Nat) (f : Nat → Value) : Prop := A'.cls = A.cls ∧ A'.vm = A.vm ∧ A'.slots.size = A.slots.size ∧ ∀ i, A'.slots[i]? = if lo ≤ i ∧ i < hi then some (f i) else A.slots[i]?
theorem Laid.zero (A : Cell) (lo : Nat) (f : Nat → Value) : Laid A A lo (lo + 0) f := ⟨rfl, rfl, rfl, fun i => by rw [if_neg (by omega)]⟩
theorem Laid.step {A Ak : Cell} {lo k : Nat} {f : Nat → Value} {v : Value} (h : Laid A Ak lo k f) (hlo : lo ≤ k) (hk : k < Ak.slots.size) (hv : v = f k) : Laid A (Ak.setSlot k v) lo (k + 1) f := by
  refine ⟨h.1, h.2.1, by simpa [Cell.setSlot] using h.2.2.1, fun i => ?_⟩
  by_cases e : k = i
  · subst e; rw [Cell.slots_setSlot_self v hk, if_pos (by omega), hv]
  · rw [Cell.slots_setSlot_ne v e, h.2.2.2 i]
    by_cases q : lo ≤ i ∧ i < k
    · rw [if_pos q, if_pos (by omega)]
    · rw [if_neg q, if_neg (by omega)]
def U16 : String := "java/lang/StringUTF16"
namespace Cmp5
def yN : MethodName := ⟨"java/lang/StringUTF16", "compress", "([CI[BII)I"⟩
abbrev yB : ByteArray := jdk_52_method_21_code
theorem d0 : decode yB 0 = .ok (.iconst 0, 1) := by decide +kernel
theorem d1 : decode yB 1 = .ok (.istore 5, 2) := by decide +kernel
theorem d3 : decode yB 3 = .ok (.iload 5, 2) := by decide +kernel
theorem d5 : decode yB 5 = .ok (.iload 4, 2) := by decide +kernel
theorem d7 : decode yB 7 = .ok (.if_icmp (.ge) 37, 3) := by decide +kernel
theorem d10 : decode yB 10 = .ok (.aload_n 0, 1) := by decide +kernel
theorem d11 : decode yB 11 = .ok (.iload_n 1, 1) := by decide +kernel
theorem d12 : decode yB 12 = .ok (.caload, 1) := by decide +kernel
theorem d13 : decode yB 13 = .ok (.istore 6, 2) := by decide +kernel
theorem d15 : decode yB 15 = .ok (.iload 6, 2) := by decide +kernel
theorem d17 : decode yB 17 = .ok (.sipush 255, 3) := by decide +kernel
theorem d20 : decode yB 20 = .ok (.if_icmp (.le) 6, 3) := by decide +kernel
theorem d26 : decode yB 26 = .ok (.aload_n 2, 1) := by decide +kernel
theorem d27 : decode yB 27 = .ok (.iload_n 3, 1) := by decide +kernel
theorem d28 : decode yB 28 = .ok (.iload 6, 2) := by decide +kernel
theorem d30 : decode yB 30 = .ok (.i2b, 1) := by decide +kernel
theorem d31 : decode yB 31 = .ok (.bastore, 1) := by decide +kernel
theorem d32 : decode yB 32 = .ok (.iinc 1 1, 3) := by decide +kernel
theorem d35 : decode yB 35 = .ok (.iinc 3 1, 3) := by decide +kernel
theorem d38 : decode yB 38 = .ok (.iinc 5 1, 3) := by decide +kernel
theorem d41 : decode yB 41 = .ok (.goto (-38), 3) := by decide +kernel
theorem d44 : decode yB 44 = .ok (.iload 4, 2) := by decide +kernel
theorem d46 : decode yB 46 = .ok (.ireturn, 1) := by decide +kernel
def site : List Cond := []
def tab : Cond := tabOf yN yB 7 (some .int) site
def P (b : Addr) (A : Cell) (d : Addr) (B : Cell) (o q len : Nat) (args : Array Value) (s : State) : Prop := args = #[.ref b, .int (Int32.ofNat o), .ref d, .int (Int32.ofNat q), .int (Int32.ofNat len)] ∧ Ch b A s ∧ Arr .byte d B s ∧ b ≠ d ∧ o + len ≤ A.slots.size ∧ q + len ≤ B.slots.size ∧ ∀ i, i < len → ¬ 255 < cv A (o + i)
def E (b : Addr) (A : Cell) (d : Addr) (B : Cell) (o q len : Nat) (r : Option Value) (s u : State) : Prop := r = some (.int (Int32.ofNat len)) ∧ ∃ B', Put d B' s u ∧ Laid B B' q (q + len) (fun j => Value.int (lo8 (cv A (o + (j - q)))))
/-- no char of the range above 255: len; the places written hold each char's low byte -/
theorem law (l : Launch) (b : Addr) (A : Cell) (d : Addr) (B : Cell) (o q len : Nat) : Law l yN 5 5 0 0 yB 7 (some .int) site (P b A d B o q len) (E b A d B o q len) (copyLocs d q len) 0 0 := by
  refine Law.of_walk (plainFor_of_name (by decide +kernel)) (by decide +kernel) (by decide +kernel) (by decide) (fun _ _ h => by rw [h.1]; rfl) (fun _ U U' hal hh h => ⟨h.1, h.2.1.mv hal hh, h.2.2.1.mv hal hh, h.2.2.2⟩) (fun r U U' V V' h1 hal h2 h => ⟨h.1, h.2.elim fun B' q => ⟨B', q.1.mv h1 h2, q.2⟩⟩) ?_
  intro p e s m args below meth c s₁ X0 hexec hbytes hml hret hlk hnm hown hh0 W hP
  obtain ⟨rfl, hA, hB, hne, l1, l2, hp⟩ := hP
  have c1 : Steps p.tables e below (s₁.setTop (entryFrame m #[.ref b, .int (Int32.ofNat o), .ref d, .int (Int32.ofNat q), .int (Int32.ofNat len)] 7)) (s₁.setTop (mkF m 0 #[.val (.ref b), .val (.int (Int32.ofNat o)), .val (.ref d), .val (.int (Int32.ofNat q)), .val (.int (Int32.ofNat len)), .unset, .unset] [])) := entry rfl
  have hA0 := hA.1.mv X0.warmed.alike hh0
  have hB0 := hB.mv X0.warmed.alike hh0
  have a31 := hA.1.2.2.2
  have c2 : Steps p.tables e below (s₁.setTop (entryFrame m #[.ref b, .int (Int32.ofNat o), .ref d, .int (Int32.ofNat q), .int (Int32.ofNat len)] 7)) (s₁.setTop (mkF m 3 #[.val (.ref b), .val (.int (Int32.ofNat o)), .val (.ref d), .val (.int (Int32.ofNat q)), .val (.int (Int32.ofNat len)), .val (.int 0), .unset] [])) := c1.trans (by
    refine iconstV X0.here hexec rfl 0 (hb hbytes d0) (by decide) ?_
    refine XS.istore X0.here hexec rfl (hb hbytes d1) rfl rfl ?_
    exact Steps.refl _)
  have loop : ∀ (r i : Nat), i + r = len → ∀ (z : Slot), (z = .unset ∨ ∃ w, z = .val w ∧ w.category = 1) → ∀ (Tl : State) (Bk : Cell), Stand p l e { frames := 0, locals := 0, cells := 0, slots := 0 } s m #[.ref b, .int (Int32.ofNat o), .ref d, .int (Int32.ofNat q), .int (Int32.ofNat len)] below meth c Tl ([] ++ copyLocs d q i) 0 0 → Put d Bk s₁ Tl → Laid B Bk q (q + i) (fun j => Value.int (lo8 (cv A (o + (j - q))))) →
      Steps p.tables e below (s₁.setTop (entryFrame m #[.ref b, .int (Int32.ofNat o), .ref d, .int (Int32.ofNat q), .int (Int32.ofNat len)] 7)) (Tl.setTop (mkF m 3 #[.val (.ref b), .val (.int (Int32.ofNat (o + i))), .val (.ref d), .val (.int (Int32.ofNat (q + i))), .val (.int (Int32.ofNat len)), .val (.int (Int32.ofNat i)), z] [])) → ∃ (T' : State) (B' : Cell) (z' : Slot), Stand p l e { frames := 0, locals := 0, cells := 0, slots := 0 } s m #[.ref b, .int (Int32.ofNat o), .ref d, .int (Int32.ofNat q), .int (Int32.ofNat len)] below meth c T' ([] ++ copyLocs d q len) 0 0 ∧ Put d B' s₁ T' ∧ Laid B B' q (q + len) (fun j => Value.int (lo8 (cv A (o + (j - q))))) ∧
      Steps p.tables e below (s₁.setTop (entryFrame m #[.ref b, .int (Int32.ofNat o), .ref d, .int (Int32.ofNat q), .int (Int32.ofNat len)] 7)) (T'.setTop (mkF m 3 #[.val (.ref b), .val (.int (Int32.ofNat (o + len))), .val (.ref d), .val (.int (Int32.ofNat (q + len))), .val (.int (Int32.ofNat len)), .val (.int (Int32.ofNat len)), z'] [])) := by
    intro r
    induction r with
    | zero =>
      intro i hi z hz Tl Bk Xl pl fl cl
      have hil : i = len := by omega
      rw [hil] at Xl fl cl
      exact ⟨Tl, Bk, z, Xl, pl, fl, cl⟩
    | succ r ih =>
      intro i hi z hz Tl Bk Xl pl fl cl
      have all := X0.warmed.alike.symm.trans Xl.warmed.alike
      have hAl := hA0.keep all (pl.other hne hA0.1)
      have hBk := hB0.like all pl.1 fl.1 fl.2.1 fl.2.2.1
      have hlt : q + i < Bk.slots.size := by rw [fl.2.2.1]; omega
      have c3 : Steps p.tables e below (s₁.setTop (entryFrame m #[.ref b, .int (Int32.ofNat o), .ref d, .int (Int32.ofNat q), .int (Int32.ofNat len)] 7)) (Tl.setTop (mkF m 12 #[.val (.ref b), .val (.int (Int32.ofNat (o + i))), .val (.ref d), .val (.int (Int32.ofNat (q + i))), .val (.int (Int32.ofNat len)), .val (.int (Int32.ofNat i)), z] [.int (Int32.ofNat (o + i)), .ref b])) := cl.trans (by
        refine XS.iload Xl.here hexec rfl (hb hbytes d3) rfl ?_
        refine XS.iload Xl.here hexec rfl (hb hbytes d5) rfl ?_
        refine XS.icmpNo Xl.here hexec rfl (hb hbytes d7) rfl (ii_ge_f (lt32 (by omega) (by omega))) ?_
        refine XS.aloadN Xl.here hexec rfl (hb hbytes d10) rfl rfl ?_
        refine XS.iloadN Xl.here hexec rfl (hb hbytes d11) rfl ?_
        exact Steps.refl _)
      have c4 : Steps p.tables e below (s₁.setTop (entryFrame m #[.ref b, .int (Int32.ofNat o), .ref d, .int (Int32.ofNat q), .int (Int32.ofNat len)] 7)) (Tl.setTop (mkF m 13 #[.val (.ref b), .val (.int (Int32.ofNat (o + i))), .val (.ref d), .val (.int (Int32.ofNat (q + i))), .val (.int (Int32.ofNat len)), .val (.int (Int32.ofNat i)), z] [.int (cv A (o + i))])) := c3.trans (by
        refine Xl.aget hexec hAl rfl (hA.get (i := o + i) (by omega)) rfl rfl (hb hbytes d12) ?_
        exact Steps.refl _)
      have c5 : Steps p.tables e below (s₁.setTop (entryFrame m #[.ref b, .int (Int32.ofNat o), .ref d, .int (Int32.ofNat q), .int (Int32.ofNat len)] 7)) (Tl.setTop (mkF m 15 #[.val (.ref b), .val (.int (Int32.ofNat (o + i))), .val (.ref d), .val (.int (Int32.ofNat (q + i))), .val (.int (Int32.ofNat len)), .val (.int (Int32.ofNat i)), .val (.int (cv A (o + i)))] [])) := c4.trans (by
        refine XS.istoreS Xl.here hexec rfl (hb hbytes d13) rfl rfl hz ?_
        exact Steps.refl _)
      have c6 : Steps p.tables e below (s₁.setTop (entryFrame m #[.ref b, .int (Int32.ofNat o), .ref d, .int (Int32.ofNat q), .int (Int32.ofNat len)] 7)) (Tl.setTop (mkF m 31 #[.val (.ref b), .val (.int (Int32.ofNat (o + i))), .val (.ref d), .val (.int (Int32.ofNat (q + i))), .val (.int (Int32.ofNat len)), .val (.int (Int32.ofNat i)), .val (.int (cv A (o + i)))] [.int (lo8 (cv A (o + i))), .int (Int32.ofNat (q + i)), .ref d])) := c5.trans (by
        refine XS.iload Xl.here hexec rfl (hb hbytes d15) rfl ?_
        refine sipushV Xl.here hexec rfl 255 (hb hbytes d17) (by decide) ?_
        refine XS.icmpYes Xl.here hexec rfl (pc0 := 20) rfl (hb hbytes d20) rfl (ii_le_t (hp i (by omega))) (by decide) rfl ?_
        refine XS.aloadN Xl.here hexec rfl (hb hbytes d26) rfl rfl ?_
        refine XS.iloadN Xl.here hexec rfl (hb hbytes d27) rfl ?_
        refine XS.iload Xl.here hexec rfl (hb hbytes d28) rfl ?_
        refine i2b Xl.here hexec rfl (hb hbytes d30) rfl ?_
        exact Steps.refl _)
      obtain ⟨T7, X7, p7, st7⟩ := Xl.aput hexec hBk rfl hlt rfl (fits_lo8 (cv A (o + i))) (g := (mkF m 31 #[.val (.ref b), .val (.int (Int32.ofNat (o + i))), .val (.ref d), .val (.int (Int32.ofNat (q + i))), .val (.int (Int32.ofNat len)), .val (.int (Int32.ofNat i)), .val (.int (cv A (o + i)))] [.int (lo8 (cv A (o + i))), .int (Int32.ofNat (q + i)), .ref d])) rfl (rest := []) rfl (hb hbytes d31)
      have c8 : Steps p.tables e below (s₁.setTop (entryFrame m #[.ref b, .int (Int32.ofNat o), .ref d, .int (Int32.ofNat q), .int (Int32.ofNat len)] 7)) (T7.setTop (mkF m 32 #[.val (.ref b), .val (.int (Int32.ofNat (o + i))), .val (.ref d), .val (.int (Int32.ofNat (q + i))), .val (.int (Int32.ofNat len)), .val (.int (Int32.ofNat i)), .val (.int (cv A (o + i)))] [])) := c6.trans (st7 _ (Steps.refl _))
      have c9 : Steps p.tables e below (s₁.setTop (entryFrame m #[.ref b, .int (Int32.ofNat o), .ref d, .int (Int32.ofNat q), .int (Int32.ofNat len)] 7)) (T7.setTop (mkF m 3 #[.val (.ref b), .val (.int (Int32.ofNat (o + i) + 1)), .val (.ref d), .val (.int (Int32.ofNat (q + i) + 1)), .val (.int (Int32.ofNat len)), .val (.int (Int32.ofNat i + 1)), .val (.int (cv A (o + i)))] [])) := c8.trans (by
        refine iincV X7.here hexec rfl 1 (hb hbytes d32) (by decide) rfl rfl ?_
        refine iincV X7.here hexec rfl 1 (hb hbytes d35) (by decide) rfl rfl ?_
        refine iincV X7.here hexec rfl 1 (hb hbytes d38) (by decide) rfl rfl ?_
        refine XS.goto X7.here hexec rfl (pc0 := 41) rfl (hb hbytes d41) (by decide) rfl ?_
        exact Steps.refl _)
      have c10 : Steps p.tables e below (s₁.setTop (entryFrame m #[.ref b, .int (Int32.ofNat o), .ref d, .int (Int32.ofNat q), .int (Int32.ofNat len)] 7)) (T7.setTop (mkF m 3 #[.val (.ref b), .val (.int (Int32.ofNat (o + (i + 1)))), .val (.ref d), .val (.int (Int32.ofNat (q + (i + 1)))), .val (.int (Int32.ofNat len)), .val (.int (Int32.ofNat (i + 1))), .val (.int (cv A (o + i)))] [])) := by
        have := c9
        rw [succ32, succ32, succ32] at this
        exact this
      exact ih (i + 1) (by omega) _ (Or.inr ⟨_, rfl, rfl⟩) T7 _ (by rw [copyLocs_step, ← List.append_assoc]; exact X7) (pl.trans p7) (fl.step (by omega) hlt (by simp)) c10
  obtain ⟨T9, B9, z9, X9, p9, f9, g9⟩ := loop len 0 (by omega) .unset (Or.inl rfl) s₁ B (by simpa [copyLocs] using X0) ⟨hB0.1, fun _ _ => rfl, rfl⟩ (Laid.zero _ _ _) c2
  have c11 : Steps p.tables e below (s₁.setTop (entryFrame m #[.ref b, .int (Int32.ofNat o), .ref d, .int (Int32.ofNat q), .int (Int32.ofNat len)] 7)) (T9.setTop (mkF m 46 #[.val (.ref b), .val (.int (Int32.ofNat (o + len))), .val (.ref d), .val (.int (Int32.ofNat (q + len))), .val (.int (Int32.ofNat len)), .val (.int (Int32.ofNat len)), z9] [.int (Int32.ofNat len)])) := g9.trans (by
    refine XS.iload X9.here hexec rfl (hb hbytes d3) rfl ?_
    refine XS.iload X9.here hexec rfl (hb hbytes d5) rfl ?_
    refine XS.icmpYes X9.here hexec rfl (pc0 := 7) rfl (hb hbytes d7) rfl (ii_ge_t (nlt32 (by omega) (Nat.le_refl _))) (by decide) rfl ?_
    refine XS.iload X9.here hexec rfl (hb hbytes d44) rfl ?_
    exact Steps.refl _)
  exact ⟨T9, some (.int (Int32.ofNat len)), _, _, _, X9, by simp, rfl, rfl, (fun h => by cases h), ⟨rfl, B9, p9.from hh0, f9⟩, fun fs hl => c11.trans (X9.ireturnOut hexec hret rfl (Or.inl rfl) (hb hbytes d46) hl)⟩
end Cmp5
namespace Cmp3
def yN : MethodName := ⟨"java/lang/StringUTF16", "compress", "([CII)[B"⟩
abbrev yB : ByteArray := jdk_52_method_16_code
theorem d0 : decode yB 0 = .ok (.iload_n 2, 1) := by decide +kernel
theorem d1 : decode yB 1 = .ok (.newarray .byte, 2) := by decide +kernel
theorem d3 : decode yB 3 = .ok (.astore_n 3, 1) := by decide +kernel
theorem d4 : decode yB 4 = .ok (.aload_n 0, 1) := by decide +kernel
theorem d5 : decode yB 5 = .ok (.iload_n 1, 1) := by decide +kernel
theorem d6 : decode yB 6 = .ok (.aload_n 3, 1) := by decide +kernel
theorem d7 : decode yB 7 = .ok (.iconst 0, 1) := by decide +kernel
theorem d8 : decode yB 8 = .ok (.iload_n 2, 1) := by decide +kernel
theorem d9 : decode yB 9 = .ok (.invokestatic 115, 3) := by decide +kernel
theorem d12 : decode yB 12 = .ok (.istore 4, 2) := by decide +kernel
theorem d14 : decode yB 14 = .ok (.iload 4, 2) := by decide +kernel
theorem d16 : decode yB 16 = .ok (.iload_n 2, 1) := by decide +kernel
theorem d17 : decode yB 17 = .ok (.if_icmp (.eq) 40, 3) := by decide +kernel
theorem d57 : decode yB 57 = .ok (.aload_n 3, 1) := by decide +kernel
theorem d58 : decode yB 58 = .ok (.areturn, 1) := by decide +kernel
def site : List Cond := [.arrayClass .byte, Cmp5.tab] ++ staticW U16 115 Cmp5.yN
def tab : Cond := tabOf yN yB 6 (some (.array .byte)) site
def P (b : Addr) (A : Cell) (o len : Nat) (args : Array Value) (s : State) : Prop := args = #[.ref b, .int (Int32.ofNat o), .int (Int32.ofNat len)] ∧ Ch b A s ∧ o + len ≤ A.slots.size ∧ len ≤ 536870912 ∧ ∀ i, i < len → ¬ 255 < cv A (o + i)
def E (b : Addr) (A : Cell) (o len : Nat) (r : Option Value) (s u : State) : Prop := NewArr .byte "[B" len (fun j => .int (lo8 (cv A (o + j)))) r s u ∧ u.heap.size = s.heap.size + 1
/-- no char of the range above 255: a new byte[] of their low bytes -/
theorem law (l : Launch) (b : Addr) (A : Cell) (o len : Nat) : Law l yN 3 3 1 18 yB 6 (some (.array .byte)) site (P b A o len) (E b A o len) [] 1 len := by
  refine Law.of_walk (plainFor_of_name (by decide +kernel)) (by decide +kernel) (by decide +kernel) (by decide) (fun _ _ h => by rw [h.1]; rfl) (fun _ U U' hal hh h => ⟨h.1, h.2.1.mv hal hh, h.2.2⟩) (fun r U U' V V' h1 hal h2 h => ⟨NewArr.mv r U U' V V' h1 hal h2 h.1, by rw [h1, h2]; exact h.2⟩) ?_
  intro p e s m args below meth c s₁ X0 hexec hbytes hml hret hlk hnm hown hh0 W hP
  obtain ⟨rfl, hA, l1, l2, hp⟩ := hP
  have a31 := hA.1.2.2.2
  have c1 : Steps p.tables e below (s₁.setTop (entryFrame m #[.ref b, .int (Int32.ofNat o), .int (Int32.ofNat len)] 6)) (s₁.setTop (mkF m 0 #[.val (.ref b), .val (.int (Int32.ofNat o)), .val (.int (Int32.ofNat len)), .unset, .unset, .unset] [])) := entry rfl
  have c2 : Steps p.tables e below (s₁.setTop (entryFrame m #[.ref b, .int (Int32.ofNat o), .int (Int32.ofNat len)] 6)) (s₁.setTop (mkF m 1 #[.val (.ref b), .val (.int (Int32.ofNat o)), .val (.int (Int32.ofNat len)), .unset, .unset, .unset] [.int (Int32.ofNat len)])) := c1.trans (by
    refine XS.iloadN X0.here hexec rfl (hb hbytes d0) rfl ?_
    exact Steps.refl _)
  obtain ⟨T3, B3, X3, ba3, bs3, bv3, bh3, bf3, st3⟩ := X0.anew hexec (atype := .byte) (wk W (.arrayClass .byte)) rfl (by show len * 1 ≤ _; omega) (by omega) (g := (mkF m 1 #[.val (.ref b), .val (.int (Int32.ofNat o)), .val (.int (Int32.ofNat len)), .unset, .unset, .unset] [.int (Int32.ofNat len)])) rfl (hb hbytes d1) (rest := []) rfl (Nat.le_refl _) (by show 0 + len ≤ len; omega)
  rw [hh0] at ba3 st3
  have kp3 : XT.Kept s T3 := (XT.Kept.of_eq hh0).push bh3
  have hA3 := hA.keep X3.warmed.alike (kp3 _ _ hA.1.1)
  have hne : b ≠ s.heap.size := hA.1.ne
  have c4 : Steps p.tables e below (s₁.setTop (entryFrame m #[.ref b, .int (Int32.ofNat o), .int (Int32.ofNat len)] 6)) (T3.setTop (mkF m 3 #[.val (.ref b), .val (.int (Int32.ofNat o)), .val (.int (Int32.ofNat len)), .unset, .unset, .unset] [.ref s.heap.size])) := c2.trans (st3 _ (Steps.refl _))
  have c5 : Steps p.tables e below (s₁.setTop (entryFrame m #[.ref b, .int (Int32.ofNat o), .int (Int32.ofNat len)] 6)) (T3.setTop (mkF m 9 #[.val (.ref b), .val (.int (Int32.ofNat o)), .val (.int (Int32.ofNat len)), .val (.ref s.heap.size), .unset, .unset] [.int (Int32.ofNat len), .int 0, .ref s.heap.size, .int (Int32.ofNat o), .ref b])) := c4.trans (by
    refine XS.astoreN X3.here hexec rfl (hb hbytes d3) rfl rfl rfl ?_
    refine XS.aloadN X3.here hexec rfl (hb hbytes d4) rfl rfl ?_
    refine XS.iloadN X3.here hexec rfl (hb hbytes d5) rfl ?_
    refine XS.aloadN X3.here hexec rfl (hb hbytes d6) rfl rfl ?_
    refine iconstV X3.here hexec rfl 0 (hb hbytes d7) (by decide) ?_
    refine XS.iloadN X3.here hexec rfl (hb hbytes d8) rfl ?_
    exact Steps.refl _)
  obtain ⟨v6, T6, X6, E6, g6⟩ := X3.callS hexec (Cmp5.law l b A s.heap.size B3 o 0 len) hown (wks W (staticW U16 115 Cmp5.yN)) (wk W Cmp5.tab) (W := 0) (Nat.le_of_ble_eq_true rfl) (Nat.le_of_ble_eq_true rfl) (Nat.le_refl _) (by show 0 + len + 0 ≤ len; omega) (g := (mkF m 9 #[.val (.ref b), .val (.int (Int32.ofNat o)), .val (.int (Int32.ofNat len)), .val (.ref s.heap.size), .unset, .unset] [.int (Int32.ofNat len), .int (Int32.ofNat 0), .ref s.heap.size, .int (Int32.ofNat o), .ref b])) rfl (by rw [hml]; rfl) c5 (argsL := [.ref b, .int (Int32.ofNat o), .ref s.heap.size, .int (Int32.ofNat 0), .int (Int32.ofNat len)]) (rest := []) rfl rfl (by show 2 * 0 + 0 ≤ _; decide) (hb hbytes d9) (⟨rfl, hA3, ba3, hne, l1, by rw [bs3]; simp, hp⟩)
  obtain ⟨rfl, B6, p6, f6⟩ := E6
  have c7 : Steps p.tables e below (s₁.setTop (entryFrame m #[.ref b, .int (Int32.ofNat o), .int (Int32.ofNat len)] 6)) (T6.setTop (mkF m 12 #[.val (.ref b), .val (.int (Int32.ofNat o)), .val (.int (Int32.ofNat len)), .val (.ref s.heap.size), .unset, .unset] [.int (Int32.ofNat len)])) := g6
  have c8 : Steps p.tables e below (s₁.setTop (entryFrame m #[.ref b, .int (Int32.ofNat o), .int (Int32.ofNat len)] 6)) (T6.setTop (mkF m 58 #[.val (.ref b), .val (.int (Int32.ofNat o)), .val (.int (Int32.ofNat len)), .val (.ref s.heap.size), .val (.int (Int32.ofNat len)), .unset] [.ref s.heap.size])) := c7.trans (by
    refine XS.istore X6.here hexec rfl (hb hbytes d12) rfl rfl ?_
    refine XS.iload X6.here hexec rfl (hb hbytes d14) rfl ?_
    refine XS.iloadN X6.here hexec rfl (hb hbytes d16) rfl ?_
    refine XS.icmpYes X6.here hexec rfl (pc0 := 17) rfl (hb hbytes d17) rfl (ii_eq_t rfl) (by decide) rfl ?_
    refine XS.aloadN X6.here hexec rfl (hb hbytes d57) rfl rfl ?_
    exact Steps.refl _)
  have X8 := X6.wide (L' := []) (cells' := 1) (slots' := len) (fun x hx hlt => by
    simp only [List.nil_append, copyLocs, List.mem_map, List.mem_range] at hx
    obtain ⟨i, -, rfl⟩ := hx
    exact absurd hlt (Nat.lt_irrefl _)) (Nat.le_refl _) (by omega)
  exact ⟨T6, some (.ref s.heap.size), _, _, _, X8, rfl, rfl, rfl, (fun h => by cases h), ⟨⟨rfl, B6, ba3.like (X3.warmed.alike.symm.trans X6.warmed.alike) p6.1 f6.1 f6.2.1 f6.2.2.1, f6.2.1.trans bv3, by rw [X6.warmed.alike.findClass, f6.1]; exact bf3, by rw [f6.2.2.1, bs3]; simp, fun j hj => by rw [f6.2.2.2 j, if_pos (by omega)]; rfl, kp3.put p6 (Nat.le_refl _)⟩, by rw [p6.2.2, bh3, hh0]; simp⟩, fun fs hl => c8.trans (X8.areturnOut hexec rfl hret rfl (hb hbytes d58) hl)⟩
end Cmp3
namespace CodL
def yN : MethodName := ⟨"java/lang/StringUTF16", "coderFromArrayLen", "([BI)B"⟩
abbrev yB : ByteArray := jdk_52_method_15_code
theorem d0 : decode yB 0 = .ok (.iload_n 1, 1) := by decide +kernel
theorem d1 : decode yB 1 = .ok (.aload_n 0, 1) := by decide +kernel
theorem d2 : decode yB 2 = .ok (.arraylength, 1) := by decide +kernel
theorem d3 : decode yB 3 = .ok (.isub, 1) := by decide +kernel
theorem d4 : decode yB 4 = .ok (.bipush 31, 2) := by decide +kernel
theorem d6 : decode yB 6 = .ok (.iushr, 1) := by decide +kernel
theorem d7 : decode yB 7 = .ok (.i2b, 1) := by decide +kernel
theorem d8 : decode yB 8 = .ok (.ireturn, 1) := by decide +kernel
def site : List Cond := []
def tab : Cond := tabOf yN yB 2 (some .byte) site
def P (d : Addr) (B : Cell) (args : Array Value) (s : State) : Prop := args = #[.ref d, .int (Int32.ofNat B.slots.size)] ∧ Arr .byte d B s
def E (r : Option Value) (s u : State) : Prop := XT.PureE (some (.int 0)) r s u
/-- an array as long as the number of chars: LATIN1 -/
theorem law (l : Launch) (d : Addr) (B : Cell) : Law l yN 2 2 0 0 yB 2 (some .byte) site (P d B) E [] 0 0 := by
  refine Law.of_walk (plainFor_of_name (by decide +kernel)) (by decide +kernel) (by decide +kernel) (by decide) (fun _ _ h => by rw [h.1]; rfl) (fun _ U U' hal hh h => ⟨h.1, h.2.mv hal hh⟩) (fun r U U' V V' h1 hal h2 h => XT.PureE.mv r U U' V V' h1 hal h2 h) ?_
  intro p e s m args below meth c s₁ X0 hexec hbytes hml hret hlk hnm hown hh0 W hP
  obtain ⟨rfl, hB⟩ := hP
  have hB0 := hB.mv X0.warmed.alike hh0
  have c1 : Steps p.tables e below (s₁.setTop (entryFrame m #[.ref d, .int (Int32.ofNat B.slots.size)] 2)) (s₁.setTop (mkF m 0 #[.val (.ref d), .val (.int (Int32.ofNat B.slots.size))] [])) := entry rfl
  have c2 : Steps p.tables e below (s₁.setTop (entryFrame m #[.ref d, .int (Int32.ofNat B.slots.size)] 2)) (s₁.setTop (mkF m 2 #[.val (.ref d), .val (.int (Int32.ofNat B.slots.size))] [.ref d, .int (Int32.ofNat B.slots.size)])) := c1.trans (by
    refine XS.iloadN X0.here hexec rfl (hb hbytes d0) rfl ?_
    refine XS.aloadN X0.here hexec rfl (hb hbytes d1) rfl rfl ?_
    exact Steps.refl _)
  have c3 : Steps p.tables e below (s₁.setTop (entryFrame m #[.ref d, .int (Int32.ofNat B.slots.size)] 2)) (s₁.setTop (mkF m 8 #[.val (.ref d), .val (.int (Int32.ofNat B.slots.size))] [.int (lo8 (ushr (Int32.ofNat B.slots.size - Int32.ofNat B.slots.size) 31))])) := c2.trans (by
    refine X0.alen hexec hB0 rfl rfl (hb hbytes d2) ?_
    refine XS.isub X0.here hexec rfl (hb hbytes d3) rfl ?_
    refine bipushV X0.here hexec rfl 31 (hb hbytes d4) (by decide) ?_
    refine iushr X0.here hexec rfl (hb hbytes d6) rfl ?_
    refine i2b X0.here hexec rfl (hb hbytes d7) rfl ?_
    exact Steps.refl _)
  have e0 : lo8 (ushr (Int32.ofNat B.slots.size - Int32.ofNat B.slots.size) 31) = 0 := by rw [Int32.sub_self]; decide
  rw [e0] at c3
  exact ⟨s₁, some (.int 0), _, _, _, X0, rfl, rfl, rfl, (fun h => by cases h), ⟨rfl, hh0⟩, fun fs hl => c3.trans (X0.ireturnOut hexec hret rfl (Or.inr (Or.inr (Or.inl rfl))) (hb hbytes d8) hl)⟩
end CodL
/-- the String at a is Latin-1 over a new byte[] (the heap's one new cell): the low bytes of the len chars of A from o on; every cell but a is kept -/
def Got (a : Addr) (D : Cell) (fV fC : Field) (A : Cell) (o len : Nat) (r : Option Value) (s u : State) : Prop := r = none ∧ ∃ D' V : Cell, Blank "java/lang/String" a D' u ∧ Same D D' [fV.slot, fC.slot] ∧ D'.slots[fV.slot]? = some (.ref s.heap.size) ∧ D'.slots[fC.slot]? = some (.int 0) ∧ Arr .byte s.heap.size V u ∧ V.vm = .none ∧ u.vm.findClass "[B" = some V.cls ∧ V.slots.size = len ∧ (∀ j, j < len → V.slots[j]? = some (.int (lo8 (cv A (o + j))))) ∧ (∀ (y : Addr) (c : Cell), y ≠ a → s.heap[y]? = some c → u.heap[y]? = some c) ∧ u.heap.size = s.heap.size + 1
theorem Got.mv {a : Addr} {D A : Cell} {fV fC : Field} {o len : Nat} : ∀ r (U U' V V' : State), U'.heap = U.heap → V.vm.Alike V'.vm → V'.heap = V.heap → Got a D fV fC A o len r U V → Got a D fV fC A o len r U' V' :=
  fun r U U' V V' h1 hal h2 ⟨e0, D', X, a1, a2, a3, a4, a5, a6, a7, a8, a9, a10, a11⟩ => ⟨e0, D', X, a1.mv hal h2, a2, by rw [h1]; exact a3, a4, by rw [h1]; exact a5.mv hal h2, a6, by rw [hal.findClass]; exact a7, a8, a9, by rw [h1, h2]; exact a10, by rw [h1, h2]; exact a11⟩
namespace New4
def yN : MethodName := ⟨"java/lang/String", "<init>", "([CIILjava/lang/Void;)V"⟩
abbrev yB : ByteArray := jdk_42_method_149_code
theorem d0 : decode yB 0 = .ok (.aload_n 0, 1) := by decide +kernel
theorem d1 : decode yB 1 = .ok (.invokespecial 1, 3) := by decide +kernel
theorem d4 : decode yB 4 = .ok (.iload_n 3, 1) := by decide +kernel
theorem d5 : decode yB 5 = .ok (.ifCond (.ne) 22, 3) := by decide +kernel
theorem d27 : decode yB 27 = .ok (.getstatic 38, 3) := by decide +kernel
theorem d30 : decode yB 30 = .ok (.ifCond (.eq) 28, 3) := by decide +kernel
theorem d33 : decode yB 33 = .ok (.aload_n 1, 1) := by decide +kernel
theorem d34 : decode yB 34 = .ok (.iload_n 2, 1) := by decide +kernel
theorem d35 : decode yB 35 = .ok (.iload_n 3, 1) := by decide +kernel
theorem d36 : decode yB 36 = .ok (.invokestatic 177, 3) := by decide +kernel
theorem d39 : decode yB 39 = .ok (.astore 5, 2) := by decide +kernel
theorem d41 : decode yB 41 = .ok (.aload_n 0, 1) := by decide +kernel
theorem d42 : decode yB 42 = .ok (.aload 5, 2) := by decide +kernel
theorem d44 : decode yB 44 = .ok (.iload_n 3, 1) := by decide +kernel
theorem d45 : decode yB 45 = .ok (.invokestatic 47, 3) := by decide +kernel
theorem d48 : decode yB 48 = .ok (.putfield 15, 3) := by decide +kernel
theorem d51 : decode yB 51 = .ok (.aload_n 0, 1) := by decide +kernel
theorem d52 : decode yB 52 = .ok (.aload 5, 2) := by decide +kernel
theorem d54 : decode yB 54 = .ok (.putfield 9, 3) := by decide +kernel
theorem d57 : decode yB 57 = .ok (.return_, 1) := by decide +kernel
def site : List Cond := [.fieldLink "java/lang/String" 38 "java/lang/String" "COMPACT_STRINGS" "Z", Cmp3.tab, CodL.tab, .laysFinal "java/lang/String" "java/lang/String" "value" "[B", .fieldLink "java/lang/String" 9 "java/lang/String" "value" "[B", .laysFinal "java/lang/String" "java/lang/String" "coder" "B", .fieldLink "java/lang/String" 15 "java/lang/String" "coder" "B"] ++ objW "java/lang/String" 1 ++ staticW "java/lang/String" 177 Cmp3.yN ++ staticW "java/lang/String" 47 CodL.yN
def tab : Cond := tabOf yN yB 6 none site
def P (a : Addr) (D : Cell) (fV fC : Field) (b : Addr) (A : Cell) (z : Int32) (o len : Nat) (args : Array Value) (s : State) : Prop := args = #[.ref a, .ref b, .int (Int32.ofNat o), .int (Int32.ofNat len), .null] ∧ Blank "java/lang/String" a D s ∧ Found "java/lang/String" "value" "[B" fV s ∧ Found "java/lang/String" "coder" "B" fC s ∧ Ch b A s ∧ StaticIs s "java/lang/String" "COMPACT_STRINGS" "Z" (.int z) ∧ ¬ z = 0 ∧ 0 < len ∧ o + len ≤ A.slots.size ∧ len ≤ 536870912 ∧ ∀ i, i < len → ¬ 255 < cv A (o + i)
def E (a : Addr) (D : Cell) (fV fC : Field) (A : Cell) (o len : Nat) (r : Option Value) (s u : State) : Prop := Got a D fV fC A o len r s u
/-- len > 0, no char of the range above 255: a Latin-1 String of their low bytes -/
theorem law (l : Launch) (a : Addr) (D : Cell) (fV fC : Field) (b : Addr) (A : Cell) (z : Int32) (o len : Nat) : Law l yN 5 4 2 35 yB 6 none site (P a D fV fC b A z o len) (E a D fV fC A o len) [⟨a, fC.slot⟩, ⟨a, fV.slot⟩] 1 len := by
  refine Law.of_walk (plainFor_of_name (by decide +kernel)) (by decide +kernel) (by decide +kernel) (by decide) (fun _ _ h => by rw [h.1]; rfl) (fun _ U U' hal hh h => ⟨h.1, h.2.1.mv hal hh, h.2.2.1.al hal, h.2.2.2.1.al hal, h.2.2.2.2.1.mv hal hh, h.2.2.2.2.2.1.there hal hh, h.2.2.2.2.2.2⟩) (fun r U U' V V' h1 hal h2 h => Got.mv r U U' V V' h1 hal h2 h) ?_
  intro p e s m args below meth c s₁ X0 hexec hbytes hml hret hlk hnm hown hh0 W hP
  obtain ⟨rfl, hB, f1, f2, hA, s1, hz, l0, l1, l2, hp⟩ := hP
  have a31 := hA.1.2.2.2
  have c1 : Steps p.tables e below (s₁.setTop (entryFrame m #[.ref a, .ref b, .int (Int32.ofNat o), .int (Int32.ofNat len), .null] 6)) (s₁.setTop (mkF m 0 #[.val (.ref a), .val (.ref b), .val (.int (Int32.ofNat o)), .val (.int (Int32.ofNat len)), .val .null, .unset] [])) := entry rfl
  have c2 : Steps p.tables e below (s₁.setTop (entryFrame m #[.ref a, .ref b, .int (Int32.ofNat o), .int (Int32.ofNat len), .null] 6)) (s₁.setTop (mkF m 1 #[.val (.ref a), .val (.ref b), .val (.int (Int32.ofNat o)), .val (.int (Int32.ofNat len)), .val .null, .unset] [.ref a])) := c1.trans (by
    refine XS.aloadN X0.here hexec rfl (hb hbytes d0) rfl rfl ?_
    exact Steps.refl _)
  obtain ⟨T3, X3, q3, st3⟩ := X0.oinit hexec hown (wks W (objW "java/lang/String" 1)) (g := (mkF m 1 #[.val (.ref a), .val (.ref b), .val (.int (Int32.ofNat o)), .val (.int (Int32.ofNat len)), .val .null, .unset] [.ref a])) rfl (by rw [hml]; rfl) (rest := []) rfl (hb hbytes d1) (W := 0) (by show 2 * 0 + 0 ≤ _; decide) (Nat.le_of_ble_eq_true rfl) (Nat.le_of_ble_eq_true rfl)
  have hh3 := q3.trans hh0
  have c4 : Steps p.tables e below (s₁.setTop (entryFrame m #[.ref a, .ref b, .int (Int32.ofNat o), .int (Int32.ofNat len), .null] 6)) (T3.setTop (mkF m 27 #[.val (.ref a), .val (.ref b), .val (.int (Int32.ofNat o)), .val (.int (Int32.ofNat len)), .val .null, .unset] [])) := (c2.trans (st3 _ (Steps.refl _))).trans (by
    refine XS.iloadN X3.here hexec rfl (hb hbytes d4) rfl ?_
    refine XS.ifYes X3.here hexec rfl (pc0 := 5) rfl (hb hbytes d5) rfl (i0_ne_t (nz32 (by omega) l0)) (by decide) rfl ?_
    exact Steps.refl _)
  obtain ⟨T5, X5, q5, st5⟩ := X3.sget hexec hown (wk W (.fieldLink "java/lang/String" 38 "java/lang/String" "COMPACT_STRINGS" "Z")) s1 (fun _ _ h => by rw [hh3]; exact h) (g := (mkF m 27 #[.val (.ref a), .val (.ref b), .val (.int (Int32.ofNat o)), .val (.int (Int32.ofNat len)), .val .null, .unset] [])) rfl (hb hbytes d27)
  have hh5 := q5.trans hh3
  have c6 : Steps p.tables e below (s₁.setTop (entryFrame m #[.ref a, .ref b, .int (Int32.ofNat o), .int (Int32.ofNat len), .null] 6)) (T5.setTop (mkF m 30 #[.val (.ref a), .val (.ref b), .val (.int (Int32.ofNat o)), .val (.int (Int32.ofNat len)), .val .null, .unset] [.int z])) := c4.trans (st5 _ (Steps.refl _))
  have c7 : Steps p.tables e below (s₁.setTop (entryFrame m #[.ref a, .ref b, .int (Int32.ofNat o), .int (Int32.ofNat len), .null] 6)) (T5.setTop (mkF m 36 #[.val (.ref a), .val (.ref b), .val (.int (Int32.ofNat o)), .val (.int (Int32.ofNat len)), .val .null, .unset] [.int (Int32.ofNat len), .int (Int32.ofNat o), .ref b])) := c6.trans (by
    refine XS.ifNo X5.here hexec rfl (hb hbytes d30) rfl (i0_eq_f hz) ?_
    refine XS.aloadN X5.here hexec rfl (hb hbytes d33) rfl rfl ?_
    refine XS.iloadN X5.here hexec rfl (hb hbytes d34) rfl ?_
    refine XS.iloadN X5.here hexec rfl (hb hbytes d35) rfl ?_
    exact Steps.refl _)
  obtain ⟨v8, T8, X8, E8, g8⟩ := X5.callS hexec (Cmp3.law l b A o len) hown (wks W (staticW "java/lang/String" 177 Cmp3.yN)) (wk W Cmp3.tab) (W := 0) (Nat.le_of_ble_eq_true rfl) (Nat.le_of_ble_eq_true rfl) (Nat.le_refl _) (by show 0 + len ≤ len; omega) (g := (mkF m 36 #[.val (.ref a), .val (.ref b), .val (.int (Int32.ofNat o)), .val (.int (Int32.ofNat len)), .val .null, .unset] [.int (Int32.ofNat len), .int (Int32.ofNat o), .ref b])) rfl (by rw [hml]; rfl) c7 (argsL := [.ref b, .int (Int32.ofNat o), .int (Int32.ofNat len)]) (rest := []) rfl rfl (by show 2 * 0 + 0 ≤ _; decide) (hb hbytes d36) (⟨rfl, hA.mv X5.warmed.alike hh5, l1, l2, hp⟩)
  obtain ⟨e8, z8⟩ := E8
  obtain ⟨rfl, N, n1, n2, n3, n4, n5, n6⟩ := NewArr.mv _ T5 s _ _ hh5.symm (Vm.Alike.refl _) rfl e8
  rw [hh5] at z8
  have hB1 := hB.keep X8.warmed.alike (n6 _ _ hB.1)
  have hne : s.heap.size ≠ a := (Nat.ne_of_lt (Array.getElem?_eq_some_iff.mp hB.1).1).symm
  have c9 : Steps p.tables e below (s₁.setTop (entryFrame m #[.ref a, .ref b, .int (Int32.ofNat o), .int (Int32.ofNat len), .null] 6)) (T8.setTop (mkF m 39 #[.val (.ref a), .val (.ref b), .val (.int (Int32.ofNat o)), .val (.int (Int32.ofNat len)), .val .null, .unset] [.ref s.heap.size])) := g8
  have c10 : Steps p.tables e below (s₁.setTop (entryFrame m #[.ref a, .ref b, .int (Int32.ofNat o), .int (Int32.ofNat len), .null] 6)) (T8.setTop (mkF m 45 #[.val (.ref a), .val (.ref b), .val (.int (Int32.ofNat o)), .val (.int (Int32.ofNat len)), .val .null, .val (.ref s.heap.size)] [.int (Int32.ofNat N.slots.size), .ref s.heap.size, .ref a])) := by
    have hc : Steps p.tables e below (s₁.setTop (entryFrame m #[.ref a, .ref b, .int (Int32.ofNat o), .int (Int32.ofNat len), .null] 6)) (T8.setTop (mkF m 45 #[.val (.ref a), .val (.ref b), .val (.int (Int32.ofNat o)), .val (.int (Int32.ofNat len)), .val .null, .val (.ref s.heap.size)] [.int (Int32.ofNat len), .ref s.heap.size, .ref a])) := c9.trans (by
      refine XS.astore X8.here hexec rfl (hb hbytes d39) rfl rfl rfl ?_
      refine XS.aloadN X8.here hexec rfl (hb hbytes d41) rfl rfl ?_
      refine XS.aload X8.here hexec rfl (hb hbytes d42) rfl rfl ?_
      refine XS.iloadN X8.here hexec rfl (hb hbytes d44) rfl ?_
      exact Steps.refl _)
    rw [n4]; exact hc
  obtain ⟨v11, T11, X11, E11, g11⟩ := X8.callS hexec (CodL.law l s.heap.size N) hown (wks W (staticW "java/lang/String" 47 CodL.yN)) (wk W CodL.tab) (W := 1) (Nat.le_of_ble_eq_true rfl) (Nat.le_of_ble_eq_true rfl) (Nat.le_refl _) (by show 0 + len + 0 ≤ len; omega) (g := (mkF m 45 #[.val (.ref a), .val (.ref b), .val (.int (Int32.ofNat o)), .val (.int (Int32.ofNat len)), .val .null, .val (.ref s.heap.size)] [.int (Int32.ofNat N.slots.size), .ref s.heap.size, .ref a])) rfl (by rw [hml]; rfl) c10 (argsL := [.ref s.heap.size, .int (Int32.ofNat N.slots.size)]) (rest := [.ref a]) rfl rfl (by show 2 * 0 + (1 + 0) ≤ _; decide) (hb hbytes d45) (⟨rfl, n1⟩)
  obtain ⟨rfl, q11⟩ := E11
  have hB11 := hB1.mv (X8.warmed.alike.symm.trans X11.warmed.alike) q11
  have c12 : Steps p.tables e below (s₁.setTop (entryFrame m #[.ref a, .ref b, .int (Int32.ofNat o), .int (Int32.ofNat len), .null] 6)) (T11.setTop (mkF m 48 #[.val (.ref a), .val (.ref b), .val (.int (Int32.ofNat o)), .val (.int (Int32.ofNat len)), .val .null, .val (.ref s.heap.size)] [.int 0, .ref a])) := g11
  obtain ⟨T13, X13, p13, bl13, sl13, st13⟩ := X11.finit hexec hown (wk W (.fieldLink "java/lang/String" 15 "java/lang/String" "coder" "B")) (Or.inr ⟨_, (wk W (.laysFinal "java/lang/String" "java/lang/String" "coder" "B"))⟩) (Or.inl ⟨rfl, hnm⟩) f2 (Or.inl rfl) hB11 (t := .byte) (by decide +kernel) rfl (g := (mkF m 48 #[.val (.ref a), .val (.ref b), .val (.int (Int32.ofNat o)), .val (.int (Int32.ofNat len)), .val .null, .val (.ref s.heap.size)] [.int 0, .ref a])) rfl (rest := []) rfl (hb hbytes d48)
  have c14 : Steps p.tables e below (s₁.setTop (entryFrame m #[.ref a, .ref b, .int (Int32.ofNat o), .int (Int32.ofNat len), .null] 6)) (T13.setTop (mkF m 54 #[.val (.ref a), .val (.ref b), .val (.int (Int32.ofNat o)), .val (.int (Int32.ofNat len)), .val .null, .val (.ref s.heap.size)] [.ref s.heap.size, .ref a])) := (c12.trans (st13 _ (Steps.refl _))).trans (by
    refine XS.aloadN X13.here hexec rfl (hb hbytes d51) rfl rfl ?_
    refine XS.aload X13.here hexec rfl (hb hbytes d52) rfl rfl ?_
    exact Steps.refl _)
  obtain ⟨T15, X15, p15, bl15, sl15, st15⟩ := X13.finit hexec hown (wk W (.fieldLink "java/lang/String" 9 "java/lang/String" "value" "[B")) (Or.inr ⟨_, (wk W (.laysFinal "java/lang/String" "java/lang/String" "value" "[B"))⟩) (Or.inl ⟨rfl, hnm⟩) f1 (Or.inl rfl) bl13 (t := (.array .byte)) (by decide +kernel) rfl (g := (mkF m 54 #[.val (.ref a), .val (.ref b), .val (.int (Int32.ofNat o)), .val (.int (Int32.ofNat len)), .val .null, .val (.ref s.heap.size)] [.ref s.heap.size, .ref a])) rfl (rest := []) rfl (hb hbytes d54)
  have c16 : Steps p.tables e below (s₁.setTop (entryFrame m #[.ref a, .ref b, .int (Int32.ofNat o), .int (Int32.ofNat len), .null] 6)) (T15.setTop (mkF m 57 #[.val (.ref a), .val (.ref b), .val (.int (Int32.ofNat o)), .val (.int (Int32.ofNat len)), .val .null, .val (.ref s.heap.size)] [])) := c14.trans (st15 _ (Steps.refl _))
  have ap := apart (Or.inr ⟨_, (wk W (.laysFinal "java/lang/String" "java/lang/String" "value" "[B"))⟩) (Or.inr ⟨_, (wk W (.laysFinal "java/lang/String" "java/lang/String" "coder" "B"))⟩) f1 f2 (t₁ := .array .byte) (t₂ := .byte) (by decide +kernel) (by decide +kernel) (by decide)
  have al := X8.warmed.alike.symm.trans X15.warmed.alike
  have n7 : T11.heap[s.heap.size]? = some N := by rw [q11]; exact n1.1
  exact ⟨T15, none, _, _, _, X15, by simp, rfl, by omega, (fun _ => rfl), ⟨rfl, _, N, bl15, ((Same.refl D _).set _ (by simp)).set _ (by simp), sl15, (Cell.slots_setSlot_ne _ ap).trans sl13, n1.keep al (p15.other hne (p13.other hne n7)), n2, by rw [al.findClass]; exact n3, n4, n5, fun y c h1 h2 => p15.other h1 (p13.other h1 (by rw [q11]; exact n6 y c h2)), by rw [p15.2.2, p13.2.2, q11]; exact z8⟩, fun fs hl => c16.trans (X15.returnOut hexec hret (hb hbytes d57) hl)⟩
end New4
namespace New1
def yN : MethodName := ⟨"java/lang/String", "<init>", "([C)V"⟩
abbrev yB : ByteArray := jdk_42_method_3_code
theorem d0 : decode yB 0 = .ok (.aload_n 0, 1) := by decide +kernel
theorem d1 : decode yB 1 = .ok (.aload_n 1, 1) := by decide +kernel
theorem d2 : decode yB 2 = .ok (.iconst 0, 1) := by decide +kernel
theorem d3 : decode yB 3 = .ok (.aload_n 1, 1) := by decide +kernel
theorem d4 : decode yB 4 = .ok (.arraylength, 1) := by decide +kernel
theorem d5 : decode yB 5 = .ok (.aconst_null, 1) := by decide +kernel
theorem d6 : decode yB 6 = .ok (.invokespecial 27, 3) := by decide +kernel
theorem d9 : decode yB 9 = .ok (.return_, 1) := by decide +kernel
def site : List Cond := [New4.tab] ++ initW "java/lang/String" 27 New4.yN
def tab : Cond := tabOf yN yB 2 none site
def P (a : Addr) (D : Cell) (fV fC : Field) (b : Addr) (A : Cell) (z : Int32) (args : Array Value) (s : State) : Prop := args = #[.ref a, .ref b] ∧ Blank "java/lang/String" a D s ∧ Found "java/lang/String" "value" "[B" fV s ∧ Found "java/lang/String" "coder" "B" fC s ∧ Ch b A s ∧ StaticIs s "java/lang/String" "COMPACT_STRINGS" "Z" (.int z) ∧ ¬ z = 0 ∧ 0 < A.slots.size ∧ A.slots.size ≤ 536870912 ∧ ∀ i, i < A.slots.size → ¬ 255 < cv A i
def E (a : Addr) (D : Cell) (fV fC : Field) (A : Cell) (r : Option Value) (s u : State) : Prop := Got a D fV fC A 0 A.slots.size r s u
/-- new String(chars), not empty, no char above 255: a Latin-1 String of their low bytes -/
theorem law (l : Launch) (a : Addr) (D : Cell) (fV fC : Field) (b : Addr) (A : Cell) (z : Int32) : Law l yN 2 1 3 52 yB 2 none site (P a D fV fC b A z) (E a D fV fC A) [⟨a, fC.slot⟩, ⟨a, fV.slot⟩] 1 A.slots.size := by
  refine Law.of_walk (plainFor_of_name (by decide +kernel)) (by decide +kernel) (by decide +kernel) (by decide) (fun _ _ h => by rw [h.1]; rfl) (fun _ U U' hal hh h => ⟨h.1, h.2.1.mv hal hh, h.2.2.1.al hal, h.2.2.2.1.al hal, h.2.2.2.2.1.mv hal hh, h.2.2.2.2.2.1.there hal hh, h.2.2.2.2.2.2⟩) (fun r U U' V V' h1 hal h2 h => Got.mv r U U' V V' h1 hal h2 h) ?_
  intro p e s m args below meth c s₁ X0 hexec hbytes hml hret hlk hnm hown hh0 W hP
  obtain ⟨rfl, hB, f1, f2, hA, s1, hz, l0, l2, hp⟩ := hP
  have c1 : Steps p.tables e below (s₁.setTop (entryFrame m #[.ref a, .ref b] 2)) (s₁.setTop (mkF m 0 #[.val (.ref a), .val (.ref b)] [])) := entry rfl
  have c2 : Steps p.tables e below (s₁.setTop (entryFrame m #[.ref a, .ref b] 2)) (s₁.setTop (mkF m 6 #[.val (.ref a), .val (.ref b)] [.null, .int (Int32.ofNat A.slots.size), .int 0, .ref b, .ref a])) := c1.trans (by
    refine XS.aloadN X0.here hexec rfl (hb hbytes d0) rfl rfl ?_
    refine XS.aloadN X0.here hexec rfl (hb hbytes d1) rfl rfl ?_
    refine iconstV X0.here hexec rfl 0 (hb hbytes d2) (by decide) ?_
    refine XS.aloadN X0.here hexec rfl (hb hbytes d3) rfl rfl ?_
    refine X0.alen hexec (hA.1.mv X0.warmed.alike hh0) rfl rfl (hb hbytes d4) ?_
    refine XS.aconstNull X0.here hexec rfl (hb hbytes d5) ?_
    exact Steps.refl _)
  obtain ⟨v3, T3, X3, E3, g3⟩ := X0.callN hexec (New4.law l a D fV fC b A z 0 A.slots.size) rfl hown (wks W (initW "java/lang/String" 27 New4.yN)) (W New4.tab (by simp only [site, List.mem_cons, List.mem_append, true_or, or_true])) (W := 0) (Nat.le_of_ble_eq_true rfl) (Nat.le_of_ble_eq_true rfl) (Nat.le_refl _) (by show 0 + A.slots.size ≤ A.slots.size; omega) (g := (mkF m 6 #[.val (.ref a), .val (.ref b)] [.null, .int (Int32.ofNat A.slots.size), .int (Int32.ofNat 0), .ref b, .ref a])) rfl (by rw [hml]; rfl) c2 (argsL := [.ref b, .int (Int32.ofNat 0), .int (Int32.ofNat A.slots.size), .null]) (rest := []) rfl rfl (by show 2 * 0 + 0 ≤ _; decide) (hb hbytes d6) (⟨rfl, hB.mv X0.warmed.alike hh0, f1.al X0.warmed.alike, f2.al X0.warmed.alike, hA.mv X0.warmed.alike hh0, s1.there X0.warmed.alike hh0, hz, l0, by omega, l2, fun i hi => by rw [Nat.zero_add]; exact hp i hi⟩)
  have e0 := Got.mv _ s₁ s _ _ hh0.symm (Vm.Alike.refl _) rfl E3
  obtain rfl := e0.1
  have c4 : Steps p.tables e below (s₁.setTop (entryFrame m #[.ref a, .ref b] 2)) (T3.setTop (mkF m 9 #[.val (.ref a), .val (.ref b)] [])) := g3
  exact ⟨T3, none, _, _, _, X3, by simp, rfl, by omega, (fun _ => rfl), e0, fun fs hl => c4.trans (X3.returnOut hexec hret (hb hbytes d9) hl)⟩
theorem pays {l : Launch} {R : Room} {p : Program} {e : Env} {below : List Frame} {s : State} {sargs : Array Value} {len W : Nat} (a : Addr) (D : Cell) (fV fC : Field) (b : Addr) (A : Cell) (z : Int32) (htab : tab.before sargs s = true) (hfr : 4 ≤ R.frames) (hlo : W + 65 ≤ R.locals) :
    Back l R p e below s sargs yN len W (fun A₁ a₁ => A₁.cells + 1 ≤ R.cells ∧ A₁.slots + A.slots.size ≤ R.slots ∧ P a D fV fC b A z a₁ A₁.U) (fun A₁ _ v₁ B₁ => E a D fV fC A v₁ A₁.U B₁.U ∧ B₁.locs = A₁.locs ++ [⟨a, fC.slot⟩, ⟨a, fV.slot⟩] ∧ B₁.cells = A₁.cells + 1 ∧ B₁.slots = A₁.slots + A.slots.size) :=
  (law l a D fV fC b A z).pays htab hfr (by omega)
end New1
end StrChars
namespace StrChars.Road
open Jvm Sem ClassFile Op Lib Jvm.Stand Jvm.Free Jvm.Free.XT
open Jvm.Lib.Cold (StaticIs)
abbrev ST : String := "java/lang/String"
/-- every table word that New1's law asks, flat -/
abbrev words : List Jvm.Cond := [.code New1.yN New1.yB 2 none, .initialized ST, .methodLink ST 27 New4.yN, .instanceMethod New4.yN,
  .code New4.yN New4.yB 6 none, .fieldLink ST 38 ST "COMPACT_STRINGS" "Z", .laysFinal ST ST "value" "[B", .fieldLink ST 9 ST "value" "[B", .laysFinal ST ST "coder" "B", .fieldLink ST 15 ST "coder" "B",
  .methodLink ST 1 Lib.objectInit, .instanceMethod Lib.objectInit, .code Lib.objectInit ⟨#[0xb1]⟩ 1 none, .methodLink ST 177 Cmp3.yN, .static Cmp3.yN, .methodLink ST 47 CodL.yN, .static CodL.yN,
  .code Cmp3.yN Cmp3.yB 6 (some (.array .byte)), .initialized U16, .arrayClass .byte, .methodLink U16 115 Cmp5.yN, .static Cmp5.yN, .code Cmp5.yN Cmp5.yB 7 (some .int), .code CodL.yN CodL.yB 2 (some .byte)]
theorem tab_of {a : Array Value} {s : State} (h : ∀ w ∈ words, w.before a s = true) : New1.tab.before a s = true := by
  have h5 : Cmp5.tab.before a s = true := unparts (wk h (.code Cmp5.yN Cmp5.yB 7 (some .int))) (wks h (.initialized Cmp5.yN.cls :: Cmp5.site))
  have hc : CodL.tab.before a s = true := unparts (wk h (.code CodL.yN CodL.yB 2 (some .byte))) (wks h (.initialized CodL.yN.cls :: CodL.site))
  have q5 : ∀ w ∈ Cmp5.tab :: words, w.before a s = true := fun w hw => (List.mem_cons.mp hw).elim (fun e => e ▸ h5) (h w)
  have h3 : Cmp3.tab.before a s = true := unparts (wk q5 (.code Cmp3.yN Cmp3.yB 6 (some (.array .byte)))) (wks q5 (.initialized Cmp3.yN.cls :: Cmp3.site))
  have q3 : ∀ w ∈ Cmp3.tab :: CodL.tab :: words, w.before a s = true := fun w hw => (List.mem_cons.mp hw).elim (fun e => e ▸ h3) fun hw => (List.mem_cons.mp hw).elim (fun e => e ▸ hc) (h w)
  have h4 : New4.tab.before a s = true := unparts (wk q3 (.code New4.yN New4.yB 6 none)) (wks q3 (.initialized New4.yN.cls :: New4.site))
  have q4 : ∀ w ∈ New4.tab :: words, w.before a s = true := fun w hw => (List.mem_cons.mp hw).elim (fun e => e ▸ h4) (h w)
  exact unparts (wk q4 (.code New1.yN New1.yB 2 none)) (wks q4 (.initialized New1.yN.cls :: New1.site))
/-- the words ride from the start Z to the walk's own state -/
theorem moved {Z s : State} {a0 args : Array Value} (hZ : Z.Warmed39 s.vm) (hw : ∀ d ∈ words, d.before a0 Z = true) : ∀ d ∈ words, d.before args s = true := fun d hd => by
  have q := hw d hd
  have t : ∀ d ∈ words, d = .arrayClass .byte ∨ (d.onTables && d.keepsFace) = true := by decide +kernel
  rcases t d hd with rfl | t
  · exact RoadKit.mvA hZ q
  · exact RoadKit.mv hZ q t
/-- WHAT COMES BACK, over the tables of the start Z: h the heap at the call, h' behind it -/
def Q (Z : State) (x : Addr) (A : Cell) (h : Heap) (v : Option Value) (h' : Heap) (L : List Loc) : Prop := v = none ∧ (∀ y ∈ L, y.base = x) ∧ RoadKit.Keep h h' [x] ∧ h'.size = h.size + 1 ∧ RoadKit.Exa Z h' x ST ∧ RoadKit.Fld Z h' x ST "value" "[B" (.ref h.size) ∧ RoadKit.Fld Z h' x ST "coder" "B" (.int 0) ∧
  (∃ V : Cell, RoadKit.Arr Z h' h.size V .byte ∧ V.vm = .none ∧ Z.vm.findClass "[B" = some V.cls ∧ V.slots.size = A.slots.size ∧ ∀ j, j < A.slots.size → V.slots[j]? = some (.int (lo8 (cv A j)))) ∧
  ∀ (O n d : String) (w : Value), RoadKit.Fld Z h x O n d w → RoadKit.slotOf Z O n d ≠ RoadKit.slotOf Z ST "value" "[B" → RoadKit.slotOf Z O n d ≠ RoadKit.slotOf Z ST "coder" "B" → RoadKit.Fld Z h' x O n d w
/-- **new String(chars) AT A CALL, IN THE ROAD'S FORM**: for specialBack behind newO: x the fresh String, b the char[] with the cell A -/
theorem back {p : Program} {l : Launch} {e : Env} {R : Room} {s : State} {args : Array Value} {below : List Frame} {len W : Nat} {Z : State} {a0 : Array Value} {h : Heap} (hZ : Z.Warmed39 s.vm) (hw : ∀ d ∈ words, d.before a0 Z = true) {kI : Nat} (wi : (Jvm.Cond.instantiable ST kI).before a0 Z = true)
    {x b : Addr} {A : Cell} {z : Int32} {v0 c0 : Value} (E : RoadKit.Exa Z h x ST) (V : RoadKit.Fld Z h x ST "value" "[B" v0) (C : RoadKit.Fld Z h x ST "coder" "B" c0) (K : RoadKit.Arr Z h b A .char) (hty : Typed .char A) (S : RoadKit.Sta Z h ST "COMPACT_STRINGS" "Z" (.int z)) (hz : ¬ z = 0)
    (l0 : 0 < A.slots.size) (l2 : A.slots.size ≤ 536870912) (hp : ∀ i, i < A.slots.size → ¬ 255 < cv A i) (hfr : 4 ≤ R.frames) (hlo : W + 65 ≤ R.locals) :
    Back l R p e below s args New1.yN len W (fun P a => a = #[.ref x, .ref b] ∧ P.U.heap = h ∧ P.cells + 1 ≤ R.cells ∧ P.slots + A.slots.size ≤ R.slots)
      (fun P _ v B => ∃ L, Q Z x A h v B.U.heap L ∧ B.locs = P.locs ++ L ∧ B.cells = P.cells + 1 ∧ B.slots = P.slots + A.slots.size) := by
  intro m meth c P g ig mk a X hg hsize hdg hW hn hp'
  obtain ⟨rfl, rfl, r1, r2⟩ := hp'
  have al : Z.vm.Alike P.U.vm := hZ.alike.trans X.warmed.alike
  obtain ⟨D, cfV, kV, iV, fV, hD, gV, stV, knV, obV, asV, slV⟩ := id V
  obtain ⟨D', cfC, kC, iC, fC, hD', gC, stC, -, -, asC, slC⟩ := id C
  cases hD.symm.trans hD'
  obtain ⟨D2, kD, e1, e2, e3, e4, e5⟩ := id E
  cases hD.symm.trans e1
  obtain ⟨c2, k2, i1, i2, i3, -⟩ := Cond.instantiable_spec wi
  cases e2.symm.trans i1
  cases e3.symm.trans i2
  obtain ⟨kU, u1, u2⟩ := al.2.2 _ _ e3
  have hB : Blank ST x D P.U := ⟨hD, ⟨knV, fun q hq => by rw [hq] at obV; cases obV⟩, by rw [al.findClass]; exact e2, kU, u1, by rw [u2]; exact i3, by rw [u2]; exact e5 i3⟩
  have F1 : Found ST "value" "[B" fV P.U := ⟨SBG.found_only al ⟨cfV, kV, iV, gV⟩, stV⟩
  have F2 : Found ST "coder" "B" fC P.U := ⟨SBG.found_only al ⟨cfC, kC, iC, gC⟩, stC⟩
  have hA : Ch b A P.U := ⟨⟨K.1, State.isArrayOf_alike al K.2.1, K.2.2, by omega⟩, hty⟩
  have hS : StaticIs P.U ST "COMPACT_STRINGS" "Z" (.int z) := by
    obtain ⟨cfS, iS, kS, fS, st, cS, t1, t2, t3, t4, t5, t6, t7⟩ := S
    exact StaticIs.there (s := { Z with heap := P.U.heap }) ⟨cfS, iS, kS, fS, st, cS, t1, t2, t3, t4, t5, (fun q => by rw [q] at t6; cases t6), t7⟩ al rfl
  obtain ⟨v, B, X', ⟨⟨hv, E', V', q1, q2, q3, q4, q5, q6, q7, q8, q9, q10, q11⟩, hl, hc, hs⟩, st⟩ := New1.pays x D fV fC b A z (tab_of (moved hZ hw)) hfr hlo m meth c P g ig mk _ X hg hsize hdg hW hn ⟨r1, r2, rfl, hB, F1, F2, hA, hS, hz, l0, l2, hp⟩
  have al' : Z.vm.Alike B.U.vm := hZ.alike.trans X'.warmed.alike
  have hsz : E'.slots.size = D.slots.size := by
    obtain ⟨-, -, -, kB, w1, w2, w3⟩ := q1
    obtain ⟨kB', y1, y2⟩ := al'.2.2 _ _ e3
    rw [q2.2.1] at w1
    cases w1.symm.trans y1
    rw [w3, e5 i3, y2]
  refine ⟨v, B, X', ⟨_, ⟨hv, ?_, ⟨by omega, fun y cy hy hn' => q10 y cy (by simpa using hn') hy, fun y cy hy => ?_⟩, q11, ⟨E', _, q1.1, by rw [q2.2.1]; exact e2, by rw [q2.2.1]; exact e3, by rw [q2.1]; exact obV, fun _ => by rw [hsz]; exact e5 i3⟩,
    ⟨E', cfV, kV, iV, fV, q1.1, gV, stV, by rw [q2.1]; exact knV, by rw [q2.1]; exact obV, by rw [q2.2.1]; exact asV, q3⟩, ⟨E', cfC, kC, iC, fC, q1.1, gC, stC, by rw [q2.1]; exact knV, by rw [q2.1]; exact obV, by rw [q2.2.1]; exact asC, q4⟩,
    ⟨V', ⟨q5.1, State.isArrayOf_alike al'.symm q5.2.1, q5.2.2.1⟩, q6, by rw [← al'.findClass]; exact q7, q8, fun j hj => by have := q9 j hj; rwa [Nat.zero_add] at this⟩, fun O n d w F n1 n2 => ?_⟩, hl, hc, hs⟩, st⟩
  · intro y hy
    simp only [List.mem_cons, List.not_mem_nil, or_false] at hy
    rcases hy with rfl | rfl <;> rfl
  · by_cases q : y = x
    · subst q
      cases hD.symm.trans hy
      exact ⟨E', q1.1, q2.2.1, q2.1, hsz⟩
    · exact ⟨cy, q10 y cy q hy, rfl, rfl, rfl⟩
  · obtain ⟨D3, cf, k, i, f, g1, g2, g3, g4, g5, g6, g7⟩ := F
    cases hD.symm.trans g1
    simp only [RoadKit.slotOf, g2, gV, gC, Option.map_some, Option.getD_some] at n1 n2
    exact ⟨E', cf, k, i, f, q1.1, g2, g3, by rw [q2.1]; exact g4, by rw [q2.1]; exact g5, by rw [q2.2.1]; exact g6, by rw [q2.2.2 f.slot (by simp [n1, n2])]; exact g7⟩
end StrChars.Road
namespace StrChars.Road
open Jvm Sem ClassFile Op Lib Jvm.Stand Jvm.Free Jvm.Free.XT
/-- WHAT COMES BACK, the byte[] as a list of values -/
def QA (Z : State) (x : Addr) (zn : Int32) (cs : List Int32) (h : Heap) (v : Option Value) (h' : Heap) (L : List Loc) : Prop := v = none ∧ (∀ y ∈ L, y.base = x) ∧ RoadKit.Keep h h' [x] ∧ h'.size = h.size + 1 ∧ RoadKit.Exa Z h' x ST ∧ RoadKit.Fld Z h' x ST "value" "[B" (.ref h.size) ∧ RoadKit.Fld Z h' x ST "coder" "B" (.int 0) ∧
  (∃ kb, Z.vm.findClass "[B" = some kb ∧ RoadKit.Arv Z h' h.size kb .byte zn (cs.map fun c => .int (lo8 c)) (.int 0)) ∧
  ∀ (O n d : String) (w : Value), RoadKit.Fld Z h x O n d w → RoadKit.slotOf Z O n d ≠ RoadKit.slotOf Z ST "value" "[B" → RoadKit.slotOf Z O n d ≠ RoadKit.slotOf Z ST "coder" "B" → RoadKit.Fld Z h' x O n d w
/-- **new String(chars) AT A CALL, THE ARRAYS AS LISTS**: the char[] at b holds cs, not empty, no char above 255 -/
theorem backArv {p : Program} {l : Launch} {e : Env} {R : Room} {s : State} {args : Array Value} {below : List Frame} {len W : Nat} {Z : State} {a0 : Array Value} {h : Heap} (hZ : Z.Warmed39 s.vm) (hw : ∀ d ∈ words, d.before a0 Z = true) {kI : Nat} (wi : (Jvm.Cond.instantiable ST kI).before a0 Z = true)
    {x b : Addr} {k : ClassId} {zn z : Int32} {cs : List Int32} {dv v0 c0 : Value} (E : RoadKit.Exa Z h x ST) (V : RoadKit.Fld Z h x ST "value" "[B" v0) (C : RoadKit.Fld Z h x ST "coder" "B" c0) (K : RoadKit.Arv Z h b k .char zn (cs.map Value.int) dv) (S : RoadKit.Sta Z h ST "COMPACT_STRINGS" "Z" (.int z)) (hz : ¬ z = 0)
    (hlen : zn.toNatClampNeg = cs.length) (h0 : 0 < cs.length) (hbig : cs.length ≤ 536870912) (hall : ∀ c ∈ cs, ¬ 255 < c) (hfr : 4 ≤ R.frames) (hlo : W + 65 ≤ R.locals) :
    Back l R p e below s args New1.yN len W (fun P a => a = #[.ref x, .ref b] ∧ P.U.heap = h ∧ P.cells + 1 ≤ R.cells ∧ P.slots + cs.length ≤ R.slots)
      (fun P _ v B => ∃ L, QA Z x zn cs h v B.U.heap L ∧ B.locs = P.locs ++ L ∧ B.cells = P.cells + 1 ∧ B.slots = P.slots + cs.length) := by
  obtain ⟨A, K1, K2, K3, K4, K5, K6⟩ := K
  have e : A.slots.size = cs.length := K3.trans hlen
  have hat : ∀ (i : Nat) (hi : i < cs.length), A.slots[i]? = some (.int cs[i]) := fun i hi => by rw [K5 i (by omega)]; simp [List.getD_eq_getElem?_getD, hi]
  have hcv : ∀ (i : Nat) (hi : i < cs.length), cv A i = cs[i] := fun i hi => by unfold cv; rw [hat i hi]
  have hty : Typed .char A := fun i v hv => by
    have hi : i < A.slots.size := (Array.getElem?_eq_some_iff.mp hv).1
    have q := K5 i hi
    rw [hv] at q
    rw [Option.some.inj q]
    exact K6 i hi
  refine Back.mono (back hZ hw wi E V C K1 hty S hz (by omega) (by omega) (fun i hi => by rw [hcv i (by omega)]; exact hall _ (List.getElem_mem _)) hfr hlo) (fun P a hp => ⟨hp.1, hp.2.1, hp.2.2.1, by rw [e]; exact hp.2.2.2⟩) (fun P a v B hp hq => ?_)
  obtain ⟨L, ⟨q1, q2, q3, q4, q5, q6, q7, ⟨V', v1, v2, v3, v4, v5⟩, q9⟩, hl, hc, hs⟩ := hq
  refine ⟨L, ⟨q1, q2, q3, q4, q5, q6, q7, ⟨V'.cls, v3, V', v1, rfl, by rw [v4, e, hlen], K4, fun i hi => ?_, fun i hi => ?_⟩, q9⟩, hl, hc, by rw [hs, e]⟩
  · have hi' : i < cs.length := by omega
    rw [v5 i (by omega), hcv i hi']; simp [List.getD_eq_getElem?_getD, hi']
  · have hi' : i < cs.length := by omega
    simp only [List.getD_eq_getElem?_getD, List.getElem?_map, List.getElem?_eq_getElem hi', Option.map_some, Option.getD_some]
    exact fits_lo8 _
end StrChars.Road
namespace StrChars.Road
open Jvm Sem ClassFile Op Lib Jvm.Stand Jvm.Free Jvm.Free.XT
/-- WHAT COMES BACK, in the writer's own shape -/
def QV (Z : State) (x : Addr) (N : Int32) (bs : List Int32) (h : Heap) (n0 : Nat) (v : Option Value) (h' : Heap) (L : List Loc) : Prop := v = none ∧ RoadKit.Fr n0 L ∧ RoadKit.Keep h h' [x] ∧ RoadKit.Exa Z h' x ST ∧ RoadKit.Fld Z h' x ST "coder" "B" (.int 0) ∧
  ∃ (t : Addr) (kb : ClassId), n0 ≤ t ∧ h.size ≤ t ∧ ¬ t = x ∧ RoadKit.Fld Z h' x ST "value" "[B" (.ref t) ∧ RoadKit.Arv Z h' t kb .byte N (bs.map Value.int) (.int 0)
/-- **new String(chars) AT A CALL, FOR THE WRITER**: a char[] of n known ints, each 0 to 255 -/
theorem backV {p : Program} {l : Launch} {e : Env} {R : Room} {s : State} {args : Array Value} {below : List Frame} {len W : Nat} {Z : State} {a0 : Array Value} {h : Heap} (hZ : Z.Warmed39 s.vm) (hw : ∀ d ∈ words, d.before a0 Z = true) {kI : Nat} (wi : (Jvm.Cond.instantiable ST kI).before a0 Z = true)
    {x b : Addr} {kC : ClassId} {cs bs : List Int32} {d v0 c0 : Value} {z N : Int32} {n n0 : Nat} (hx0 : n0 ≤ x) (hh0 : n0 ≤ h.size) (E : RoadKit.Exa Z h x ST) (V : RoadKit.Fld Z h x ST "value" "[B" v0) (C : RoadKit.Fld Z h x ST "coder" "B" c0) (K : RoadKit.Arv Z h b kC .char N (cs.map Value.int) d) (S : RoadKit.Sta Z h ST "COMPACT_STRINGS" "Z" (.int z)) (hz : ¬ z = 0)
    (hn : cs.length = n) (hN : N = Int32.ofNat n) (l0 : 0 < n) (l2 : n ≤ 4000) (hp : ∀ c ∈ cs, ¬ c < 0 ∧ ¬ (255 : Int32) < c) (hb : bs = cs.map (fun c => c.toInt8.toInt32)) (hfr : 4 ≤ R.frames) (hlo : W + 65 ≤ R.locals) :
    Back l R p e below s args (⟨"java/lang/String", "<init>", "([C)V"⟩ : MethodName) len W (fun P a => a = #[.ref x, .ref b] ∧ P.U.heap = h ∧ P.cells + 1 ≤ R.cells ∧ P.slots + n ≤ R.slots)
      (fun P _ v B => ∃ L, QV Z x N bs h n0 v B.U.heap L ∧ B.locs = P.locs ++ L ∧ B.cells = P.cells + 1 ∧ B.slots = P.slots + n) := by
  subst hn hN hb
  refine Back.mono (backArv hZ hw wi E V C K S hz (n32 (by omega)) l0 (by omega) (fun c hc => (hp c hc).2) hfr hlo) (fun P a hp => hp) (fun P a v B hp hq => ?_)
  obtain ⟨L, ⟨q1, q2, q3, q4, q5, q6, q7, ⟨kb, v1, v2⟩, q9⟩, hl, hc, hs⟩ := hq
  exact ⟨L, ⟨q1, fun y hy => by rw [q2 y hy]; exact hx0, q3, q5, q7, h.size, kb, hh0, Nat.le_refl _, Nat.ne_of_gt E.lt, q6, by rw [List.map_map]; exact v2⟩, hl, hc, hs⟩
end StrChars.Road
end Jvm.Pilot.@@N@@

namespace Jvm.OwnW
open Jvm Jvm.ClassFile Sem Op Lib Jvm.Free Jvm.Stand Jvm.LawKit Jvm.RoadKit Bundle
/-! A small calculus of weakest preconditions over the library's Stand: own text. WP says: from this place every run of this body ends well. -/
def Cx (Z : State) (own ds : String) (m : MethodId) (p : Program) (meth : Method) (c : Code) (nm : String) (bytes : ByteArray) (maxL : Nat) (ret : Option FieldType) : Prop :=
  p.tables.exec = Jvm.exec ∧ c.code = bytes ∧ c.maxLocals = maxL ∧ meth.sig.returnType = ret ∧ (meth.locks = false ∧ Z.methodNamed? ⟨own, nm, ds⟩ = some m) ∧ meth.name = nm
def Pl (l : Launch) (Z : State) (EL : List (String × Nat)) (nar : Bool) (own : String) (R : Room) (p : Program) (e : Env) (s : State) (m : MethodId) (args : Array Value) (below : List Frame) (meth : Method) (c : Code) (vm : Vm) (h : Heap) (T : State) (L : List Loc) (ce sl : Nat) : Prop :=
  Stand p l e R (s.setVm vm) m args below meth c T L ce sl ∧ (∃ k0, s.Since vm k0 ∧ k0 ≤ h.size) ∧ Z.Warmed39 vm ∧ vm.findClass own = some m.cls ∧ T.heap = h ∧ Fr Z.heap.size L ∧ Ext Z.heap h ∧ CHr Z EL s.vm s.heap vm h ∧ (nar = true → s.WarmedH vm) ∧ ∃ a0, EW Z a0 EL
def Fine (Z : State) (EL : List (String × Nat)) (nar : Bool) (R : Room) (Q : Option Value → Heap → Prop) (p : Program) (e : Env) (s : State) (below : List Frame) (S0 : State) : Prop :=
  ∃ t o, Steps p.tables e below S0 t ∧ t.status = .running ∧ Ended t below o ∧ ∃ v L, o = .returned v ∧ Q v t.heap ∧ Ext Z.heap t.heap ∧ Fr Z.heap.size L ∧ CHr Z EL s.vm s.heap t.vm t.heap ∧ (nar = true → s.WarmedH t.vm) ∧ ReturnedEndW s o t L R.cells R.slots
def WP (l : Launch) (Z : State) (EL : List (String × Nat)) (nar : Bool) (own nm ds : String) (bytes : ByteArray) (maxL : Nat) (ret : Option FieldType) (R : Room) (Q : Option Value → Heap → Prop) (vm : Vm) (h : Heap) (ce sl pc : Nat) (Ls : Array Slot) (st : List Value) : Prop :=
  ∀ p e s m args below meth c T L, Cx Z own ds m p meth c nm bytes maxL ret → Pl l Z EL nar own R p e s m args below meth c vm h T L ce sl → Fine Z EL nar R Q p e s below (T.setTop (mkF m pc Ls st))
def Con (l : Launch) (Z : State) (EL : List (String × Nat)) (nar : Bool) (sf : List Addr) (y : MethodName) (bytes : ByteArray) (maxL : Nat) (ret : Option FieldType) (rm : Room) (as' : Array Value) (h0 : Heap) (Q : Option Value → Heap → Prop) : Prop :=
  ∀ ws, MetFree l y (head1 (Cond.code y bytes maxL ret :: ws) rm) (fun a U => a = as' ∧ Z.Warmed39 U.vm ∧ U.heap = h0 ∧ Ext Z.heap h0 ∧ CHv Z EL U.vm h0 ∧ ∀ x ∈ sf, Safe Z EL U.vm h0 x) (fun _ _ _ _ _ => True)
    (fun _ U o U' => ∃ v L, o = .returned v ∧ Q v U'.heap ∧ Ext Z.heap U'.heap ∧ Fr Z.heap.size L ∧ CHr Z EL U.vm U.heap U'.vm U'.heap ∧ (nar = true → U.WarmedH U'.vm) ∧ ReturnedEndW U o U' L rm.cells rm.slots)
section Basic
variable {l : Launch} {Z : State} {EL : List (String × Nat)} {nar : Bool} {own nm ds : String} {bytes : ByteArray} {maxL : Nat} {ret : Option FieldType} {R : Room} {Q : Option Value → Heap → Prop} {vm : Vm} {h : Heap} {ce sl pc n : Nat} {Ls Ls' : Array Slot} {st st' : List Value} {a0 : Array Value}
theorem ext_refl (h : Heap) : Ext h h := ⟨Nat.le_refl _, fun _ _ q => q⟩
theorem ext_trans {h1 h2 h3 : Heap} (E : Ext h1 h2) (F : Ext h2 h3) : Ext h1 h3 := ⟨Nat.le_trans E.1 F.1, fun a c q => F.2 a c (E.2 a c q)⟩
theorem ext_keep {h1 h2 h3 : Heap} {ws : List Addr} (E : Ext h1 h2) (K : Keep h2 h3 ws) (q : ∀ x ∈ ws, h1.size ≤ x) : Ext h1 h3 :=
  ⟨Nat.le_trans E.1 K.1, fun a c r => K.2.1 a c (E.2 a c r) fun z => absurd (Array.getElem?_eq_some_iff.mp r).1 (Nat.not_lt.mpr (q a z))⟩
theorem ext_wr {h1 h2 h3 : Heap} {a : Addr} {i : Nat} {v : Value} (E : Ext h1 h2) (W : Wr h2 h3 a i v) (q : h1.size ≤ a) : Ext h1 h3 :=
  ext_keep E (Keep.of_wr W) fun x hx => by cases List.mem_singleton.mp hx; exact q
theorem ext_keep1 {h1 h2 h3 : Heap} {a : Addr} (E : Ext h1 h2) (K : Keep h2 h3 [a]) (q : h1.size ≤ a) : Ext h1 h3 := ext_keep E K fun x hx => by cases List.mem_singleton.mp hx; exact q
theorem ext_keep0 {h1 h2 : Heap} (K : Keep h1 h2 []) : Ext h1 h2 := ext_keep (ext_refl _) K fun x hx => nomatch hx
/-- what always holds where the walk stands -/
theorem WP.inv (k : Z.Warmed39 vm → Ext Z.heap h → CHv Z EL vm h → WP l Z EL nar own nm ds bytes maxL ret R Q vm h ce sl pc Ls st) : WP l Z EL nar own nm ds bytes maxL ret R Q vm h ce sl pc Ls st := by
  intro p e s m args below meth c T L cx pl
  exact k pl.2.2.1 pl.2.2.2.2.2.2.1 pl.2.2.2.2.2.2.2.1.1 p e s m args below meth c T L cx pl
/-- fewer cells and slots made are at most more -/
theorem WP.more {ce' sl' : Nat} (hc : ce ≤ ce') (hs : sl ≤ sl') (k : WP l Z EL nar own nm ds bytes maxL ret R Q vm h ce' sl' pc Ls st) : WP l Z EL nar own nm ds bytes maxL ret R Q vm h ce sl pc Ls st := by
  intro p e s m args below meth c T L cx pl
  exact k p e s m args below meth c T L cx ⟨pl.1.mono hc hs, pl.2⟩
theorem WP.post {Q' : Option Value → Heap → Prop} (hq : ∀ v h', Q' v h' → Q v h') (k : WP l Z EL nar own nm ds bytes maxL ret R Q' vm h ce sl pc Ls st) : WP l Z EL nar own nm ds bytes maxL ret R Q vm h ce sl pc Ls st := by
  intro p e s m args below meth c T L cx pl
  obtain ⟨t, o, h1, h2, h3, v, L', h4, h5, r⟩ := k p e s m args below meth c T L cx pl
  exact ⟨t, o, h1, h2, h3, v, L', h4, hq _ _ h5, r⟩
/-- a step that leaves the state as it is -/
theorem WP.step (hs : ∀ (p : Program) (e : Env) (below : List Frame) (T target : State) (m : MethodId) (c : Code), p.tables.exec = Jvm.exec → c.code = bytes → At T m c below → Steps p.tables e below (T.setTop (mkF m n Ls' st')) target → Steps p.tables e below (T.setTop (mkF m pc Ls st)) target)
    (k : WP l Z EL nar own nm ds bytes maxL ret R Q vm h ce sl n Ls' st') : WP l Z EL nar own nm ds bytes maxL ret R Q vm h ce sl pc Ls st := by
  intro p e s m args below meth c T L cx pl
  obtain ⟨t, o, h1, r⟩ := k p e s m args below meth c T L cx pl
  exact ⟨t, o, hs p e below T t m c cx.1 cx.2.1 pl.1.here h1, r⟩
/-- a step that leaves the heap as it is (the tables may warm) -/
theorem WP.look (hs : ∀ (p : Program) (e : Env) (s : State) (args : Array Value) (below : List Frame) (T : State) (m : MethodId) (meth : Method) (c : Code) (L : List Loc), p.tables.exec = Jvm.exec → c.code = bytes → Stand p l e R (s.setVm vm) m args below meth c T L ce sl → Z.Warmed39 (s.setVm vm).vm → (s.setVm vm).vm.findClass own = some m.cls → T.heap = h →
      ∃ T', Stand p l e R (s.setVm vm) m args below meth c T' L ce sl ∧ T'.heap = h ∧ ∀ target, Steps p.tables e below (T'.setTop (mkF m n Ls' st')) target → Steps p.tables e below (T.setTop (mkF m pc Ls st)) target)
    (k : WP l Z EL nar own nm ds bytes maxL ret R Q vm h ce sl n Ls' st') : WP l Z EL nar own nm ds bytes maxL ret R Q vm h ce sl pc Ls st := by
  intro p e s m args below meth c T L cx ⟨X, hS, hZ, hown, eT, N, hE, hC, hW, hEL⟩
  obtain ⟨T', X', e', stp⟩ := hs p e s args below T m meth c L cx.1 cx.2.1 X hZ hown eT
  obtain ⟨t, o, h1, r⟩ := k p e s m args below meth c T' L cx ⟨X', hS, hZ, hown, e', N, hE, hC, hW, hEL⟩
  exact ⟨t, o, stp _ h1, r⟩
/-- a step that makes a cell -/
theorem WP.make {ce' sl' : Nat} {P : Heap → Prop} (hs : ∀ (p : Program) (e : Env) (s : State) (args : Array Value) (below : List Frame) (T : State) (m : MethodId) (meth : Method) (c : Code) (L : List Loc), p.tables.exec = Jvm.exec → c.code = bytes → Stand p l e R (s.setVm vm) m args below meth c T L ce sl → Z.Warmed39 (s.setVm vm).vm → (s.setVm vm).vm.findClass own = some m.cls → T.heap = h →
      ∃ T' h', Stand p l e R (s.setVm vm) m args below meth c T' L ce' sl' ∧ T'.heap = h' ∧ Ext h h' ∧ P h' ∧ ∀ target, Steps p.tables e below (T'.setTop (mkF m n Ls' st')) target → Steps p.tables e below (T.setTop (mkF m pc Ls st)) target)
    (k : ∀ h', Ext h h' → P h' → CHr Z EL vm h vm h' → WP l Z EL nar own nm ds bytes maxL ret R Q vm h' ce' sl' n Ls' st') : WP l Z EL nar own nm ds bytes maxL ret R Q vm h ce sl pc Ls st := by
  intro p e s m args below meth c T L cx ⟨X, ⟨k0, hS, hk⟩, hZ, hown, eT, N, hE, hC, hW, hEL⟩
  obtain ⟨T', h', X', e', E', hP, stp⟩ := hs p e s args below T m meth c L cx.1 cx.2.1 X hZ hown eT
  have hR : CHr Z EL vm h vm h' := CHr.ext E' hC.1
  obtain ⟨t, o, h1, r⟩ := k h' E' hP hR p e s m args below meth c T' L cx ⟨X', ⟨k0, hS, Nat.le_trans hk E'.1⟩, hZ, hown, e', N, ext_trans hE E', hC.trans hR, hW, hEL⟩
  exact ⟨t, o, stp _ h1, r⟩
/-- a step that writes one place of a new cell -/
theorem WP.write {a : Addr} {i : Nat} {v : Value} (ha : Z.heap.size ≤ a) (hsafe : Z.Warmed39 vm → Safe Z EL vm h a)
    (hs : ∀ (p : Program) (e : Env) (s : State) (args : Array Value) (below : List Frame) (T : State) (m : MethodId) (meth : Method) (c : Code) (L : List Loc), p.tables.exec = Jvm.exec → c.code = bytes → meth.name = nm → Stand p l e R (s.setVm vm) m args below meth c T L ce sl → Z.Warmed39 (s.setVm vm).vm → (s.setVm vm).vm.findClass own = some m.cls → T.heap = h →
      ∃ T' h', Stand p l e R (s.setVm vm) m args below meth c T' (L ++ [⟨a, i⟩]) ce sl ∧ T'.heap = h' ∧ Wr h h' a i v ∧ ∀ target, Steps p.tables e below (T'.setTop (mkF m n Ls' st')) target → Steps p.tables e below (T.setTop (mkF m pc Ls st)) target)
    (k : ∀ h', Wr h h' a i v → CHr Z EL vm h vm h' → WP l Z EL nar own nm ds bytes maxL ret R Q vm h' ce sl n Ls' st') : WP l Z EL nar own nm ds bytes maxL ret R Q vm h ce sl pc Ls st := by
  intro p e s m args below meth c T L cx ⟨X, ⟨k0, hS, hk⟩, hZ, hown, eT, N, hE, hC, hW, hEL⟩
  obtain ⟨T', h', X', e', W', stp⟩ := hs p e s args below T m meth c L cx.1 cx.2.1 cx.2.2.2.2.2 X hZ hown eT
  have hR : CHr Z EL vm h vm h' := CHr.wr W' (hsafe hZ) hC.1
  obtain ⟨t, o, h1, r⟩ := k h' W' hR p e s m args below meth c T' _ cx ⟨X', ⟨k0, hS, by rw [W'.size]; exact hk⟩, hZ, hown, e', Fr.snoc X' N ha, ext_wr hE W' ha, hC.trans hR, hW, hEL⟩
  exact ⟨t, o, stp _ h1, r⟩
/-- the end -/
theorem WP.done {v : Option Value} (hc : ce ≤ R.cells) (hsl : sl ≤ R.slots) (hv : ret = none → v = none)
    (hs : ∀ (p : Program) (e : Env) (s : State) (args : Array Value) (below : List Frame) (T : State) (m : MethodId) (meth : Method) (c : Code) (L : List Loc) (fs : List Frame), p.tables.exec = Jvm.exec → c.code = bytes → meth.sig.returnType = ret → Stand p l e R (s.setVm vm) m args below meth c T L ce sl →
      (∀ (f : JFrame) (acts : List Action), f.method = m → f.locked = none → f.entered = [] → (doReturn e (T.setTop f) acts v).1 = T.setFrames fs) → Steps p.tables e below (T.setTop (mkF m pc Ls st)) (T.setFrames fs))
    (hq : Q v h) : WP l Z EL nar own nm ds bytes maxL ret R Q vm h ce sl pc Ls st := by
  intro p e s m args below meth c T L cx ⟨X, ⟨k0, hS, hk⟩, hZ, hown, eT, N, hE, hC, hW, a0, hEL⟩
  have hlk : meth.locks = false := cx.2.2.2.2.1.1
  obtain ⟨fs, hr, hrun, hend, hret⟩ := X.leaveW hS (by rw [eT]; exact hk) (v := v) (fun q => hv (cx.2.2.2.1 ▸ q))
  refine ⟨_, _, hs p e s args below T m meth c L fs cx.1 cx.2.1 cx.2.2.2.1 X hr, hrun, hend, v, L, rfl, ?_, ?_, N, ?_, fun q => ?_, ?_⟩
  · show Q v T.heap
    rw [eT]; exact hq
  · show Ext Z.heap T.heap
    rw [eT]; exact hE
  · show CHr Z EL s.vm s.heap T.vm T.heap
    rw [eT]; exact hC.trans (CHv.at X hZ hEL hC.1)
  · exact State.WarmedH.trans (t := s.setVm vm) (hW q) X.warmed
  · obtain ⟨r1, r2, r3, r4⟩ := hret
    exact ⟨r1, r2, r3, r4.mono hc hsl⟩
/-- a body's contract out of its walk -/
theorem Con.of {sf : List Addr} {y : MethodName} {as' : Array Value} (hpn : plainFor y = true) (hEL : EW Z a0 EL) (hef : ∀ m, entryFrame m as' maxL = mkF m 0 Ls [])
    (k : ∀ vm, Z.Warmed39 vm → Ext Z.heap h → CHv Z EL vm h → (∀ x ∈ sf, Safe Z EL vm h x) → WP l Z EL nar y.cls y.name y.desc bytes maxL ret R Q vm h 0 0 0 Ls []) : Con l Z EL nar sf y bytes maxL ret R as' h Q := by
  intro ws
  refine MetFree.of_bodySF hpn hisR ?_
  intro p e s m args below meth c s₁ Bd hml hP hK
  obtain ⟨rfl, hZ, hh, hE, hC, hS⟩ := hP
  have X0 : Stand p l e R s m args below meth c s₁ [] 0 0 := Stand.of_body Bd
  have e0 : s₁.heap = h := by rw [← hh, Bd.state]; rfl
  obtain ⟨t, o, h1, h2, h3, r⟩ := k s.vm hZ hE hC hS p e s m args below meth c s₁ [] ⟨Bd.exec, Bd.bytes, hml, Bd.returns, ⟨Bd.notSynchronized, (State.methodNamed?_setVm (s := Z) hZ.alike y).symm.trans Bd.named⟩, (name_of_methodNamed Bd.named Bd.method).1⟩
    ⟨X0, ⟨s.heap.size, (State.WarmedH.refl s).since _, by rw [hh]; exact Nat.le_refl _⟩, hZ, findClass_of_methodNamed Bd.named, e0, Fr.nil _, hE, by rw [hh]; exact CHr.refl hC, fun _ => State.WarmedH.refl s, a0, hEL⟩
  exact ⟨t, o, castTop (hef m) h1, h2, h3, r⟩
theorem Con.post {sf : List Addr} {y : MethodName} {as' : Array Value} {Q' : Option Value → Heap → Prop} (C : Con l Z EL nar sf y bytes maxL ret R as' h Q') (hq : ∀ v h', Q' v h' → Q v h') : Con l Z EL nar sf y bytes maxL ret R as' h Q := by
  intro ws p e ha hc hk s m args below hf happ hP hK
  obtain ⟨n, o, h1, h2, h3, v, L, h4, h5, r⟩ := C ws p e ha hc hk s m args below hf happ hP hK
  exact ⟨n, o, h1, h2, h3, v, L, h4, hq _ _ h5, r⟩
theorem Con.back {sf : List Addr} {y : MethodName} {as' : Array Value} {a1 : Array Value} {p : Program} {e : Env} {below : List Frame} {s : State} {args : Array Value} {len Wd : Nat} {rm : Room} (C : Con l Z EL nar sf y bytes maxL ret rm as' h Q) (hEL : EW Z a1 EL) (hZ : Z.Warmed39 vm) (wc : (Cond.code y bytes maxL ret).before a0 Z = true) (wz : (Cond.initialized y.cls).before a0 Z = true)
    (hf : rm.frames + 1 ≤ R.frames) (hl : Wd + (maxL + 11) + rm.locals ≤ R.locals) (hE : Ext Z.heap h) (H : CHv Z EL vm h) (hsf : ∀ x ∈ sf, Safe Z EL vm h x ∧ x < h.size) :
    BackS l R p e below (s.setVm vm) args y len Wd (fun A a => a = as' ∧ A.U.heap = h ∧ A.cells + rm.cells ≤ R.cells ∧ A.slots + rm.slots ≤ R.slots)
      (fun A _ v B => ∃ L, Q v B.U.heap ∧ Ext Z.heap B.U.heap ∧ Fr Z.heap.size L ∧ B.locs = A.locs ++ L ∧ B.cells = A.cells + rm.cells ∧ B.slots = A.slots + rm.slots ∧ CHr Z EL vm h B.U.vm B.U.heap ∧ (nar = true → (s.setVm vm).WarmedH B.U.vm)) :=
  BackS.of_freeW (bytes := bytes) (maxL := maxL) (ret := ret) (E := fun _ first o t L k n => k = rm.cells ∧ n = rm.slots ∧ (∃ v, o = .returned v ∧ Q v t.heap ∧ Ext Z.heap t.heap ∧ Fr Z.heap.size L) ∧ CHr Z EL first.vm first.heap t.vm t.heap ∧ (nar = true → first.WarmedH t.vm)) (C []) hf hl
    (fun m meth c A a Y hp => have hU : Z.Warmed39 A.U.vm := wtrans (s := s.setVm vm) hZ Y.warmed
      ⟨by show (Cond.and _ .tt).before a A.U = true; rw [Cond.before_and, mv hU wc]; rfl, mv hU wc, mv hU wz, hp.2.2.1, hp.2.2.2⟩)
    (fun m meth c A a g mk Y hp => ⟨hp.1, wtrans (s := s.setVm vm) hZ Y.warmed, hp.2.1, hE, (CHv.at Y hZ hEL H).1, fun x hx => (CHv.at Y hZ hEL H).safe (hsf x hx).2 (hsf x hx).1⟩) (fun _ _ _ _ _ _ _ _ _ => trivial)
    (fun _ _ _ _ ⟨v, L, h1, h2, h3, h4, h5, h6, h7⟩ => ⟨L, _, _, h7, rfl, rfl, ⟨v, h1, h2, h3, h4⟩, h5, h6⟩)
    (fun m meth c A a g mk v t L k n Y hp _ _ ⟨e1, e2, ⟨v', e3, e4, e5, e6⟩, e7, e8⟩ => by
      cases e3; subst e1 e2
      refine ⟨L, e4, e5, e6, rfl, rfl, rfl, (CHv.at Y hZ hEL H).trans ?_, fun q => ?_⟩
      · rw [← hp.2.1]; exact e7
      · exact State.WarmedH.trans (t := A.U.calling g mk a) Y.warmed (e8 q))
end Basic
end Jvm.OwnW
namespace Jvm.OwnW
open Jvm Jvm.ClassFile Sem Op Lib Jvm.Free Jvm.Stand Jvm.LawKit Jvm.RoadKit Bundle
section Steps
variable {l : Launch} {Z : State} {EL : List (String × Nat)} {nar : Bool} {own nm ds : String} {bytes : ByteArray} {maxL : Nat} {ret : Option FieldType} {R : Room} {Q : Option Value → Heap → Prop} {vm : Vm} {h : Heap} {ce sl pc n n' : Nat} {Ls Ls' : Array Slot} {st rest : List Value} {a0 : Array Value}
theorem WP.iloadN {k' : Fin 4} {v : Int32} (hd : decode bytes pc = .ok (.iload_n k', 1)) (hl : Ls[k'.val]? = some (.val (.int v))) (hp : pc + 1 = n) (k : WP l Z EL nar own nm ds bytes maxL ret R Q vm h ce sl n Ls (.int v :: st)) : WP l Z EL nar own nm ds bytes maxL ret R Q vm h ce sl pc Ls (st) := by subst hp; exact WP.step (fun p e below T t m c hx hb ha q => XS.iloadN ha hx rfl (hb ▸ hd) hl q) k
theorem WP.iload {k' : Nat} {v : Int32} (hd : decode bytes pc = .ok (.iload k', 2)) (hl : Ls[k']? = some (.val (.int v))) (hp : pc + 2 = n) (k : WP l Z EL nar own nm ds bytes maxL ret R Q vm h ce sl n Ls (.int v :: st)) : WP l Z EL nar own nm ds bytes maxL ret R Q vm h ce sl pc Ls (st) := by subst hp; exact WP.step (fun p e below T t m c hx hb ha q => XS.iload ha hx rfl (hb ▸ hd) hl q) k
theorem WP.istoreN {k' : Fin 4} {v : Int32} (hd : decode bytes pc = .ok (.istore_n k', 1)) (hl : storeLocals Ls k'.val (.int v) = some Ls') (hp : pc + 1 = n) (k : WP l Z EL nar own nm ds bytes maxL ret R Q vm h ce sl n Ls' (rest)) : WP l Z EL nar own nm ds bytes maxL ret R Q vm h ce sl pc Ls (.int v :: rest) := by subst hp; exact WP.step (fun p e below T t m c hx hb ha q => XS.istoreN ha hx rfl (hb ▸ hd) rfl hl q) k
theorem WP.istore {k' : Nat} {v : Int32} (hd : decode bytes pc = .ok (.istore k', 2)) (hl : storeLocals Ls k' (.int v) = some Ls') (hp : pc + 2 = n) (k : WP l Z EL nar own nm ds bytes maxL ret R Q vm h ce sl n Ls' (rest)) : WP l Z EL nar own nm ds bytes maxL ret R Q vm h ce sl pc Ls (.int v :: rest) := by subst hp; exact WP.step (fun p e below T t m c hx hb ha q => XS.istore ha hx rfl (hb ▸ hd) rfl hl q) k
theorem WP.lloadN {k' : Fin 4} {v : Int64} (hd : decode bytes pc = .ok (.lload_n k', 1)) (hl : Ls[k'.val]? = some (.val (.long v))) (hp : pc + 1 = n) (k : WP l Z EL nar own nm ds bytes maxL ret R Q vm h ce sl n Ls (.long v :: st)) : WP l Z EL nar own nm ds bytes maxL ret R Q vm h ce sl pc Ls (st) := by subst hp; exact WP.step (fun p e below T t m c hx hb ha q => XT.lloadN ha hx rfl (hb ▸ hd) hl q) k
theorem WP.lload {k' : Nat} {v : Int64} (hd : decode bytes pc = .ok (.lload k', 2)) (hl : Ls[k']? = some (.val (.long v))) (hp : pc + 2 = n) (k : WP l Z EL nar own nm ds bytes maxL ret R Q vm h ce sl n Ls (.long v :: st)) : WP l Z EL nar own nm ds bytes maxL ret R Q vm h ce sl pc Ls (st) := by subst hp; exact WP.step (fun p e below T t m c hx hb ha q => XT.lload ha hx rfl (hb ▸ hd) hl q) k
theorem WP.lstoreN {k' : Fin 4} {v : Int64} (hd : decode bytes pc = .ok (.lstore_n k', 1)) (hl : storeLocals Ls k'.val (.long v) = some Ls') (hp : pc + 1 = n) (k : WP l Z EL nar own nm ds bytes maxL ret R Q vm h ce sl n Ls' (rest)) : WP l Z EL nar own nm ds bytes maxL ret R Q vm h ce sl pc Ls (.long v :: rest) := by subst hp; exact WP.step (fun p e below T t m c hx hb ha q => XT.lstoreN ha hx rfl (hb ▸ hd) rfl hl q) k
theorem WP.lstore {k' : Nat} {v : Int64} (hd : decode bytes pc = .ok (.lstore k', 2)) (hl : storeLocals Ls k' (.long v) = some Ls') (hp : pc + 2 = n) (k : WP l Z EL nar own nm ds bytes maxL ret R Q vm h ce sl n Ls' (rest)) : WP l Z EL nar own nm ds bytes maxL ret R Q vm h ce sl pc Ls (.long v :: rest) := by subst hp; exact WP.step (fun p e below T t m c hx hb ha q => XT.lstore ha hx rfl (hb ▸ hd) rfl hl q) k
theorem WP.aloadN {k' : Fin 4} {v : Value} (hd : decode bytes pc = .ok (.aload_n k', 1)) (hl : Ls[k'.val]? = some (.val v)) (hv : v.isRef = true) (hp : pc + 1 = n) (k : WP l Z EL nar own nm ds bytes maxL ret R Q vm h ce sl n Ls (v :: st)) : WP l Z EL nar own nm ds bytes maxL ret R Q vm h ce sl pc Ls (st) := by subst hp; exact WP.step (fun p e below T t m c hx hb ha q => XS.aloadN ha hx rfl (hb ▸ hd) hl hv q) k
theorem WP.aload {k' : Nat} {v : Value} (hd : decode bytes pc = .ok (.aload k', 2)) (hl : Ls[k']? = some (.val v)) (hv : v.isRef = true) (hp : pc + 2 = n) (k : WP l Z EL nar own nm ds bytes maxL ret R Q vm h ce sl n Ls (v :: st)) : WP l Z EL nar own nm ds bytes maxL ret R Q vm h ce sl pc Ls (st) := by subst hp; exact WP.step (fun p e below T t m c hx hb ha q => XS.aload ha hx rfl (hb ▸ hd) hl hv q) k
theorem WP.astoreN {k' : Fin 4} {v : Value} (hd : decode bytes pc = .ok (.astore_n k', 1)) (hv : v.isRef = true) (hl : storeLocals Ls k'.val v = some Ls') (hp : pc + 1 = n) (k : WP l Z EL nar own nm ds bytes maxL ret R Q vm h ce sl n Ls' (rest)) : WP l Z EL nar own nm ds bytes maxL ret R Q vm h ce sl pc Ls (v :: rest) := by subst hp; exact WP.step (fun p e below T t m c hx hb ha q => XS.astoreN ha hx rfl (hb ▸ hd) rfl hv hl q) k
theorem WP.astore {k' : Nat} {v : Value} (hd : decode bytes pc = .ok (.astore k', 2)) (hv : v.isRef = true) (hl : storeLocals Ls k' v = some Ls') (hp : pc + 2 = n) (k : WP l Z EL nar own nm ds bytes maxL ret R Q vm h ce sl n Ls' (rest)) : WP l Z EL nar own nm ds bytes maxL ret R Q vm h ce sl pc Ls (v :: rest) := by subst hp; exact WP.step (fun p e below T t m c hx hb ha q => XS.astore ha hx rfl (hb ▸ hd) rfl hv hl q) k
theorem WP.iconst {i : Int} {z : Int32} (hd : decode bytes pc = .ok (.iconst i, 1)) (hz : Int32.ofInt i = z) (hp : pc + 1 = n) (k : WP l Z EL nar own nm ds bytes maxL ret R Q vm h ce sl n Ls (.int z :: st)) : WP l Z EL nar own nm ds bytes maxL ret R Q vm h ce sl pc Ls st := by subst hp hz; exact WP.step (fun p e below T t m c hx hb ha q => XS.iconst ha hx rfl (hb ▸ hd) q) k
theorem WP.bipush {i : Int} {z : Int32} (hd : decode bytes pc = .ok (.bipush i, 2)) (hz : (Int8.ofInt i).toInt32 = z) (hp : pc + 2 = n) (k : WP l Z EL nar own nm ds bytes maxL ret R Q vm h ce sl n Ls (.int z :: st)) : WP l Z EL nar own nm ds bytes maxL ret R Q vm h ce sl pc Ls st := by subst hp hz; exact WP.step (fun p e below T t m c hx hb ha q => XS.bipush ha hx rfl (hb ▸ hd) q) k
theorem WP.sipush {i : Int} {z : Int32} (hd : decode bytes pc = .ok (.sipush i, 3)) (hz : (Int16.ofInt i).toInt32 = z) (hp : pc + 3 = n) (k : WP l Z EL nar own nm ds bytes maxL ret R Q vm h ce sl n Ls (.int z :: st)) : WP l Z EL nar own nm ds bytes maxL ret R Q vm h ce sl pc Ls st := by subst hp hz; exact WP.step (fun p e below T t m c hx hb ha q => XS.sipush ha hx rfl (hb ▸ hd) q) k
theorem WP.lconst {i : Fin 2} (hd : decode bytes pc = .ok (.lconst i, 1)) {z : Int64} (hz : Int64.ofNat i = z) (hp : pc + 1 = n) (k : WP l Z EL nar own nm ds bytes maxL ret R Q vm h ce sl n Ls (.long z :: st)) : WP l Z EL nar own nm ds bytes maxL ret R Q vm h ce sl pc Ls st := by subst hp hz; exact WP.step (fun p e below T t m c hx hb ha q => XT.lconst ha hx rfl (hb ▸ hd) q) k
theorem WP.aconstNull  (hd : decode bytes pc = .ok (.aconst_null, 1))  (hp : pc + 1 = n) (k : WP l Z EL nar own nm ds bytes maxL ret R Q vm h ce sl n Ls (.null :: st)) : WP l Z EL nar own nm ds bytes maxL ret R Q vm h ce sl pc Ls (st) := by subst hp; exact WP.step (fun p e below T t m c hx hb ha q => XS.aconstNull ha hx rfl (hb ▸ hd)  q) k
theorem WP.iadd {x y : Int32} (hd : decode bytes pc = .ok (.iadd, 1))  (hp : pc + 1 = n) (k : WP l Z EL nar own nm ds bytes maxL ret R Q vm h ce sl n Ls (.int (x + y) :: rest)) : WP l Z EL nar own nm ds bytes maxL ret R Q vm h ce sl pc Ls (.int y :: .int x :: rest) := by subst hp; exact WP.step (fun p e below T t m c hx hb ha q => XS.iadd ha hx rfl (hb ▸ hd) rfl q) k
theorem WP.isub {x y : Int32} (hd : decode bytes pc = .ok (.isub, 1))  (hp : pc + 1 = n) (k : WP l Z EL nar own nm ds bytes maxL ret R Q vm h ce sl n Ls (.int (x - y) :: rest)) : WP l Z EL nar own nm ds bytes maxL ret R Q vm h ce sl pc Ls (.int y :: .int x :: rest) := by subst hp; exact WP.step (fun p e below T t m c hx hb ha q => XS.isub ha hx rfl (hb ▸ hd) rfl q) k
theorem WP.iand {x y : Int32} (hd : decode bytes pc = .ok (.iand, 1))  (hp : pc + 1 = n) (k : WP l Z EL nar own nm ds bytes maxL ret R Q vm h ce sl n Ls (.int (x &&& y) :: rest)) : WP l Z EL nar own nm ds bytes maxL ret R Q vm h ce sl pc Ls (.int y :: .int x :: rest) := by subst hp; exact WP.step (fun p e below T t m c hx hb ha q => XS.iand ha hx rfl (hb ▸ hd) rfl q) k
theorem WP.imul {x y : Int32} (hd : decode bytes pc = .ok (.imul, 1))  (hp : pc + 1 = n) (k : WP l Z EL nar own nm ds bytes maxL ret R Q vm h ce sl n Ls (.int (x * y) :: rest)) : WP l Z EL nar own nm ds bytes maxL ret R Q vm h ce sl pc Ls (.int y :: .int x :: rest) := by subst hp; exact WP.step (fun p e below T t m c hx hb ha q => XS.imul ha hx rfl (hb ▸ hd) rfl q) k
theorem WP.ixor {x y : Int32} (hd : decode bytes pc = .ok (.ixor, 1))  (hp : pc + 1 = n) (k : WP l Z EL nar own nm ds bytes maxL ret R Q vm h ce sl n Ls (.int (x ^^^ y) :: rest)) : WP l Z EL nar own nm ds bytes maxL ret R Q vm h ce sl pc Ls (.int y :: .int x :: rest) := by subst hp; exact WP.step (fun p e below T t m c hx hb ha q => XT.ixor ha hx rfl (hb ▸ hd) rfl q) k
theorem WP.ior {x y : Int32} (hd : decode bytes pc = .ok (.ior, 1))  (hp : pc + 1 = n) (k : WP l Z EL nar own nm ds bytes maxL ret R Q vm h ce sl n Ls (.int (x ||| y) :: rest)) : WP l Z EL nar own nm ds bytes maxL ret R Q vm h ce sl pc Ls (.int y :: .int x :: rest) := by subst hp; exact WP.step (fun p e below T t m c hx hb ha q => XT.ior ha hx rfl (hb ▸ hd) rfl q) k
theorem WP.ishl {x y : Int32} (hd : decode bytes pc = .ok (.ishl, 1))  (hp : pc + 1 = n) (k : WP l Z EL nar own nm ds bytes maxL ret R Q vm h ce sl n Ls (.int (x <<< (y &&& 31)) :: rest)) : WP l Z EL nar own nm ds bytes maxL ret R Q vm h ce sl pc Ls (.int y :: .int x :: rest) := by subst hp; exact WP.step (fun p e below T t m c hx hb ha q => XT.ishl ha hx rfl (hb ▸ hd) rfl q) k
theorem WP.ishr {x y : Int32} (hd : decode bytes pc = .ok (.ishr, 1))  (hp : pc + 1 = n) (k : WP l Z EL nar own nm ds bytes maxL ret R Q vm h ce sl n Ls (.int (x >>> (y &&& 31)) :: rest)) : WP l Z EL nar own nm ds bytes maxL ret R Q vm h ce sl pc Ls (.int y :: .int x :: rest) := by subst hp; exact WP.step (fun p e below T t m c hx hb ha q => XT.ishr ha hx rfl (hb ▸ hd) rfl q) k
theorem WP.iushr {x y : Int32} (hd : decode bytes pc = .ok (.iushr, 1))  (hp : pc + 1 = n) (k : WP l Z EL nar own nm ds bytes maxL ret R Q vm h ce sl n Ls (.int (XT.ushr x y) :: rest)) : WP l Z EL nar own nm ds bytes maxL ret R Q vm h ce sl pc Ls (.int y :: .int x :: rest) := by subst hp; exact WP.step (fun p e below T t m c hx hb ha q => XT.iushr ha hx rfl (hb ▸ hd) rfl q) k
theorem WP.idiv {x y : Int32} (hd : decode bytes pc = .ok (.idiv, 1)) (hy : y ≠ 0) (hp : pc + 1 = n) (k : WP l Z EL nar own nm ds bytes maxL ret R Q vm h ce sl n Ls (.int (x / y) :: rest)) : WP l Z EL nar own nm ds bytes maxL ret R Q vm h ce sl pc Ls (.int y :: .int x :: rest) := by subst hp; exact WP.step (fun p e below T t m c hx hb ha q => XS.idiv ha hx rfl (hb ▸ hd) rfl hy q) k
theorem WP.irem {x y : Int32} (hd : decode bytes pc = .ok (.irem, 1)) (hy : y ≠ 0) (hp : pc + 1 = n) (k : WP l Z EL nar own nm ds bytes maxL ret R Q vm h ce sl n Ls (.int (x % y) :: rest)) : WP l Z EL nar own nm ds bytes maxL ret R Q vm h ce sl pc Ls (.int y :: .int x :: rest) := by subst hp; rw [← irem_eq_mod] at k; exact WP.step (fun p e below T t m c hx hb ha q => XS.irem ha hx rfl (hb ▸ hd) rfl hy q) k
theorem WP.ineg {x : Int32} (hd : decode bytes pc = .ok (.ineg, 1))  (hp : pc + 1 = n) (k : WP l Z EL nar own nm ds bytes maxL ret R Q vm h ce sl n Ls (.int (-x) :: rest)) : WP l Z EL nar own nm ds bytes maxL ret R Q vm h ce sl pc Ls (.int x :: rest) := by subst hp; exact WP.step (fun p e below T t m c hx hb ha q => XS.ineg ha hx rfl (hb ▸ hd) rfl q) k
theorem WP.iinc {k' : Nat} {cst : Int} {x z : Int32} (hd : decode bytes pc = .ok (.iinc k' cst, 3)) (hl : Ls[k']? = some (.val (.int x))) (hz : x + Int32.ofInt cst = z) (hl' : storeLocals Ls k' (.int z) = some Ls') (hp : pc + 3 = n) (k : WP l Z EL nar own nm ds bytes maxL ret R Q vm h ce sl n Ls' st) : WP l Z EL nar own nm ds bytes maxL ret R Q vm h ce sl pc Ls st := by subst hp hz; exact WP.step (fun p e below T t m c hx hb ha q => XS.iinc ha hx rfl (hb ▸ hd) hl hl' q) k
theorem WP.ladd {x y : Int64} (hd : decode bytes pc = .ok (.ladd, 1))  (hp : pc + 1 = n) (k : WP l Z EL nar own nm ds bytes maxL ret R Q vm h ce sl n Ls (.long (x + y) :: rest)) : WP l Z EL nar own nm ds bytes maxL ret R Q vm h ce sl pc Ls (.long y :: .long x :: rest) := by subst hp; exact WP.step (fun p e below T t m c hx hb ha q => XT.ladd ha hx rfl (hb ▸ hd) rfl q) k
theorem WP.lsub {x y : Int64} (hd : decode bytes pc = .ok (.lsub, 1))  (hp : pc + 1 = n) (k : WP l Z EL nar own nm ds bytes maxL ret R Q vm h ce sl n Ls (.long (x - y) :: rest)) : WP l Z EL nar own nm ds bytes maxL ret R Q vm h ce sl pc Ls (.long y :: .long x :: rest) := by subst hp; exact WP.step (fun p e below T t m c hx hb ha q => XT.lsub ha hx rfl (hb ▸ hd) rfl q) k
theorem WP.lmul {x y : Int64} (hd : decode bytes pc = .ok (.lmul, 1))  (hp : pc + 1 = n) (k : WP l Z EL nar own nm ds bytes maxL ret R Q vm h ce sl n Ls (.long (x * y) :: rest)) : WP l Z EL nar own nm ds bytes maxL ret R Q vm h ce sl pc Ls (.long y :: .long x :: rest) := by subst hp; exact WP.step (fun p e below T t m c hx hb ha q => XT.lmul ha hx rfl (hb ▸ hd) rfl q) k
theorem WP.land {x y : Int64} (hd : decode bytes pc = .ok (.land, 1))  (hp : pc + 1 = n) (k : WP l Z EL nar own nm ds bytes maxL ret R Q vm h ce sl n Ls (.long (x &&& y) :: rest)) : WP l Z EL nar own nm ds bytes maxL ret R Q vm h ce sl pc Ls (.long y :: .long x :: rest) := by subst hp; exact WP.step (fun p e below T t m c hx hb ha q => XT.land ha hx rfl (hb ▸ hd) rfl q) k
theorem WP.lor {x y : Int64} (hd : decode bytes pc = .ok (.lor, 1))  (hp : pc + 1 = n) (k : WP l Z EL nar own nm ds bytes maxL ret R Q vm h ce sl n Ls (.long (x ||| y) :: rest)) : WP l Z EL nar own nm ds bytes maxL ret R Q vm h ce sl pc Ls (.long y :: .long x :: rest) := by subst hp; exact WP.step (fun p e below T t m c hx hb ha q => XT.lor ha hx rfl (hb ▸ hd) rfl q) k
theorem WP.lxor {x y : Int64} (hd : decode bytes pc = .ok (.lxor, 1))  (hp : pc + 1 = n) (k : WP l Z EL nar own nm ds bytes maxL ret R Q vm h ce sl n Ls (.long (x ^^^ y) :: rest)) : WP l Z EL nar own nm ds bytes maxL ret R Q vm h ce sl pc Ls (.long y :: .long x :: rest) := by subst hp; exact WP.step (fun p e below T t m c hx hb ha q => XT.lxor ha hx rfl (hb ▸ hd) rfl q) k
theorem WP.lshl {x : Int64} {y : Int32} (hd : decode bytes pc = .ok (.lshl, 1))  (hp : pc + 1 = n) (k : WP l Z EL nar own nm ds bytes maxL ret R Q vm h ce sl n Ls (.long (x <<< (y.toInt64 &&& 63)) :: rest)) : WP l Z EL nar own nm ds bytes maxL ret R Q vm h ce sl pc Ls (.int y :: .long x :: rest) := by subst hp; exact WP.step (fun p e below T t m c hx hb ha q => XT.lshl ha hx rfl (hb ▸ hd) rfl q) k
theorem WP.lshr {x : Int64} {y : Int32} (hd : decode bytes pc = .ok (.lshr, 1))  (hp : pc + 1 = n) (k : WP l Z EL nar own nm ds bytes maxL ret R Q vm h ce sl n Ls (.long (x >>> (y.toInt64 &&& 63)) :: rest)) : WP l Z EL nar own nm ds bytes maxL ret R Q vm h ce sl pc Ls (.int y :: .long x :: rest) := by subst hp; exact WP.step (fun p e below T t m c hx hb ha q => XT.lshr ha hx rfl (hb ▸ hd) rfl q) k
theorem WP.lushr {x : Int64} {y : Int32} (hd : decode bytes pc = .ok (.lushr, 1))  (hp : pc + 1 = n) (k : WP l Z EL nar own nm ds bytes maxL ret R Q vm h ce sl n Ls (.long (XT.ushrL x y) :: rest)) : WP l Z EL nar own nm ds bytes maxL ret R Q vm h ce sl pc Ls (.int y :: .long x :: rest) := by subst hp; exact WP.step (fun p e below T t m c hx hb ha q => XT.lushr ha hx rfl (hb ▸ hd) rfl q) k
theorem WP.ldiv {x y : Int64} (hd : decode bytes pc = .ok (.ldiv, 1)) (hy : y ≠ 0) (hp : pc + 1 = n) (k : WP l Z EL nar own nm ds bytes maxL ret R Q vm h ce sl n Ls (.long (x / y) :: rest)) : WP l Z EL nar own nm ds bytes maxL ret R Q vm h ce sl pc Ls (.long y :: .long x :: rest) := by subst hp; exact WP.step (fun p e below T t m c hx hb ha q => XT.ldiv ha hx rfl (hb ▸ hd) rfl hy q) k
theorem WP.lrem {x y : Int64} (hd : decode bytes pc = .ok (.lrem, 1)) (hy : y ≠ 0) (hp : pc + 1 = n) (k : WP l Z EL nar own nm ds bytes maxL ret R Q vm h ce sl n Ls (.long (x - (x / y) * y) :: rest)) : WP l Z EL nar own nm ds bytes maxL ret R Q vm h ce sl pc Ls (.long y :: .long x :: rest) := by subst hp; exact WP.step (fun p e below T t m c hx hb ha q => XT.lrem ha hx rfl (hb ▸ hd) rfl hy q) k
theorem WP.lneg {x : Int64} (hd : decode bytes pc = .ok (.lneg, 1))  (hp : pc + 1 = n) (k : WP l Z EL nar own nm ds bytes maxL ret R Q vm h ce sl n Ls (.long (-x) :: rest)) : WP l Z EL nar own nm ds bytes maxL ret R Q vm h ce sl pc Ls (.long x :: rest) := by subst hp; exact WP.step (fun p e below T t m c hx hb ha q => XT.lneg ha hx rfl (hb ▸ hd) rfl q) k
theorem WP.lcmp {x y : Int64} (hd : decode bytes pc = .ok (.lcmp, 1))  (hp : pc + 1 = n) (k : WP l Z EL nar own nm ds bytes maxL ret R Q vm h ce sl n Ls (.int (XT.cmpL x y) :: rest)) : WP l Z EL nar own nm ds bytes maxL ret R Q vm h ce sl pc Ls (.long y :: .long x :: rest) := by subst hp; exact WP.step (fun p e below T t m c hx hb ha q => XT.lcmp ha hx rfl (hb ▸ hd) rfl q) k
theorem WP.i2l {x : Int32} (hd : decode bytes pc = .ok (.i2l, 1))  (hp : pc + 1 = n) (k : WP l Z EL nar own nm ds bytes maxL ret R Q vm h ce sl n Ls (.long x.toInt64 :: rest)) : WP l Z EL nar own nm ds bytes maxL ret R Q vm h ce sl pc Ls (.int x :: rest) := by subst hp; exact WP.step (fun p e below T t m c hx hb ha q => XT.i2l ha hx rfl (hb ▸ hd) rfl q) k
theorem WP.l2i {x : Int64} (hd : decode bytes pc = .ok (.l2i, 1))  (hp : pc + 1 = n) (k : WP l Z EL nar own nm ds bytes maxL ret R Q vm h ce sl n Ls (.int x.toInt32 :: rest)) : WP l Z EL nar own nm ds bytes maxL ret R Q vm h ce sl pc Ls (.long x :: rest) := by subst hp; exact WP.step (fun p e below T t m c hx hb ha q => XT.l2i ha hx rfl (hb ▸ hd) rfl q) k
theorem WP.i2b {x : Int32} (hd : decode bytes pc = .ok (.i2b, 1))  (hp : pc + 1 = n) (k : WP l Z EL nar own nm ds bytes maxL ret R Q vm h ce sl n Ls (.int x.toInt8.toInt32 :: rest)) : WP l Z EL nar own nm ds bytes maxL ret R Q vm h ce sl pc Ls (.int x :: rest) := by subst hp; exact WP.step (fun p e below T t m c hx hb ha q => XT.i2b ha hx rfl (hb ▸ hd) rfl q) k
theorem WP.i2c {x z : Int32} (hd : decode bytes pc = .ok (.i2c, 1)) (hz : x.toUInt32.toUInt16.toUInt32.toInt32 = z) (hp : pc + 1 = n) (k : WP l Z EL nar own nm ds bytes maxL ret R Q vm h ce sl n Ls (.int z :: rest)) : WP l Z EL nar own nm ds bytes maxL ret R Q vm h ce sl pc Ls (.int x :: rest) := by subst hp hz; exact WP.step (fun p e below T t m c hx hb ha q => XT.i2c ha hx rfl (hb ▸ hd) rfl q) k
theorem WP.i2s {x : Int32} (hd : decode bytes pc = .ok (.i2s, 1))  (hp : pc + 1 = n) (k : WP l Z EL nar own nm ds bytes maxL ret R Q vm h ce sl n Ls (.int x.toInt16.toInt32 :: rest)) : WP l Z EL nar own nm ds bytes maxL ret R Q vm h ce sl pc Ls (.int x :: rest) := by subst hp; exact WP.step (fun p e below T t m c hx hb ha q => XT.i2s ha hx rfl (hb ▸ hd) rfl q) k
theorem WP.dup {v : Value} (hd : decode bytes pc = .ok (.dup, 1)) (hc : v.category = 1) (hp : pc + 1 = n) (k : WP l Z EL nar own nm ds bytes maxL ret R Q vm h ce sl n Ls (v :: v :: rest)) : WP l Z EL nar own nm ds bytes maxL ret R Q vm h ce sl pc Ls (v :: rest) := by subst hp; exact WP.step (fun p e below T t m c hx hb ha q => XS.dup ha hx rfl (hb ▸ hd) rfl hc q) k
theorem WP.pop {v : Value} (hd : decode bytes pc = .ok (.pop, 1)) (hc : v.category = 1) (hp : pc + 1 = n) (k : WP l Z EL nar own nm ds bytes maxL ret R Q vm h ce sl n Ls (rest)) : WP l Z EL nar own nm ds bytes maxL ret R Q vm h ce sl pc Ls (v :: rest) := by subst hp; exact WP.step (fun p e below T t m c hx hb ha q => XT.pop ha hx rfl (hb ▸ hd) rfl hc q) k
theorem WP.dupX1 {v w : Value} (hd : decode bytes pc = .ok (.dup_x1, 1)) (hc : v.category = 1) (hc' : w.category = 1) (hp : pc + 1 = n) (k : WP l Z EL nar own nm ds bytes maxL ret R Q vm h ce sl n Ls (v :: w :: v :: rest)) : WP l Z EL nar own nm ds bytes maxL ret R Q vm h ce sl pc Ls (v :: w :: rest) := by subst hp; exact WP.step (fun p e below T t m c hx hb ha q => XT.dupX1 ha hx rfl (hb ▸ hd) rfl hc hc' q) k
theorem WP.dup2 {v w : Value} (hd : decode bytes pc = .ok (.dup2, 1)) (hc : v.category = 1) (hc' : w.category = 1) (hp : pc + 1 = n) (k : WP l Z EL nar own nm ds bytes maxL ret R Q vm h ce sl n Ls (v :: w :: v :: w :: rest)) : WP l Z EL nar own nm ds bytes maxL ret R Q vm h ce sl pc Ls (v :: w :: rest) := by subst hp; exact WP.step (fun p e below T t m c hx hb ha q => XT.dup2 ha hx rfl (hb ▸ hd) rfl hc hc' q) k
theorem WP.goto {o' : Int} (hd : decode bytes pc = .ok (.goto o', 3)) (ho : 0 ≤ (pc : Int) + o') (hn : ((pc : Int) + o').toNat = n) (k : WP l Z EL nar own nm ds bytes maxL ret R Q vm h ce sl n Ls st) : WP l Z EL nar own nm ds bytes maxL ret R Q vm h ce sl pc Ls st := WP.step (fun p e below T t m c hx hb ha q => XS.goto ha hx rfl (pc0 := pc) rfl (hb ▸ hd) ho hn q) k
theorem WP.icmpY {cd : ClassFile.Cond} {o' : Int} {x y : Int32} (hd : decode bytes pc = .ok (.if_icmp cd o', 3)) (hc : if_icmp.holds cd x y = true) (ho : 0 ≤ (pc : Int) + o') (hn : ((pc : Int) + o').toNat = n) (k : WP l Z EL nar own nm ds bytes maxL ret R Q vm h ce sl n Ls rest) : WP l Z EL nar own nm ds bytes maxL ret R Q vm h ce sl pc Ls (.int y :: .int x :: rest) := WP.step (fun p e below T t m c hx hb ha q => XS.icmpYes ha hx rfl (pc0 := pc) rfl (hb ▸ hd) rfl hc ho hn q) k
theorem WP.icmpN {cd : ClassFile.Cond} {o' : Int} {x y : Int32} (hd : decode bytes pc = .ok (.if_icmp cd o', 3)) (hc : if_icmp.holds cd x y = false) (hp : pc + 3 = n') (k : WP l Z EL nar own nm ds bytes maxL ret R Q vm h ce sl n' Ls rest) : WP l Z EL nar own nm ds bytes maxL ret R Q vm h ce sl pc Ls (.int y :: .int x :: rest) := by subst hp; exact WP.step (fun p e below T t m c hx hb ha q => XS.icmpNo ha hx rfl (hb ▸ hd) rfl hc q) k
theorem WP.ifcY {cd : ClassFile.Cond} {o' : Int} {x : Int32} (hd : decode bytes pc = .ok (.ifCond cd o', 3)) (hc : ifCond.holds cd x = true) (ho : 0 ≤ (pc : Int) + o') (hn : ((pc : Int) + o').toNat = n) (k : WP l Z EL nar own nm ds bytes maxL ret R Q vm h ce sl n Ls rest) : WP l Z EL nar own nm ds bytes maxL ret R Q vm h ce sl pc Ls (.int x :: rest) := WP.step (fun p e below T t m c hx hb ha q => XS.ifYes ha hx rfl (pc0 := pc) rfl (hb ▸ hd) rfl hc ho hn q) k
theorem WP.ifcN {cd : ClassFile.Cond} {o' : Int} {x : Int32} (hd : decode bytes pc = .ok (.ifCond cd o', 3)) (hc : ifCond.holds cd x = false) (hp : pc + 3 = n') (k : WP l Z EL nar own nm ds bytes maxL ret R Q vm h ce sl n' Ls rest) : WP l Z EL nar own nm ds bytes maxL ret R Q vm h ce sl pc Ls (.int x :: rest) := by subst hp; exact WP.step (fun p e below T t m c hx hb ha q => XS.ifNo ha hx rfl (hb ▸ hd) rfl hc q) k
theorem WP.icmp_lt {o' : Int} {x y : Int32} (hd : decode bytes pc = .ok (.if_icmp .lt o', 3)) (ho : 0 ≤ (pc : Int) + o') (hn : ((pc : Int) + o').toNat = n) (hp : pc + 3 = n') (k1 : x < y → WP l Z EL nar own nm ds bytes maxL ret R Q vm h ce sl n Ls rest) (k2 : ¬ x < y → WP l Z EL nar own nm ds bytes maxL ret R Q vm h ce sl n' Ls rest) : WP l Z EL nar own nm ds bytes maxL ret R Q vm h ce sl pc Ls (.int y :: .int x :: rest) := by by_cases q : x < y; exact WP.icmpY hd ((tlt q).1) ho hn (k1 q); exact WP.icmpN hd ((flt q).1) hp (k2 q)
theorem WP.if_lt {o' : Int} {x : Int32} (hd : decode bytes pc = .ok (.ifCond .lt o', 3)) (ho : 0 ≤ (pc : Int) + o') (hn : ((pc : Int) + o').toNat = n) (hp : pc + 3 = n') (k1 : x < (0 : Int32) → WP l Z EL nar own nm ds bytes maxL ret R Q vm h ce sl n Ls rest) (k2 : ¬ x < (0 : Int32) → WP l Z EL nar own nm ds bytes maxL ret R Q vm h ce sl n' Ls rest) : WP l Z EL nar own nm ds bytes maxL ret R Q vm h ce sl pc Ls (.int x :: rest) := by by_cases q : x < (0 : Int32); exact WP.ifcY hd ((if0 _ _).trans (tlt q).1) ho hn (k1 q); exact WP.ifcN hd ((if0 _ _).trans (flt q).1) hp (k2 q)
theorem WP.icmp_ge {o' : Int} {x y : Int32} (hd : decode bytes pc = .ok (.if_icmp .ge o', 3)) (ho : 0 ≤ (pc : Int) + o') (hn : ((pc : Int) + o').toNat = n) (hp : pc + 3 = n') (k1 : ¬ x < y → WP l Z EL nar own nm ds bytes maxL ret R Q vm h ce sl n Ls rest) (k2 : x < y → WP l Z EL nar own nm ds bytes maxL ret R Q vm h ce sl n' Ls rest) : WP l Z EL nar own nm ds bytes maxL ret R Q vm h ce sl pc Ls (.int y :: .int x :: rest) := by by_cases q : x < y; exact WP.icmpN hd ((tlt q).2.1) hp (k2 q); exact WP.icmpY hd ((flt q).2.1) ho hn (k1 q)
theorem WP.if_ge {o' : Int} {x : Int32} (hd : decode bytes pc = .ok (.ifCond .ge o', 3)) (ho : 0 ≤ (pc : Int) + o') (hn : ((pc : Int) + o').toNat = n) (hp : pc + 3 = n') (k1 : ¬ x < (0 : Int32) → WP l Z EL nar own nm ds bytes maxL ret R Q vm h ce sl n Ls rest) (k2 : x < (0 : Int32) → WP l Z EL nar own nm ds bytes maxL ret R Q vm h ce sl n' Ls rest) : WP l Z EL nar own nm ds bytes maxL ret R Q vm h ce sl pc Ls (.int x :: rest) := by by_cases q : x < (0 : Int32); exact WP.ifcN hd ((if0 _ _).trans (tlt q).2.1) hp (k2 q); exact WP.ifcY hd ((if0 _ _).trans (flt q).2.1) ho hn (k1 q)
theorem WP.icmp_gt {o' : Int} {x y : Int32} (hd : decode bytes pc = .ok (.if_icmp .gt o', 3)) (ho : 0 ≤ (pc : Int) + o') (hn : ((pc : Int) + o').toNat = n) (hp : pc + 3 = n') (k1 : y < x → WP l Z EL nar own nm ds bytes maxL ret R Q vm h ce sl n Ls rest) (k2 : ¬ y < x → WP l Z EL nar own nm ds bytes maxL ret R Q vm h ce sl n' Ls rest) : WP l Z EL nar own nm ds bytes maxL ret R Q vm h ce sl pc Ls (.int y :: .int x :: rest) := by by_cases q : y < x; exact WP.icmpY hd ((tlt q).2.2.1) ho hn (k1 q); exact WP.icmpN hd ((flt q).2.2.1) hp (k2 q)
theorem WP.if_gt {o' : Int} {x : Int32} (hd : decode bytes pc = .ok (.ifCond .gt o', 3)) (ho : 0 ≤ (pc : Int) + o') (hn : ((pc : Int) + o').toNat = n) (hp : pc + 3 = n') (k1 : (0 : Int32) < x → WP l Z EL nar own nm ds bytes maxL ret R Q vm h ce sl n Ls rest) (k2 : ¬ (0 : Int32) < x → WP l Z EL nar own nm ds bytes maxL ret R Q vm h ce sl n' Ls rest) : WP l Z EL nar own nm ds bytes maxL ret R Q vm h ce sl pc Ls (.int x :: rest) := by by_cases q : (0 : Int32) < x; exact WP.ifcY hd ((if0 _ _).trans (tlt q).2.2.1) ho hn (k1 q); exact WP.ifcN hd ((if0 _ _).trans (flt q).2.2.1) hp (k2 q)
theorem WP.icmp_le {o' : Int} {x y : Int32} (hd : decode bytes pc = .ok (.if_icmp .le o', 3)) (ho : 0 ≤ (pc : Int) + o') (hn : ((pc : Int) + o').toNat = n) (hp : pc + 3 = n') (k1 : ¬ y < x → WP l Z EL nar own nm ds bytes maxL ret R Q vm h ce sl n Ls rest) (k2 : y < x → WP l Z EL nar own nm ds bytes maxL ret R Q vm h ce sl n' Ls rest) : WP l Z EL nar own nm ds bytes maxL ret R Q vm h ce sl pc Ls (.int y :: .int x :: rest) := by by_cases q : y < x; exact WP.icmpN hd ((tlt q).2.2.2) hp (k2 q); exact WP.icmpY hd ((flt q).2.2.2) ho hn (k1 q)
theorem WP.if_le {o' : Int} {x : Int32} (hd : decode bytes pc = .ok (.ifCond .le o', 3)) (ho : 0 ≤ (pc : Int) + o') (hn : ((pc : Int) + o').toNat = n) (hp : pc + 3 = n') (k1 : ¬ (0 : Int32) < x → WP l Z EL nar own nm ds bytes maxL ret R Q vm h ce sl n Ls rest) (k2 : (0 : Int32) < x → WP l Z EL nar own nm ds bytes maxL ret R Q vm h ce sl n' Ls rest) : WP l Z EL nar own nm ds bytes maxL ret R Q vm h ce sl pc Ls (.int x :: rest) := by by_cases q : (0 : Int32) < x; exact WP.ifcN hd ((if0 _ _).trans (tlt q).2.2.2) hp (k2 q); exact WP.ifcY hd ((if0 _ _).trans (flt q).2.2.2) ho hn (k1 q)
theorem WP.icmp_eq {o' : Int} {x y : Int32} (hd : decode bytes pc = .ok (.if_icmp .eq o', 3)) (ho : 0 ≤ (pc : Int) + o') (hn : ((pc : Int) + o').toNat = n) (hp : pc + 3 = n') (k1 : x = y → WP l Z EL nar own nm ds bytes maxL ret R Q vm h ce sl n Ls rest) (k2 : ¬ x = y → WP l Z EL nar own nm ds bytes maxL ret R Q vm h ce sl n' Ls rest) : WP l Z EL nar own nm ds bytes maxL ret R Q vm h ce sl pc Ls (.int y :: .int x :: rest) := by by_cases q : x = y; exact WP.icmpY hd ((teq q).1) ho hn (k1 q); exact WP.icmpN hd ((feq q).1) hp (k2 q)
theorem WP.if_eq {o' : Int} {x : Int32} (hd : decode bytes pc = .ok (.ifCond .eq o', 3)) (ho : 0 ≤ (pc : Int) + o') (hn : ((pc : Int) + o').toNat = n) (hp : pc + 3 = n') (k1 : x = (0 : Int32) → WP l Z EL nar own nm ds bytes maxL ret R Q vm h ce sl n Ls rest) (k2 : ¬ x = (0 : Int32) → WP l Z EL nar own nm ds bytes maxL ret R Q vm h ce sl n' Ls rest) : WP l Z EL nar own nm ds bytes maxL ret R Q vm h ce sl pc Ls (.int x :: rest) := by by_cases q : x = (0 : Int32); exact WP.ifcY hd ((if0 _ _).trans (teq q).1) ho hn (k1 q); exact WP.ifcN hd ((if0 _ _).trans (feq q).1) hp (k2 q)
theorem WP.icmp_ne {o' : Int} {x y : Int32} (hd : decode bytes pc = .ok (.if_icmp .ne o', 3)) (ho : 0 ≤ (pc : Int) + o') (hn : ((pc : Int) + o').toNat = n) (hp : pc + 3 = n') (k1 : ¬ x = y → WP l Z EL nar own nm ds bytes maxL ret R Q vm h ce sl n Ls rest) (k2 : x = y → WP l Z EL nar own nm ds bytes maxL ret R Q vm h ce sl n' Ls rest) : WP l Z EL nar own nm ds bytes maxL ret R Q vm h ce sl pc Ls (.int y :: .int x :: rest) := by by_cases q : x = y; exact WP.icmpN hd ((teq q).2) hp (k2 q); exact WP.icmpY hd ((feq q).2) ho hn (k1 q)
theorem WP.if_ne {o' : Int} {x : Int32} (hd : decode bytes pc = .ok (.ifCond .ne o', 3)) (ho : 0 ≤ (pc : Int) + o') (hn : ((pc : Int) + o').toNat = n) (hp : pc + 3 = n') (k1 : ¬ x = (0 : Int32) → WP l Z EL nar own nm ds bytes maxL ret R Q vm h ce sl n Ls rest) (k2 : x = (0 : Int32) → WP l Z EL nar own nm ds bytes maxL ret R Q vm h ce sl n' Ls rest) : WP l Z EL nar own nm ds bytes maxL ret R Q vm h ce sl pc Ls (.int x :: rest) := by by_cases q : x = (0 : Int32); exact WP.ifcN hd ((if0 _ _).trans (teq q).2) hp (k2 q); exact WP.ifcY hd ((if0 _ _).trans (feq q).2) ho hn (k1 q)
theorem WP.ifnullY {o' : Int} (hd : decode bytes pc = .ok (.ifnull o', 3)) (ho : 0 ≤ (pc : Int) + o') (hn : ((pc : Int) + o').toNat = n) (k : WP l Z EL nar own nm ds bytes maxL ret R Q vm h ce sl n Ls rest) : WP l Z EL nar own nm ds bytes maxL ret R Q vm h ce sl pc Ls (.null :: rest) := WP.step (fun p e below T t m c hx hb ha q => XS.ifnullYes ha hx rfl (pc0 := pc) rfl (hb ▸ hd) rfl ho hn q) k
theorem WP.ifnullN {o' : Int} {b : Addr} (hd : decode bytes pc = .ok (.ifnull o', 3)) (hp : pc + 3 = n') (k : WP l Z EL nar own nm ds bytes maxL ret R Q vm h ce sl n' Ls rest) : WP l Z EL nar own nm ds bytes maxL ret R Q vm h ce sl pc Ls (.ref b :: rest) := by subst hp; exact WP.step (fun p e below T t m c hx hb ha q => XS.ifnullNo ha hx rfl (hb ▸ hd) rfl q) k
theorem WP.ifnonnullY {o' : Int} {b : Addr} (hd : decode bytes pc = .ok (.ifnonnull o', 3)) (ho : 0 ≤ (pc : Int) + o') (hn : ((pc : Int) + o').toNat = n) (k : WP l Z EL nar own nm ds bytes maxL ret R Q vm h ce sl n Ls rest) : WP l Z EL nar own nm ds bytes maxL ret R Q vm h ce sl pc Ls (.ref b :: rest) := WP.step (fun p e below T t m c hx hb ha q => XT.ifnonnullYes ha hx rfl (pc0 := pc) rfl (hb ▸ hd) rfl ho hn q) k
theorem WP.ifnonnullN {o' : Int} (hd : decode bytes pc = .ok (.ifnonnull o', 3)) (hp : pc + 3 = n') (k : WP l Z EL nar own nm ds bytes maxL ret R Q vm h ce sl n' Ls rest) : WP l Z EL nar own nm ds bytes maxL ret R Q vm h ce sl pc Ls (.null :: rest) := by subst hp; exact WP.step (fun p e below T t m c hx hb ha q => XT.ifnonnullNo ha hx rfl (hb ▸ hd) rfl q) k
theorem WP.acmpY {cd : ACond} {o' : Int} {x y : Value} (hd : decode bytes pc = .ok (.if_acmp cd o', 3)) (hx' : x.isRef = true) (hy' : y.isRef = true) (hc : XT.acmp cd x y = true) (ho : 0 ≤ (pc : Int) + o') (hn : ((pc : Int) + o').toNat = n) (k : WP l Z EL nar own nm ds bytes maxL ret R Q vm h ce sl n Ls rest) : WP l Z EL nar own nm ds bytes maxL ret R Q vm h ce sl pc Ls (y :: x :: rest) := WP.step (fun p e below T t m c hx hb ha q => XT.acmpYes ha hx rfl (pc0 := pc) rfl (hb ▸ hd) rfl hx' hy' hc ho hn q) k
theorem WP.acmpN {cd : ACond} {o' : Int} {x y : Value} (hd : decode bytes pc = .ok (.if_acmp cd o', 3)) (hx' : x.isRef = true) (hy' : y.isRef = true) (hc : XT.acmp cd x y = false) (hp : pc + 3 = n') (k : WP l Z EL nar own nm ds bytes maxL ret R Q vm h ce sl n' Ls rest) : WP l Z EL nar own nm ds bytes maxL ret R Q vm h ce sl pc Ls (y :: x :: rest) := by subst hp; exact WP.step (fun p e below T t m c hx hb ha q => XT.acmpNo ha hx rfl (hb ▸ hd) rfl hx' hy' hc q) k
theorem WP.getF {R0 O nf d host : String} {index : Nat} {a : Addr} {v : Value} (hd : decode bytes pc = .ok (.getfield index, 3)) (w : (Cond.fieldLink own index R0 nf d).before a0 Z = true ∨ (Cond.fieldLinkNest own index R0 nf d host).before a0 Z = true) (via : Via Z R0 O nf d) (F : Fld Z h a O nf d v) (hp : pc + 3 = n) (k : WP l Z EL nar own nm ds bytes maxL ret R Q vm h ce sl n Ls (v :: rest)) : WP l Z EL nar own nm ds bytes maxL ret R Q vm h ce sl pc Ls (.ref a :: rest) := by
  subst hp
  refine WP.look (fun p e s args below T m meth c L hx hb X hZ hown eT => ?_) k
  exact getF X hx hZ hown w via eT F (g := mkF m pc Ls (.ref a :: rest)) rfl rfl (hb ▸ hd)
theorem WP.getS {R0 O nf d : String} {index : Nat} {v : Value} (hd : decode bytes pc = .ok (.getstatic index, 3)) (w : (Cond.fieldLink own index R0 nf d).before a0 Z = true) (via : Via Z R0 O nf d) (F : Sta Z h O nf d v) (hp : pc + 3 = n) (k : WP l Z EL nar own nm ds bytes maxL ret R Q vm h ce sl n Ls (v :: st)) : WP l Z EL nar own nm ds bytes maxL ret R Q vm h ce sl pc Ls st := by
  subst hp
  refine WP.look (fun p e s args below T m meth c L hx hb X hZ hown eT => ?_) k
  exact getS (host := "") X hx hZ hown w via eT F (g := mkF m pc Ls st) rfl (hb ▸ hd)
theorem WP.getSZ {R0 O nf d : String} {index : Nat} {v : Value} (hd : decode bytes pc = .ok (.getstatic index, 3)) (w : (Cond.fieldLink own index R0 nf d).before a0 Z = true) (via : Via Z R0 O nf d) (F : Sta Z Z.heap O nf d v) (hp : pc + 3 = n) (k : WP l Z EL nar own nm ds bytes maxL ret R Q vm h ce sl n Ls (v :: st)) : WP l Z EL nar own nm ds bytes maxL ret R Q vm h ce sl pc Ls st :=
  WP.inv fun _ E _ => WP.getS hd w via (F.ext E) hp k
theorem WP.new {C : String} {index nn : Nat} {ce' sl' : Nat} (hd : decode bytes pc = .ok (.new index, 3)) (w : (Cond.classLink own index C).before a0 Z = true) (wi : (Cond.instantiable C nn).before a0 Z = true) (wz : (Cond.initialized C).before a0 Z = true) (hce : ce + 1 = ce') (hsl : sl + nn = sl') (hc : ce' ≤ R.cells) (hl : sl' ≤ R.slots) (hp : pc + 3 = n)
    (k : ∀ a h', a = h.size → Ext h h' → Exa Z h' a C → (∀ {O f d : String} {ty : FieldType}, Laid Z a0 C O f d → parseFieldDescriptor d = some ty → Fld Z h' a O f d (defaultValue ty)) → Safe Z EL vm h' a → Z.heap.size ≤ a → CHr Z EL vm h vm h' → WP l Z EL nar own nm ds bytes maxL ret R Q vm h' ce' sl' n Ls (.ref a :: st)) : WP l Z EL nar own nm ds bytes maxL ret R Q vm h ce sl pc Ls st := by
  subst hp hce hsl
  refine WP.inv fun _ hE hH => WP.make (P := fun h' => Exa Z h' h.size C ∧ ∀ {O f d : String} {ty : FieldType}, Laid Z a0 C O f d → parseFieldDescriptor d = some ty → Fld Z h' h.size O f d (defaultValue ty)) (fun p e s args below T m meth c L hx hb X hZ hown eT => ?_) fun h' E p hr => k _ h' rfl E p.1 p.2 (Safe.ext E hH (Safe.new (Nat.le_refl _))) hE.1 hr
  obtain ⟨T', h', X', e', E', A', D', -, stp⟩ := newO X hx hZ hown w wi wz eT (g := mkF m pc Ls st) rfl (hb ▸ hd) hc hl
  exact ⟨T', h', X', e', E', ⟨A', D'⟩, stp⟩
theorem WP.putF {R0 O nf d host C : String} {index kk : Nat} {ty : FieldType} {a : Addr} {v old : Value} (hd : decode bytes pc = .ok (.putfield index, 3)) (w : (Cond.fieldLink own index R0 nf d).before a0 Z = true ∨ (Cond.fieldLinkNest own index R0 nf d host).before a0 Z = true) (via : Via Z R0 O nf d) (F : Fld Z h a O nf d old) (E : Exa Z h a C)
    (L' : (Cond.lays C O nf d).before a0 Z = true ∨ ((Cond.laysFinal C O nf d).before a0 Z = true ∧ own = O ∧ nm = "<init>")) (wi : (Cond.instantiable C kk).before a0 Z = true) (hty : parseFieldDescriptor d = some ty) (hn : narrow ty v = v) (hf : fits ty v = true) (ha : Z.heap.size ≤ a) (S : Safe Z EL vm h a) (hp : pc + 3 = n)
    (k : ∀ h', Wr h h' a (Jvm.RoadKit.slotOf Z O nf d) v → CHr Z EL vm h vm h' → WP l Z EL nar own nm ds bytes maxL ret R Q vm h' ce sl n Ls rest) : WP l Z EL nar own nm ds bytes maxL ret R Q vm h ce sl pc Ls (v :: .ref a :: rest) := by
  subst hp
  refine WP.write ha (fun _ => S) (fun p e s args below T m meth c L hx hb hnm X hZ hown eT => ?_) k
  exact putF X hx hZ hown w via eT F E (L'.imp id fun q => ⟨q.1, q.2.1, hnm.trans q.2.2⟩) wi hty hn hf (g := mkF m pc Ls (v :: .ref a :: rest)) rfl rfl (hb ▸ hd)
theorem WP.putFE {R0 O nf d host C : String} {index kk : Nat} {ty : FieldType} {a : Addr} {v old : Value} (hd : decode bytes pc = .ok (.putfield index, 3)) (w : (Cond.fieldLink own index R0 nf d).before a0 Z = true ∨ (Cond.fieldLinkNest own index R0 nf d host).before a0 Z = true) (via : Via Z R0 O nf d) (F : Fld Z h a O nf d old) (E : Exa Z h a C)
    (L' : (Cond.lays C O nf d).before a0 Z = true ∨ ((Cond.laysFinal C O nf d).before a0 Z = true ∧ own = O ∧ nm = "<init>")) (wi : (Cond.instantiable C kk).before a0 Z = true) (hty : parseFieldDescriptor d = some ty) (hn : narrow ty v = v) (hf : fits ty v = true) (ha : Z.heap.size ≤ a) (hC : C ≠ "java/lang/String" ∧ C ≠ "[B") (hp : pc + 3 = n)
    (k : ∀ h', Wr h h' a (Jvm.RoadKit.slotOf Z O nf d) v → CHr Z EL vm h vm h' → WP l Z EL nar own nm ds bytes maxL ret R Q vm h' ce sl n Ls rest) : WP l Z EL nar own nm ds bytes maxL ret R Q vm h ce sl pc Ls (v :: .ref a :: rest) :=
  WP.inv fun hZ _ _ => WP.putF hd w via F E L' wi hty hn hf ha (Safe.exa hZ.alike E hC.1 hC.2) hp k
theorem WP.newP {aty : ArrayType} {x : Int32} {cap ce' sl' : Nat} {ty : FieldType} (hd : decode bytes pc = .ok (.newarray aty, 2)) (w : (Cond.arrayClass ty).before a0 Z = true) (hty : newarray.typeOf aty = ty) (hx0 : ¬ x < 0) (hcap : x.toNatClampNeg ≤ cap) (hbig : cap * 8 ≤ 536870912) (hce : ce + 1 = ce') (hsl : sl + cap = sl') (hc : ce' ≤ R.cells) (hl : sl' ≤ R.slots) (hp : pc + 2 = n)
    (k : ∀ a h' cA, a = h.size → Ext h h' → Arv Z h' a cA ty x [] (defaultValue ty) → Safe Z EL vm h' a → Z.heap.size ≤ a → CHr Z EL vm h vm h' → WP l Z EL nar own nm ds bytes maxL ret R Q vm h' ce' sl' n Ls (.ref a :: rest)) : WP l Z EL nar own nm ds bytes maxL ret R Q vm h ce sl pc Ls (.int x :: rest) := by
  subst hp hce hsl hty
  refine WP.inv fun _ hE hH => WP.make (P := fun h' => ∃ cA, Arv Z h' h.size cA (newarray.typeOf aty) x [] (defaultValue (newarray.typeOf aty))) (fun p e s args below T m meth c L hx hb X hZ hown eT => ?_) fun h' E p hr => by
    obtain ⟨cA, A⟩ := p
    exact k _ h' cA rfl E A (Safe.ext E hH (Safe.new (Nat.le_refl _))) hE.1 hr
  obtain ⟨T', h', cA, X', e', E', A', stp⟩ := newP X hx hZ w eT (g := mkF m pc Ls (.int x :: rest)) rfl (hb ▸ hd) rfl hx0 hcap hbig hc hl
  exact ⟨T', h', X', e', E', ⟨cA, Arv.new A' hx0⟩, stp⟩
theorem WP.stC {a : Addr} {cA : ClassId} {z j x y : Int32} {vs : List Value} {d : Value} {i : Nat} (hd : decode bytes pc = .ok (.castore, 1)) (A : Arv Z h a cA .char z vs d) (hj : ¬ j < 0 ∧ j < z) (hi : j.toNatClampNeg = i) (hlen : i < vs.length) (hy : Jvm.RoadKit.nar .char x = y) (ha : Z.heap.size ≤ a) (S : Safe Z EL vm h a) (hp : pc + 1 = n)
    (k : ∀ h', Wr h h' a j.toNatClampNeg (.int y) → Arv Z h' a cA .char z (vs.set i (.int y)) d → CHr Z EL vm h vm h' → WP l Z EL nar own nm ds bytes maxL ret R Q vm h' ce sl n Ls rest) : WP l Z EL nar own nm ds bytes maxL ret R Q vm h ce sl pc Ls (.int x :: .int j :: .ref a :: rest) := by
  subst hp hy
  obtain ⟨cl, A1, q1, S1, M1, H1, G1⟩ := A
  refine WP.write ha (fun _ => S) (fun p e s args below T m meth c L hx hb hnm X hZ hown eT => ?_) fun h' W r => k h' W (Arv.set A1 q1 S1 M1 H1 G1 (fits_nar_char _) W i hi hlen) r
  exact stC X hx hZ eT A1 (inb_of S1 hj) (g := mkF m pc Ls (.int x :: .int j :: .ref a :: rest)) rfl rfl (hb ▸ hd)
theorem WP.stB {a : Addr} {cA : ClassId} {z j x y : Int32} {vs : List Value} {d : Value} {i : Nat} (hd : decode bytes pc = .ok (.bastore, 1)) (A : Arv Z h a cA .byte z vs d) (hj : ¬ j < 0 ∧ j < z) (hi : j.toNatClampNeg = i) (hlen : i < vs.length) (hy : Jvm.RoadKit.nar .byte x = y) (ha : Z.heap.size ≤ a) (S : Safe Z EL vm h a) (hp : pc + 1 = n)
    (k : ∀ h', Wr h h' a j.toNatClampNeg (.int y) → Arv Z h' a cA .byte z (vs.set i (.int y)) d → CHr Z EL vm h vm h' → WP l Z EL nar own nm ds bytes maxL ret R Q vm h' ce sl n Ls rest) : WP l Z EL nar own nm ds bytes maxL ret R Q vm h ce sl pc Ls (.int x :: .int j :: .ref a :: rest) := by
  subst hp hy
  obtain ⟨cl, A1, q1, S1, M1, H1, G1⟩ := A
  refine WP.write ha (fun _ => S) (fun p e s args below T m meth c L hx hb hnm X hZ hown eT => ?_) fun h' W r => k h' W (Arv.set A1 q1 S1 M1 H1 G1 (fits_nar_byte _) W i hi hlen) r
  exact stB X hx hZ eT A1 (inb_of S1 hj) (g := mkF m pc Ls (.int x :: .int j :: .ref a :: rest)) rfl rfl (hb ▸ hd)
theorem WP.alen {ty : FieldType} {a : Addr} {cA : ClassId} {z : Int32} {vs : List Value} {d : Value} (hd : decode bytes pc = .ok (.arraylength, 1)) (A : Arv Z h a cA ty z vs d) (hp : pc + 1 = n) (k : WP l Z EL nar own nm ds bytes maxL ret R Q vm h ce sl n Ls (.int z :: rest)) : WP l Z EL nar own nm ds bytes maxL ret R Q vm h ce sl pc Ls (.ref a :: rest) := by
  subst hp
  obtain ⟨cl, A1, -, hz, hz0, -⟩ := A
  refine WP.look (Ls' := Ls) (fun p e s args below T m meth c L hx hb X hZ hown eT => ⟨T, X, eT, fun target q => ?_⟩) k
  refine X.arraylength hx (cell := cl) (by rw [eT]; exact A1.1) (State.isArrayOf_alike hZ.alike A1.2.1) (g := mkF m pc Ls (.ref a :: rest)) rfl rfl (hb ▸ hd) _ ?_
  rw [len_of hz hz0]
  exact q
theorem WP.initO {idx : Nat} {a : Addr} {Wd : Nat} (hd : decode bytes pc = .ok (.invokespecial idx, 3)) (w1 : (Cond.methodLink own idx Lib.objectInit).before a0 Z = true) (w2 : (Cond.instanceMethod Lib.objectInit).before a0 Z = true) (w3 : (Cond.code Lib.objectInit ⟨#[0xb1]⟩ 1 none).before a0 Z = true) (hsize : Ls.size = maxL) (hf : 1 ≤ R.frames) (hW : (rest.map fun v => v.category).sum ≤ Wd) (hl : Wd + 12 ≤ R.locals) (hp : pc + 3 = n)
    (k : WP l Z EL nar own nm ds bytes maxL ret R Q vm h ce sl n Ls rest) : WP l Z EL nar own nm ds bytes maxL ret R Q vm h ce sl pc Ls (.ref a :: rest) := by
  subst hp
  intro p e s m args below meth c T L cx ⟨X, hS, hZ, hown, eT, N, hE, hC, hW', hEL⟩
  obtain ⟨T', X', e', stp⟩ := initO X cx.1 hZ hown w1 w2 w3 eT (g := mkF m pc Ls (.ref a :: rest)) rfl (by rw [cx.2.2.1]; exact hsize) rfl (cx.2.1 ▸ hd) hf (W := Wd) (by show 2 * 0 + _ ≤ _; omega) hl
  obtain ⟨t, o, h1, r⟩ := k p e s m args below meth c T' L cx ⟨X', hS, hZ, hown, e', N, hE, hC, hW', hEL⟩
  exact ⟨t, o, stp _ h1, r⟩
theorem WP.retV (hd : decode bytes pc = .ok (.return_, 1)) (hr : ret = none) (hc : ce ≤ R.cells) (hsl : sl ≤ R.slots) (hq : Q none h) : WP l Z EL nar own nm ds bytes maxL ret R Q vm h ce sl pc Ls [] :=
  WP.done (v := none) hc hsl (fun _ => rfl) (fun p e s args below T m meth c L fs hx hb hret X hl => X.returnOut hx (hret.trans hr) (hb ▸ hd) hl) hq
theorem WP.retI {x : Int32} (hd : decode bytes pc = .ok (.ireturn, 1)) (hr : ret = some .int) (hc : ce ≤ R.cells) (hsl : sl ≤ R.slots) (hq : Q (some (.int x)) h) : WP l Z EL nar own nm ds bytes maxL ret R Q vm h ce sl pc Ls (.int x :: rest) :=
  WP.done (v := some (.int x)) hc hsl (fun q => by rw [hr] at q; cases q) (fun p e s args below T m meth c L fs hx hb hret X hl => retOut X hx (t := .int) (hret.trans hr) rfl (Or.inl ⟨rfl, Or.inl rfl, x, rfl⟩) (hb ▸ hd) hl) hq
theorem WP.retN {t : FieldType} {x z : Int32} (hd : decode bytes pc = .ok (.ireturn, 1)) (hr : ret = some t) (ht : t = .boolean ∨ t = .byte ∨ t = .char ∨ t = .short) (hz : Jvm.RoadKit.nar t x = z) (hc : ce ≤ R.cells) (hsl : sl ≤ R.slots) (hq : Q (some (.int z)) h) : WP l Z EL nar own nm ds bytes maxL ret R Q vm h ce sl pc Ls (.int x :: rest) := by
  subst hz
  exact WP.done (v := some (.int (Jvm.RoadKit.nar t x))) hc hsl (fun q => by rw [hr] at q; cases q) (fun p e s args below T m meth c L fs hx hb hret X hl => Jvm.RoadKit.retN X hx (hret.trans hr) ht (hb ▸ hd) hl) hq
theorem WP.retA {t : FieldType} {v : Value} (hd : decode bytes pc = .ok (.areturn, 1)) (hr : ret = some t) (ht : t.isReference = true) (hv : v.isRef = true) (hn : narrow t v = v) (hc : ce ≤ R.cells) (hsl : sl ≤ R.slots) (hq : Q (some v) h) : WP l Z EL nar own nm ds bytes maxL ret R Q vm h ce sl pc Ls (v :: rest) :=
  WP.done (v := some v) hc hsl (fun q => by rw [hr] at q; cases q) (fun p e s args below T m meth c L fs hx hb hret X hl => retOut X hx (t := t) (hret.trans hr) hn (Or.inr (Or.inr (Or.inr (Or.inr ⟨rfl, ht, hv⟩)))) (hb ▸ hd) hl) hq
theorem WP.callS {sf : List Addr} {y : MethodName} {yb : ByteArray} {yl : Nat} {yr : Option FieldType} {rm : Room} {as' : Array Value} {Qy : Option Value → Heap → Prop} {index Wd ce' sl' : Nat} (C : Con l Z EL nar sf y yb yl yr rm as' h Qy) (hd : decode bytes pc = .ok (.invokestatic index, 3)) (w1 : (Cond.methodLink own index y).before a0 Z = true) (w2 : (Cond.static y).before a0 Z = true) (wz : (Cond.initialized y.cls).before a0 Z = true) (wc : (Cond.code y yb yl yr).before a0 Z = true) (hy : y.cls ≠ "java/lang/invoke/MethodHandle" ∧ y.cls ≠ "java/lang/invoke/VarHandle") (hsf : ∀ x ∈ sf, Safe Z EL vm h x ∧ x < h.size) (hf : rm.frames + 1 ≤ R.frames) (hl : Wd + (yl + 11) + rm.locals ≤ R.locals) (hce : ce + rm.cells = ce') (hsl : sl + rm.slots = sl') (hc : ce' ≤ R.cells) (hs : sl' ≤ R.slots) (hsize : Ls.size = maxL) {argsL : List Value} (hargs : argsL.toArray = as') (hlen : ∀ sig, parseMethodDescriptor y.desc = some sig → argsL.length = sig.parameters.length) (hst : st = argsL.reverse ++ rest) (hWd : (rest.map fun v => v.category).sum ≤ Wd) (hp : pc + 3 = n)
    (k : ∀ v vm' h', Qy v h' → CHr Z EL vm h vm' h' → WP l Z EL nar own nm ds bytes maxL ret R Q vm' h' ce' sl' n Ls (v.toList ++ rest)) : WP l Z EL nar own nm ds bytes maxL ret R Q vm h ce sl pc Ls st := by
  subst hp hce hsl
  intro p e s m args below meth c T L cx ⟨X, ⟨k0, hS, hk⟩, hZ, hown, eT, N, hE, hC, hW', a1, hEL⟩
  have hB := C.back (R := R) (p := p) (e := e) (below := below) (s := s) (args := args) (len := 3) (Wd := Wd) hEL hZ wc wz hf hl hE hC.1 hsf
  obtain ⟨v, vm₁, ⟨U, L', ke, ks⟩, hw1, X', hS', hg', ⟨Lq, q1, q2, q3, q4, q5, q6, q7, q8⟩, stp⟩ := callSS X cx.1 hown (mvT (s := s.setVm vm) hZ w1) (mvT (s := s.setVm vm) hZ w2) (mvT (s := s.setVm vm) hZ wz) (mvT (s := s.setVm vm) hZ wc) hy hB (g := mkF m pc Ls st) rfl (by rw [cx.2.2.1]; exact hsize) (argsL := argsL) (rest := rest) hlen hst (by show 2 * 0 + _ ≤ _; omega) (cx.2.1 ▸ hd) (fun _ _ => ⟨hargs, eT, hc, hs⟩)
  dsimp only [Pt.U, Pt.locs, Pt.cells, Pt.slots] at X' hS' hg' q1 q2 q4 q5 q6 q7 q8 stp
  subst q4 q5 q6
  obtain ⟨t, o, h1, r⟩ := k v U.vm U.heap q1 q7 p e s m args below meth c U _ cx ⟨X', ⟨_, hS.trans hS' (Nat.le_trans hk (by rw [← eT]; exact hg')), Nat.le_refl _⟩, State.Warmed39.trans (t := s.setVm vm) hZ hS'.1, (hS'.1.alike.findClass _ _).trans hown, rfl, Fr.app N q3, q2, hC.trans q7, fun q => State.WarmedH.trans (t := s.setVm vm) (hW' q) (q8 q), a1, hEL⟩
  exact ⟨t, o, stp.trans h1, r⟩
theorem WP.callP {sf : List Addr} {y : MethodName} {yb : ByteArray} {yl : Nat} {rm : Room} {as' : Array Value} {Qy : Option Value → Heap → Prop} {index Wd ce' sl' : Nat} (C : Con l Z EL nar sf y yb yl none rm as' h Qy) (hd : decode bytes pc = .ok (.invokespecial index, 3)) (hy1 : y.name = "<init>") (w1 : (Cond.methodLink own index y).before a0 Z = true) (w2 : (Cond.instanceMethod y).before a0 Z = true) (wz : (Cond.initialized y.cls).before a0 Z = true) (wc : (Cond.code y yb yl none).before a0 Z = true) (hy : y.cls ≠ "java/lang/invoke/MethodHandle" ∧ y.cls ≠ "java/lang/invoke/VarHandle") (hsf : ∀ x ∈ sf, Safe Z EL vm h x ∧ x < h.size) (hf : rm.frames + 1 ≤ R.frames) (hl : Wd + (yl + 11) + rm.locals ≤ R.locals) (hce : ce + rm.cells = ce') (hsl : sl + rm.slots = sl') (hc : ce' ≤ R.cells) (hs : sl' ≤ R.slots) (hsize : Ls.size = maxL) {a : Addr} {argsL : List Value} (hargs : (Value.ref a :: argsL).toArray = as') (hlen : ∀ sig, parseMethodDescriptor y.desc = some sig → argsL.length = sig.parameters.length) (hst : st = argsL.reverse ++ .ref a :: rest) (hWd : (rest.map fun v => v.category).sum ≤ Wd) (hp : pc + 3 = n)
    (k : ∀ v vm' h', Qy v h' → CHr Z EL vm h vm' h' → WP l Z EL nar own nm ds bytes maxL ret R Q vm' h' ce' sl' n Ls (v.toList ++ rest)) : WP l Z EL nar own nm ds bytes maxL ret R Q vm h ce sl pc Ls st := by
  subst hp hce hsl
  intro p e s m args below meth c T L cx ⟨X, ⟨k0, hS, hk⟩, hZ, hown, eT, N, hE, hC, hW', a1, hEL⟩
  have hB := C.back (R := R) (p := p) (e := e) (below := below) (s := s) (args := args) (len := 3) (Wd := Wd) hEL hZ wc wz hf hl hE hC.1 hsf
  obtain ⟨v, vm₁, ⟨U, L', ke, ks⟩, hw1, X', hS', hg', ⟨Lq, q1, q2, q3, q4, q5, q6, q7, q8⟩, stp⟩ := X.specialBackS cx.1 hy1 hown (mvT (s := s.setVm vm) hZ w1) (mvT (s := s.setVm vm) hZ w2) (mvT (s := s.setVm vm) hZ wc) hy hB (g := mkF m pc Ls st) rfl (by rw [cx.2.2.1]; exact hsize) (Steps.refl _) (a := a) (argsL := argsL) (rest := rest) hlen hst (by show 2 * 0 + _ ≤ _; omega) (cx.2.1 ▸ hd) (fun _ _ => ⟨hargs, eT, hc, hs⟩)
  dsimp only [Pt.U, Pt.locs, Pt.cells, Pt.slots] at X' hS' hg' q1 q2 q4 q5 q6 q7 q8 stp
  subst q4 q5 q6
  obtain ⟨t, o, h1, r⟩ := k v U.vm U.heap q1 q7 p e s m args below meth c U _ cx ⟨X', ⟨_, hS.trans hS' (Nat.le_trans hk (by rw [← eT]; exact hg')), Nat.le_refl _⟩, State.Warmed39.trans (t := s.setVm vm) hZ hS'.1, (hS'.1.alike.findClass _ _).trans hown, rfl, Fr.app N q3, q2, hC.trans q7, fun q => State.WarmedH.trans (t := s.setVm vm) (hW' q) (q8 q), a1, hEL⟩
  exact ⟨t, o, stp.trans h1, r⟩
theorem WP.callV {sf : List Addr} {y : MethodName} {yb : ByteArray} {yl : Nat} {yr : Option FieldType} {rm : Room} {as' : Array Value} {Qy : Option Value → Heap → Prop} {index Wd ce' sl' : Nat} {x : MethodName} {Cn : String} {a : Addr} (C : Con l Z EL nar sf y yb yl yr rm as' h Qy) (E : Exa Z h a Cn) (hd : decode bytes pc = .ok (.invokevirtual index, 3)) (w1 : (Cond.methodLink own index x).before a0 Z = true) (w2 : (Cond.declares x).before a0 Z = true) (w3 : (Cond.selects Cn x y).before a0 Z = true) (w4 : (Cond.instanceMethod y).before a0 Z = true) (wz : (Cond.initialized y.cls).before a0 Z = true) (wc : (Cond.code y yb yl yr).before a0 Z = true) (hy : x.cls ≠ "java/lang/invoke/MethodHandle" ∧ x.cls ≠ "java/lang/invoke/VarHandle") (hnf : ∀ s : State, Z.Warmed39 s.vm → NotFace s x) (hsf : ∀ x ∈ sf, Safe Z EL vm h x ∧ x < h.size) (hf : rm.frames + 1 ≤ R.frames) (hl : Wd + (yl + 11) + rm.locals ≤ R.locals) (hce : ce + rm.cells = ce') (hsl : sl + rm.slots = sl') (hc : ce' ≤ R.cells) (hs : sl' ≤ R.slots) (hsize : Ls.size = maxL) {argsL : List Value} (hargs : (Value.ref a :: argsL).toArray = as') (hlen : ∀ sig, parseMethodDescriptor x.desc = some sig → argsL.length = sig.parameters.length) (hst : st = argsL.reverse ++ .ref a :: rest) (hWd : (rest.map fun v => v.category).sum ≤ Wd) (hp : pc + 3 = n)
    (k : ∀ v vm' h', Qy v h' → CHr Z EL vm h vm' h' → WP l Z EL nar own nm ds bytes maxL ret R Q vm' h' ce' sl' n Ls (v.toList ++ rest)) : WP l Z EL nar own nm ds bytes maxL ret R Q vm h ce sl pc Ls st := by
  subst hp hce hsl
  intro p e s m args below meth c T L cx ⟨X, ⟨k0, hS, hk⟩, hZ, hown, eT, N, hE, hC, hW', a1, hEL⟩
  have hB := C.back (R := R) (p := p) (e := e) (below := below) (s := s) (args := args) (len := 3) (Wd := Wd) hEL hZ wc wz hf hl hE hC.1 hsf
  obtain ⟨cq, kq, qa, qb, qc⟩ := isOf (s := s.setVm vm) hZ eT E
  obtain ⟨v, vm₁, ⟨U, L', ke, ks⟩, hw1, X', hS', hg', ⟨Lq, q1, q2, q3, q4, q5, q6, q7, q8⟩, stp⟩ := X.virtualBackS cx.1 hown (mvT (s := s.setVm vm) hZ w1) (mvT (s := s.setVm vm) hZ w2) (hnf _ hZ) (mvT (s := s.setVm vm) hZ w3) (mvT (s := s.setVm vm) hZ w4) hy hB qa qc (g := mkF m pc Ls st) rfl (by rw [cx.2.2.1]; exact hsize) (Steps.refl _) (argsL := argsL) (rest := rest) hlen hst (by show 2 * 0 + _ ≤ _; omega) (cx.2.1 ▸ hd) (fun _ _ => ⟨hargs, eT, hc, hs⟩)
  dsimp only [Pt.U, Pt.locs, Pt.cells, Pt.slots] at X' hS' hg' q1 q2 q4 q5 q6 q7 q8 stp
  subst q4 q5 q6
  obtain ⟨t, o, h1, r⟩ := k v U.vm U.heap q1 q7 p e s m args below meth c U _ cx ⟨X', ⟨_, hS.trans hS' (Nat.le_trans hk (by rw [← eT]; exact hg')), Nat.le_refl _⟩, State.Warmed39.trans (t := s.setVm vm) hZ hS'.1, (hS'.1.alike.findClass _ _).trans hown, rfl, Fr.app N q3, q2, hC.trans q7, fun q => State.WarmedH.trans (t := s.setVm vm) (hW' q) (q8 q), a1, hEL⟩
  exact ⟨t, o, stp.trans h1, r⟩
theorem WP.backP {y : MethodName} {as' : Array Value} {Qy : Option Value → Heap → List Loc → Prop} {index Wd kc ks ce' sl' : Nat} {yb : ByteArray} {yl : Nat} (hK : ∀ (p : Program) (e : Env) (below : List Frame) (s : State) (args : Array Value), Z.Warmed39 (s.setVm vm).vm → Back l R p e below (s.setVm vm) args y 3 Wd (fun A a => a = as' ∧ A.U.heap = h ∧ A.cells + kc ≤ R.cells ∧ A.slots + ks ≤ R.slots) (fun A _ v B => ∃ L, Qy v B.U.heap L ∧ B.locs = A.locs ++ L ∧ B.cells = A.cells + kc ∧ B.slots = A.slots + ks)) (hq : ∀ v h' L, Qy v h' L → Fr Z.heap.size L ∧ Ext Z.heap h' ∧ CHr Z EL vm h vm h') (hd : decode bytes pc = .ok (.invokespecial index, 3)) (hy1 : y.name = "<init>") (w1 : (Cond.methodLink own index y).before a0 Z = true) (w2 : (Cond.instanceMethod y).before a0 Z = true) (wc : (Cond.code y yb yl none).before a0 Z = true) (hy : y.cls ≠ "java/lang/invoke/MethodHandle" ∧ y.cls ≠ "java/lang/invoke/VarHandle") (hce : ce + kc = ce') (hsl : sl + ks = sl') (hc : ce' ≤ R.cells) (hs : sl' ≤ R.slots) (hsize : Ls.size = maxL) {a : Addr} {argsL : List Value} (hargs : (Value.ref a :: argsL).toArray = as') (hlen : ∀ sig, parseMethodDescriptor y.desc = some sig → argsL.length = sig.parameters.length) (hst : st = argsL.reverse ++ .ref a :: rest) (hWd : (rest.map fun v => v.category).sum ≤ Wd) (hp : pc + 3 = n)
    (k : ∀ v h' L, Qy v h' L → CHr Z EL vm h vm h' → WP l Z EL nar own nm ds bytes maxL ret R Q vm h' ce' sl' n Ls (v.toList ++ rest)) : WP l Z EL nar own nm ds bytes maxL ret R Q vm h ce sl pc Ls st := by
  subst hp hce hsl
  intro p e s m args below meth c T L cx ⟨X, ⟨k0, hS, hk⟩, hZ, hown, eT, N, hE, hC, hW', a1, hEL⟩
  obtain ⟨v, vm₁, ⟨U, L', ke, ks'⟩, hw1, X', ⟨Lq, q1, q4, q5, q6⟩, stp⟩ := X.specialBack cx.1 hy1 hown (mvT (s := s.setVm vm) hZ w1) (mvT (s := s.setVm vm) hZ w2) (mvT (s := s.setVm vm) hZ wc) hy (hK p e below s args hZ) (g := mkF m pc Ls st) rfl (by rw [cx.2.2.1]; exact hsize) (Steps.refl _) (a := a) (argsL := argsL) (rest := rest) hlen hst (by show 2 * 0 + _ ≤ _; omega) (cx.2.1 ▸ hd) (fun _ _ => ⟨hargs, eT, hc, hs⟩)
  dsimp only [Pt.U, Pt.locs, Pt.cells, Pt.slots] at X' q1 q4 q5 q6 stp
  subst q4 q5 q6
  obtain ⟨r1, r2, r3⟩ := hq _ _ _ q1
  obtain ⟨t, o, h1, r⟩ := k v U.heap Lq q1 r3 p e s m args below meth c U _ cx ⟨X', ⟨k0, hS, Nat.le_trans hk r3.2.1⟩, hZ, hown, rfl, Fr.app N r1, r2, hC.trans r3, hW', a1, hEL⟩
  exact ⟨t, o, stp.trans h1, r⟩
theorem WP.backV {y : MethodName} {as' : Array Value} {Qy : Option Value → Heap → List Loc → Prop} {index Wd kc ks ce' sl' : Nat} {x : MethodName} {Cn : String} {a : Addr} (hK : ∀ (p : Program) (e : Env) (below : List Frame) (s : State) (args : Array Value), Z.Warmed39 (s.setVm vm).vm → Back l R p e below (s.setVm vm) args y 3 Wd (fun A a => a = as' ∧ A.U.heap = h ∧ A.cells + kc ≤ R.cells ∧ A.slots + ks ≤ R.slots) (fun A _ v B => ∃ L, Qy v B.U.heap L ∧ B.locs = A.locs ++ L ∧ B.cells = A.cells + kc ∧ B.slots = A.slots + ks)) (hq : ∀ v h' L, Qy v h' L → Fr Z.heap.size L ∧ Ext Z.heap h' ∧ CHr Z EL vm h vm h') (E : Exa Z h a Cn) (hd : decode bytes pc = .ok (.invokevirtual index, 3)) (w1 : (Cond.methodLink own index x).before a0 Z = true) (w2 : (Cond.declares x).before a0 Z = true) (w3 : (Cond.selects Cn x y).before a0 Z = true) (w4 : (Cond.instanceMethod y).before a0 Z = true) (hy : x.cls ≠ "java/lang/invoke/MethodHandle" ∧ x.cls ≠ "java/lang/invoke/VarHandle") (hnf : ∀ s : State, Z.Warmed39 s.vm → NotFace s x) (hce : ce + kc = ce') (hsl : sl + ks = sl') (hc : ce' ≤ R.cells) (hs : sl' ≤ R.slots) (hsize : Ls.size = maxL) {argsL : List Value} (hargs : (Value.ref a :: argsL).toArray = as') (hlen : ∀ sig, parseMethodDescriptor x.desc = some sig → argsL.length = sig.parameters.length) (hst : st = argsL.reverse ++ .ref a :: rest) (hWd : (rest.map fun v => v.category).sum ≤ Wd) (hp : pc + 3 = n)
    (k : ∀ v h' L, Qy v h' L → CHr Z EL vm h vm h' → WP l Z EL nar own nm ds bytes maxL ret R Q vm h' ce' sl' n Ls (v.toList ++ rest)) : WP l Z EL nar own nm ds bytes maxL ret R Q vm h ce sl pc Ls st := by
  subst hp hce hsl
  intro p e s m args below meth c T L cx ⟨X, ⟨k0, hS, hk⟩, hZ, hown, eT, N, hE, hC, hW', a1, hEL⟩
  obtain ⟨cq, kq, qa, qb, qc⟩ := isOf (s := s.setVm vm) hZ eT E
  obtain ⟨v, vm₁, ⟨U, L', ke, ks'⟩, hw1, X', ⟨Lq, q1, q4, q5, q6⟩, stp⟩ := X.virtualBack cx.1 hown (mvT (s := s.setVm vm) hZ w1) (mvT (s := s.setVm vm) hZ w2) (hnf _ hZ) (mvT (s := s.setVm vm) hZ w3) (mvT (s := s.setVm vm) hZ w4) hy (hK p e below s args hZ) qa qc (g := mkF m pc Ls st) rfl (by rw [cx.2.2.1]; exact hsize) (Steps.refl _) (argsL := argsL) (rest := rest) hlen hst (by show 2 * 0 + _ ≤ _; omega) (cx.2.1 ▸ hd) (fun _ _ => ⟨hargs, eT, hc, hs⟩)
  dsimp only [Pt.U, Pt.locs, Pt.cells, Pt.slots] at X' q1 q4 q5 q6 stp
  subst q4 q5 q6
  obtain ⟨r1, r2, r3⟩ := hq _ _ _ q1
  obtain ⟨t, o, h1, r⟩ := k v U.heap Lq q1 r3 p e s m args below meth c U _ cx ⟨X', ⟨k0, hS, Nat.le_trans hk r3.2.1⟩, hZ, hown, rfl, Fr.app N r1, r2, hC.trans r3, hW', a1, hEL⟩
  exact ⟨t, o, stp.trans h1, r⟩
theorem WP.ldcO {index : Nat} {text : String} {nn ce' sl' : Nat} (hd : decode bytes pc = .ok (.ldc index, 2)) (hnar : nar = false) (w : (Cond.stringLink own index text).before a0 Z = true) (wS : ∀ a ∈ Bundle.stringAtoms, a.before a0 Z = true) (hn : 4 * text.toList.length ≤ nn) (hbig : nn ≤ 536870912) (hce : ce + 2 = ce') (hsl : sl + (nn + 4) = sl') (hc : ce' ≤ R.cells) (hl : sl' ≤ R.slots) (hEL : EW Z a0 EL) (hp : pc + 2 = n)
    (k : ∀ a vm' h', Ext h h' → CHr Z EL vm h vm' h' → WP l Z EL nar own nm ds bytes maxL ret R Q vm' h' ce' sl' n Ls (.ref a :: st)) : WP l Z EL nar own nm ds bytes maxL ret R Q vm h ce sl pc Ls st := by
  subst hp hce hsl
  intro p e s m args below meth c T L cx ⟨X, ⟨k0, hS, hk⟩, hZ, hown, eT, N, hE, hC, hW', hEL'⟩
  obtain ⟨a, T', h', k1, X', e', E', hS', hk', hZ', hown', hr, -, stp⟩ := ldcOH X cx.1 hZ hown w wS eT hS hk hEL hC.1 (g := mkF m pc Ls st) rfl (cx.2.1 ▸ hd) hn hbig hc hl
  obtain ⟨t, o, h1, r⟩ := k a T'.vm h' E' hr p e s m args below meth c T' L cx ⟨X', ⟨k1, hS', hk'⟩, hZ', hown', e', N, ext_trans hE E', hC.trans hr, (fun q => by rw [hnar] at q; cases q), hEL'⟩
  exact ⟨t, o, stp _ h1, r⟩
theorem WP.ldcC {index : Nat} {text : String} {nn ce' sl' : Nat} {vs : List Value} {z : Int32} (hd : decode bytes pc = .ok (.ldc index, 2)) (hnar : nar = false) (w : (Cond.stringLink own index text).before a0 Z = true) (wS : ∀ a ∈ Bundle.stringAtoms, a.before a0 Z = true) (hmem : (own, index) ∈ EL) (ht : (∀ c ∈ text.toList, c.toNat < 256) ∧ text.toList.map (fun c => Value.int (Jvm.Lit.byteI c.toNat.toUInt16)) = vs) (hz : ¬ z < 0) (hzl : z.toNatClampNeg = vs.length) (hn : 4 * text.toList.length ≤ nn) (hbig : nn ≤ 536870912) (hce : ce + 2 = ce') (hsl : sl + (nn + 4) = sl') (hc : ce' ≤ R.cells) (hl : sl' ≤ R.slots) (hEL : EW Z a0 EL) (hp : pc + 2 = n)
    (k : ∀ a b kb vm' h', Ext h h' → CHr Z EL vm h vm' h' → Exa Z h' a "java/lang/String" → Fld Z h' a "java/lang/String" "coder" "B" (.int 0) → Fld Z h' a "java/lang/String" "value" "[B" (.ref b) → Arv Z h' b kb .byte z vs (.int 0) → Lit (Z.setVm vm') own index a → (∀ x, Safe Z EL vm' h' x → x ≠ a ∧ x ≠ b) → WP l Z EL nar own nm ds bytes maxL ret R Q vm' h' ce' sl' n Ls (.ref a :: st)) : WP l Z EL nar own nm ds bytes maxL ret R Q vm h ce sl pc Ls st := by
  subst hp hce hsl
  intro p e s m args below meth c T L cx ⟨X, ⟨k0, hS, hk⟩, hZ, hown, eT, N, hE, hC, hW', hEL'⟩
  obtain ⟨a, T', h', k1, b, kb, X', e', E', hS', hk', hZ', hown', f1, f2, f3, f4, -, -, hr, hLi, hNe, stp⟩ := ldcCH X cx.1 hZ hown w wS eT hS hk hEL hmem hC.1 ht hz hzl (g := mkF m pc Ls st) rfl (cx.2.1 ▸ hd) hn hbig hc hl
  obtain ⟨t, o, h1, r⟩ := k a b kb T'.vm h' E' hr f1 f2 f3 f4 hLi hNe p e s m args below meth c T' L cx ⟨X', ⟨k1, hS', hk'⟩, hZ', hown', e', N, ext_trans hE E', hC.trans hr, (fun q => by rw [hnar] at q; cases q), hEL'⟩
  exact ⟨t, o, stp _ h1, r⟩
theorem WP.baload {a : Addr} {cA : ClassId} {z j : Int32} {vs : List Value} {d v : Value} (hd : decode bytes pc = .ok (.baload, 1)) (A : Arv Z h a cA .byte z vs d) (hj : ¬ j < 0 ∧ j < z) (hv : vs.getD j.toNatClampNeg d = v) (hp : pc + 1 = n) (k : WP l Z EL nar own nm ds bytes maxL ret R Q vm h ce sl n Ls (v :: rest)) : WP l Z EL nar own nm ds bytes maxL ret R Q vm h ce sl pc Ls (.int j :: .ref a :: rest) := by
  subst hp
  obtain ⟨cl, A1, q1, S1, M1, H1, G1⟩ := A
  refine WP.look (Ls' := Ls) (fun p e s args below T m meth c L hx hb X hZ hown eT => ⟨T, X, eT, fun target q => ?_⟩) k
  exact X.baloadBytes hx (j := j) (v := v) (by rw [eT]; exact A1.1) (State.isArrayOf_alike hZ.alike A1.2.1) A1.2.2 (inb_of S1 hj) (H1.at (inb_of S1 hj) hv) (g := mkF m pc Ls (.int j :: .ref a :: rest)) rfl rfl (hb ▸ hd) _ q
theorem WP.caload {a : Addr} {cA : ClassId} {z j : Int32} {vs : List Value} {d v : Value} (hd : decode bytes pc = .ok (.caload, 1)) (A : Arv Z h a cA .char z vs d) (hj : ¬ j < 0 ∧ j < z) (hv : vs.getD j.toNatClampNeg d = v) (hp : pc + 1 = n) (k : WP l Z EL nar own nm ds bytes maxL ret R Q vm h ce sl n Ls (v :: rest)) : WP l Z EL nar own nm ds bytes maxL ret R Q vm h ce sl pc Ls (.int j :: .ref a :: rest) := by
  subst hp
  obtain ⟨cl, A1, q1, S1, M1, H1, G1⟩ := A
  refine WP.look (Ls' := Ls) (fun p e s args below T m meth c L hx hb X hZ hown eT => ⟨T, X, eT, fun target q => ?_⟩) k
  exact X.caload hx (j := j) (v := v) (by rw [eT]; exact A1.1) (State.isArrayOf_alike hZ.alike A1.2.1) A1.2.2 (inb_of S1 hj) (H1.at (inb_of S1 hj) hv) (g := mkF m pc Ls (.int j :: .ref a :: rest)) rfl rfl (hb ▸ hd) _ q
theorem WP.iaload {a : Addr} {cA : ClassId} {z j : Int32} {vs : List Value} {d v : Value} (hd : decode bytes pc = .ok (.iaload, 1)) (A : Arv Z h a cA .int z vs d) (hj : ¬ j < 0 ∧ j < z) (hv : vs.getD j.toNatClampNeg d = v) (hp : pc + 1 = n) (k : WP l Z EL nar own nm ds bytes maxL ret R Q vm h ce sl n Ls (v :: rest)) : WP l Z EL nar own nm ds bytes maxL ret R Q vm h ce sl pc Ls (.int j :: .ref a :: rest) := by
  subst hp
  obtain ⟨cl, A1, q1, S1, M1, H1, G1⟩ := A
  refine WP.look (Ls' := Ls) (fun p e s args below T m meth c L hx hb X hZ hown eT => ⟨T, X, eT, fun target q => ?_⟩) k
  exact X.iaload hx (j := j) (v := v) (by rw [eT]; exact A1.1) (State.isArrayOf_alike hZ.alike A1.2.1) A1.2.2 (inb_of S1 hj) (H1.at (inb_of S1 hj) hv) (g := mkF m pc Ls (.int j :: .ref a :: rest)) rfl rfl (hb ▸ hd) _ q
theorem WP.castY {K : String} {index : Nat} {a : Addr} (hd : decode bytes pc = .ok (.checkcast index, 3)) (w : (Cond.classLink own index K).before a0 Z = true) (F : Ins Z h a K true) (hp : pc + 3 = n) (k : WP l Z EL nar own nm ds bytes maxL ret R Q vm h ce sl n Ls (.ref a :: rest)) : WP l Z EL nar own nm ds bytes maxL ret R Q vm h ce sl pc Ls (.ref a :: rest) := by
  subst hp
  refine WP.look (fun p e s args below T m meth c L hx hb X hZ hown eT => ?_) k
  exact castY X hx hZ hown w eT F (g := mkF m pc Ls (.ref a :: rest)) rfl rfl (hb ▸ hd)
theorem WP.instY {K : String} {index : Nat} {a : Addr} (hd : decode bytes pc = .ok (.instanceof index, 3)) (w : (Cond.classLink own index K).before a0 Z = true) (F : Ins Z h a K true) (hp : pc + 3 = n) (k : WP l Z EL nar own nm ds bytes maxL ret R Q vm h ce sl n Ls (.int 1 :: rest)) : WP l Z EL nar own nm ds bytes maxL ret R Q vm h ce sl pc Ls (.ref a :: rest) := by
  subst hp
  refine WP.look (fun p e s args below T m meth c L hx hb X hZ hown eT => ?_) k
  exact instY X hx hZ hown w eT F (g := mkF m pc Ls (.ref a :: rest)) rfl rfl (hb ▸ hd)
theorem WP.instNo {K C : String} {index : Nat} {a : Addr} (hd : decode bytes pc = .ok (.instanceof index, 3)) (w : (Cond.classLink own index K).before a0 Z = true) (E : Exa Z h a C) (F : ∃ c t, Z.vm.findClass C = some c ∧ Z.vm.findClass K = some t ∧ Z.vm.assignable c t = false) (hp : pc + 3 = n) (k : WP l Z EL nar own nm ds bytes maxL ret R Q vm h ce sl n Ls (.int 0 :: rest)) : WP l Z EL nar own nm ds bytes maxL ret R Q vm h ce sl pc Ls (.ref a :: rest) := by
  subst hp
  refine WP.look (fun p e s args below T m meth c L hx hb X hZ hown eT => ?_) k
  exact instNo X hx hZ hown w eT E F (g := mkF m pc Ls (.ref a :: rest)) rfl rfl (hb ▸ hd)
theorem WP.instNull {index : Nat} (hd : decode bytes pc = .ok (.instanceof index, 3)) (hp : pc + 3 = n) (k : WP l Z EL nar own nm ds bytes maxL ret R Q vm h ce sl n Ls (.int 0 :: rest)) : WP l Z EL nar own nm ds bytes maxL ret R Q vm h ce sl pc Ls (.null :: rest) := by
  subst hp
  refine WP.look (Ls' := Ls) (fun p e s args below T m meth c L hx hb X hZ hown eT => ⟨T, X, eT, fun target q => ?_⟩) k
  exact X.instanceofNull hx (g := mkF m pc Ls (.null :: rest)) rfl rfl (hb ▸ hd) _ q
theorem WP.castNull {index : Nat} (hd : decode bytes pc = .ok (.checkcast index, 3)) (hp : pc + 3 = n) (k : WP l Z EL nar own nm ds bytes maxL ret R Q vm h ce sl n Ls (.null :: rest)) : WP l Z EL nar own nm ds bytes maxL ret R Q vm h ce sl pc Ls (.null :: rest) := by
  subst hp
  refine WP.look (Ls' := Ls) (fun p e s args below T m meth c L hx hb X hZ hown eT => ⟨T, X, eT, fun target q => ?_⟩) k
  exact X.checkcastNull hx (g := mkF m pc Ls (.null :: rest)) rfl rfl (hb ▸ hd) _ q
theorem WP.ldcA {index : Nat} {text : String} {a : Addr} (hd : decode bytes pc = .ok (.ldc index, 2)) (w : (Cond.stringLink own index text).before a0 Z = true) (Li : Lit (Z.setVm vm) own index a) (hp : pc + 2 = n) (k : WP l Z EL nar own nm ds bytes maxL ret R Q vm h ce sl n Ls (.ref a :: st)) : WP l Z EL nar own nm ds bytes maxL ret R Q vm h ce sl pc Ls st := by
  subst hp
  refine WP.look (Ls' := Ls) (fun p e s args below T m meth c L hx hb X hZ hown eT => ⟨T, X, eT, fun target q => ?_⟩) k
  exact ldcAgain X hx hZ hown w Li (g := mkF m pc Ls st) rfl (hb ▸ hd) _ q
theorem WP.backS {y : MethodName} {as' : Array Value} {Qy : Option Value → Heap → List Loc → Prop} {index Wd kc ks ce' sl' : Nat} {yb : ByteArray} {yl : Nat} {yr : Option FieldType} (hK : ∀ (p : Program) (e : Env) (below : List Frame) (s : State) (args : Array Value), Z.Warmed39 (s.setVm vm).vm → Back l R p e below (s.setVm vm) args y 3 Wd (fun A a => a = as' ∧ A.U.heap = h ∧ A.cells + kc ≤ R.cells ∧ A.slots + ks ≤ R.slots) (fun A _ v B => ∃ L, Qy v B.U.heap L ∧ B.locs = A.locs ++ L ∧ B.cells = A.cells + kc ∧ B.slots = A.slots + ks)) (hq : ∀ v h' L, Qy v h' L → Fr Z.heap.size L ∧ Ext Z.heap h' ∧ CHr Z EL vm h vm h') (hd : decode bytes pc = .ok (.invokestatic index, 3)) (w1 : (Cond.methodLink own index y).before a0 Z = true) (w2 : (Cond.static y).before a0 Z = true) (wz : (Cond.initialized y.cls).before a0 Z = true) (wc : (Cond.code y yb yl yr).before a0 Z = true) (hy : y.cls ≠ "java/lang/invoke/MethodHandle" ∧ y.cls ≠ "java/lang/invoke/VarHandle") (hce : ce + kc = ce') (hsl : sl + ks = sl') (hc : ce' ≤ R.cells) (hs : sl' ≤ R.slots) (hsize : Ls.size = maxL) {argsL : List Value} (hargs : argsL.toArray = as') (hlen : ∀ sig, parseMethodDescriptor y.desc = some sig → argsL.length = sig.parameters.length) (hst : st = argsL.reverse ++ rest) (hWd : (rest.map fun v => v.category).sum ≤ Wd) (hp : pc + 3 = n)
    (k : ∀ v h' L, Qy v h' L → CHr Z EL vm h vm h' → WP l Z EL nar own nm ds bytes maxL ret R Q vm h' ce' sl' n Ls (v.toList ++ rest)) : WP l Z EL nar own nm ds bytes maxL ret R Q vm h ce sl pc Ls st := by
  subst hp hce hsl
  intro p e s m args below meth c T L cx ⟨X, ⟨k0, hS, hk⟩, hZ, hown, eT, N, hE, hC, hW', a1, hEL⟩
  obtain ⟨v, vm₁, ⟨U, L', ke, ks'⟩, hw1, X', ⟨Lq, q1, q4, q5, q6⟩, stp⟩ := Jvm.LawKit.callS X cx.1 hown (mvT (s := s.setVm vm) hZ w1) (mvT (s := s.setVm vm) hZ w2) (mvT (s := s.setVm vm) hZ wz) (mvT (s := s.setVm vm) hZ wc) hy (hK p e below s args hZ) (g := mkF m pc Ls st) rfl (by rw [cx.2.2.1]; exact hsize) (argsL := argsL) (rest := rest) hlen hst (by show 2 * 0 + _ ≤ _; omega) (cx.2.1 ▸ hd) (fun _ _ => ⟨hargs, eT, hc, hs⟩)
  dsimp only [Pt.U, Pt.locs, Pt.cells, Pt.slots] at X' q1 q4 q5 q6 stp
  subst q4 q5 q6
  obtain ⟨r1, r2, r3⟩ := hq _ _ _ q1
  obtain ⟨t, o, h1, r⟩ := k v U.heap Lq q1 r3 p e s m args below meth c U _ cx ⟨X', ⟨k0, hS, Nat.le_trans hk r3.2.1⟩, hZ, hown, rfl, Fr.app N r1, r2, hC.trans r3, hW', a1, hEL⟩
  exact ⟨t, o, stp _ h1, r⟩
theorem WP.ldcI {index : Nat} {v : Int32} (hd : decode bytes pc = .ok (.ldc index, 2)) (w : (Cond.constant own index v).before a0 Z = true) (hp : pc + 2 = n) (k : WP l Z EL nar own nm ds bytes maxL ret R Q vm h ce sl n Ls (.int v :: st)) : WP l Z EL nar own nm ds bytes maxL ret R Q vm h ce sl pc Ls st := by
  subst hp
  refine WP.look (Ls' := Ls) (fun p e s args below T m meth c L hx hb X hZ hown eT => ⟨T, X, eT, fun target q => ?_⟩) k
  exact X.ldcInt hx hown (mvT (s := s.setVm vm) hZ w) (g := mkF m pc Ls st) rfl (hb ▸ hd) _ q
end Steps
end Jvm.OwnW
namespace Jvm.OwnW
open Jvm Jvm.ClassFile Sem Op Lib Jvm.Free Jvm.Stand Jvm.LawKit Jvm.RoadKit Bundle Jvm.Free.SB Jvm.Free.SBG
section Priv
variable {p : Program} {l : Launch} {e : Env} {R : Room} {s : State} {m : MethodId} {args : Array Value} {below : List Frame} {meth : Method} {c : Code} {T : State} {locs : List Loc} {cells slots : Nat}
/-- a private method by invokevirtual, its words as the sheet has them (selects of the receiver's class) -/
theorem own_privS (X : Stand p l e R s m args below meth c T locs cells slots) (hexec : p.tables.exec = Jvm.exec) {own C : String} {index : Nat} {y : MethodName} {bytes : ByteArray} {maxL : Nat} {ret : Option FieldType}
    (hown : s.vm.findClass own = some m.cls) (hlink : (Cond.methodLink own index y).before args s = true) (hinst : (Cond.instanceMethod y).before args s = true) (hsel : (Cond.selects C y y).before args s = true)
    (hpriv : s.PrivateAt y) (hcode : (Cond.code y bytes maxL ret).before args s = true) (hy : y.cls ≠ "java/lang/invoke/MethodHandle" ∧ y.cls ≠ "java/lang/invoke/VarHandle")
    {W : Nat} {Pre : Pt → Array Value → Prop} {Post : Pt → Array Value → Option Value → Pt → Prop} (hK : BackS l R p e below s args y 3 W Pre Post)
    {g : JFrame} (hg : g.method = m) (hsize : g.locals.size = c.maxLocals) {a : Addr} {cell : Cell} (hcell : T.heap[a]? = some cell) (hobj : ∀ q, cell.vm ≠ .statics q)
    {argsL rest : List Value} (hlen : ∀ sig, parseMethodDescriptor y.desc = some sig → argsL.length = sig.parameters.length)
    (hstack : g.stack = argsL.reverse ++ .ref a :: rest) (hW : 2 * g.monitorRoom + (rest.map fun v => v.category).sum ≤ W) (hdg : decode c.code g.pc = .ok (.invokevirtual index, 3))
    (hpre : ∀ vm₁, s.WarmedH vm₁ → Pre ⟨T.setVm vm₁, locs, cells, slots⟩ (.ref a :: argsL).toArray) :
    ∃ (v : Option Value) (vm₁ : Vm) (B : Pt), s.WarmedH vm₁ ∧ Stand p l e R (s.setVm B.U.vm) m args below meth c B.U B.locs B.cells B.slots ∧ s.Since B.U.vm B.U.heap.size ∧ T.heap.size ≤ B.U.heap.size ∧ Post ⟨T.setVm vm₁, locs, cells, slots⟩ (.ref a :: argsL).toArray v B ∧
      Steps p.tables e below (T.setTop g) (B.U.setTop { g with pc := g.pc + 3, stack := v.toList ++ rest }) := by
  obtain ⟨mk, methM, hn, hmM, hst, hab⟩ := Cond.instanceMethod_spec hinst
  obtain ⟨m3, cM, q0, -, -, -, -, -, -, hsig⟩ := Cond.code_spec hn hcode
  cases hmM.symm.trans q0
  obtain ⟨c2, r2, m2, -, -, q3, -, kP, hkP, hkPi⟩ := Cond.selects_spec hsel
  cases hn.symm.trans q3
  obtain ⟨vm₁, X₁, go⟩ := X.invokevirtual hexec hown hlink hn hmM hst hkP hkPi hy (a := a) (cell := cell) hcell hobj (selectMethod_private hmM (hpriv mk methM hn hmM)) hmM hab hkP hkPi (g := g) hg (argsL := argsL) (rest := rest) (hlen _ hsig) hstack hdg
  obtain ⟨v, B, X', hS, hgr, hpost, hsteps⟩ := hK m meth c ⟨T.setVm vm₁, locs, cells, slots⟩ { g with stack := rest } (.invokevirtual index) mk (.ref a :: argsL).toArray X₁ hg hsize hdg hW (X₁.named hn) (hpre vm₁ X₁.warmed)
  exact ⟨v, vm₁, B, X₁.warmed, X', hS, hgr, hpost, (go _ fun acts => by rw [doInvoke_state]; exact Steps.refl _).trans hsteps⟩
end Priv
theorem own_sameM {Z : State} {a0 : Array Value} {y : MethodName} (w : (Cond.declares y).before a0 Z = true) (nf : NotFace Z y) (hy : y.cls ≠ "java/lang/invoke/MethodHandle" ∧ y.cls ≠ "java/lang/invoke/VarHandle") : (Cond.sameMethod y.cls y.cls y.name y.desc).before a0 Z = true := by
  obtain ⟨r, mr, h1, h2, -, -⟩ := Cond.declares_spec w
  obtain ⟨kr, h3, h4⟩ := nf r h1
  have hc := findClass_of_methodNamed h1
  have hf := State.methodFound?_of_named h1 hy
  have h1' : Z.methodNamed? ⟨y.cls, y.name, y.desc⟩ = some r := h1
  simp [Cond.before, Cond.holds, Cond.value, hc, hf, h1', h3, h4]
section Steps3
variable {l : Launch} {Z : State} {EL : List (String × Nat)} {nar : Bool} {own nm ds : String} {bytes : ByteArray} {maxL : Nat} {ret : Option FieldType} {R : Room} {Q : Option Value → Heap → Prop} {vm : Vm} {h : Heap} {ce sl pc n n' : Nat} {Ls Ls' : Array Slot} {st rest : List Value} {a0 : Array Value}
theorem WP.callPr {sf : List Addr} {y : MethodName} {yb : ByteArray} {yl : Nat} {yr : Option FieldType} {rm : Room} {as' : Array Value} {Qy : Option Value → Heap → Prop} {index Wd ce' sl' : Nat} {Cn : String} {a : Addr} (C : Con l Z EL nar sf y yb yl yr rm as' h Qy) (E : Exa Z h a Cn) (hd : decode bytes pc = .ok (.invokevirtual index, 3)) (w1 : (Cond.methodLink own index y).before a0 Z = true) (w2 : (Cond.instanceMethod y).before a0 Z = true) (w3 : (Cond.selects Cn y y).before a0 Z = true) (w4 : (Cond.privateMethod y).before a0 Z = true) (wz : (Cond.initialized y.cls).before a0 Z = true) (wc : (Cond.code y yb yl yr).before a0 Z = true) (hy : y.cls ≠ "java/lang/invoke/MethodHandle" ∧ y.cls ≠ "java/lang/invoke/VarHandle") (hsf : ∀ x ∈ sf, Safe Z EL vm h x ∧ x < h.size) (hf : rm.frames + 1 ≤ R.frames) (hl : Wd + (yl + 11) + rm.locals ≤ R.locals) (hce : ce + rm.cells = ce') (hsl : sl + rm.slots = sl') (hc : ce' ≤ R.cells) (hs : sl' ≤ R.slots) (hsize : Ls.size = maxL) {argsL : List Value} (hargs : (Value.ref a :: argsL).toArray = as') (hlen : ∀ sig, parseMethodDescriptor y.desc = some sig → argsL.length = sig.parameters.length) (hst : st = argsL.reverse ++ .ref a :: rest) (hWd : (rest.map fun v => v.category).sum ≤ Wd) (hp : pc + 3 = n)
    (k : ∀ v vm' h', Qy v h' → CHr Z EL vm h vm' h' → WP l Z EL nar own nm ds bytes maxL ret R Q vm' h' ce' sl' n Ls (v.toList ++ rest)) : WP l Z EL nar own nm ds bytes maxL ret R Q vm h ce sl pc Ls st := by
  subst hp hce hsl
  intro p e s m args below meth c T L cx ⟨X, ⟨k0, hS, hk⟩, hZ, hown, eT, N, hE, hC, hW', a1, hEL⟩
  have hB := C.back (R := R) (p := p) (e := e) (below := below) (s := s) (args := args) (len := 3) (Wd := Wd) hEL hZ wc wz hf hl hE hC.1 hsf
  obtain ⟨cell, hcell, hnst⟩ := E.cell
  obtain ⟨v, vm₁, ⟨U, L', ke, ks⟩, hw1, X', hS', hg', ⟨Lq, q1, q2, q3, q4, q5, q6, q7, q8⟩, stp⟩ := own_privS X cx.1 hown (mvT (s := s.setVm vm) hZ w1) (mvT (s := s.setVm vm) hZ w2) (mvT (s := s.setVm vm) hZ w3) (Cond.privateMethod_at (args := args) (mvP (s := s.setVm vm) hZ w4)) (mvT (s := s.setVm vm) hZ wc) hy hB (g := mkF m pc Ls st) rfl (by rw [cx.2.2.1]; exact hsize) (by rw [eT]; exact hcell) hnst (argsL := argsL) (rest := rest) hlen hst (by show 2 * 0 + _ ≤ _; omega) (cx.2.1 ▸ hd) (fun _ _ => ⟨hargs, eT, hc, hs⟩)
  dsimp only [Pt.U, Pt.locs, Pt.cells, Pt.slots] at X' hS' hg' q1 q2 q4 q5 q6 q7 q8 stp
  subst q4 q5 q6
  obtain ⟨t, o, h1, r⟩ := k v U.vm U.heap q1 q7 p e s m args below meth c U _ cx ⟨X', ⟨_, hS.trans hS' (Nat.le_trans hk (by rw [← eT]; exact hg')), Nat.le_refl _⟩, State.Warmed39.trans (t := s.setVm vm) hZ hS'.1, (hS'.1.alike.findClass _ _).trans hown, rfl, Fr.app N q3, q2, hC.trans q7, fun q => State.WarmedH.trans (t := s.setVm vm) (hW' q) (q8 q), a1, hEL⟩
  exact ⟨t, o, stp.trans h1, r⟩
theorem WP.callSu {sf : List Addr} {y : MethodName} {yb : ByteArray} {yl : Nat} {yr : Option FieldType} {rm : Room} {as' : Array Value} {Qy : Option Value → Heap → Prop} {index Wd ce' sl' : Nat} {Kn : String} {a : Addr} (C : Con l Z EL nar sf y yb yl yr rm as' h Qy) (F : Ins Z h a Kn true) (hd : decode bytes pc = .ok (.invokespecial index, 3)) (hni : y.name ≠ "<init>") (w1 : (Cond.methodLink own index y).before a0 Z = true) (w2 : (Cond.sameMethod y.cls y.cls y.name y.desc).before a0 Z = true) (w3 : (Cond.instanceMethod y).before a0 Z = true) (w4 : (Cond.superclass own y.cls).before a0 Z = true) (wz : (Cond.initialized y.cls).before a0 Z = true) (wc : (Cond.code y yb yl yr).before a0 Z = true) (hsf : ∀ x ∈ sf, Safe Z EL vm h x ∧ x < h.size) (hf : rm.frames + 1 ≤ R.frames) (hl : Wd + (yl + 11) + rm.locals ≤ R.locals) (hce : ce + rm.cells = ce') (hsl : sl + rm.slots = sl') (hc : ce' ≤ R.cells) (hs : sl' ≤ R.slots) (hsize : Ls.size = maxL) {argsL : List Value} (hargs : (Value.ref a :: argsL).toArray = as') (hlen : ∀ sig, parseMethodDescriptor y.desc = some sig → argsL.length = sig.parameters.length) (hst : st = argsL.reverse ++ .ref a :: rest) (hWd : (rest.map fun v => v.category).sum ≤ Wd) (hp : pc + 3 = n)
    (k : ∀ v vm' h', Qy v h' → CHr Z EL vm h vm' h' → WP l Z EL nar own nm ds bytes maxL ret R Q vm' h' ce' sl' n Ls (v.toList ++ rest)) : WP l Z EL nar own nm ds bytes maxL ret R Q vm h ce sl pc Ls st := by
  subst hp hce hsl
  intro p e s m args below meth c T L cx ⟨X, ⟨k0, hS, hk⟩, hZ, hown, eT, N, hE, hC, hW', a1, hEL⟩
  have hB := C.back (R := R) (p := p) (e := e) (below := below) (s := s) (args := args) (len := 3) (Wd := Wd) hEL hZ wc wz hf hl hE hC.1 hsf
  obtain ⟨v, vm₁, ⟨U, L', ke, ks⟩, hw1, X', hS', hg', ⟨Lq, q1, q2, q3, q4, q5, q6, q7, q8⟩, stp⟩ := superBackS X cx.1 (s := s.setVm vm) hZ hown w1 w2 w3 w4 hni hB eT F (g := mkF m pc Ls st) rfl (by rw [cx.2.2.1]; exact hsize) wc (argsL := argsL) (rest := rest) hlen hst (by show 2 * 0 + _ ≤ _; omega) (cx.2.1 ▸ hd) (fun _ _ => ⟨hargs, eT, hc, hs⟩)
  dsimp only [Pt.U, Pt.locs, Pt.cells, Pt.slots] at X' hS' hg' q1 q2 q4 q5 q6 q7 q8 stp
  subst q4 q5 q6
  obtain ⟨t, o, h1, r⟩ := k v U.vm U.heap q1 q7 p e s m args below meth c U _ cx ⟨X', ⟨_, hS.trans hS' (Nat.le_trans hk (by rw [← eT]; exact hg')), Nat.le_refl _⟩, State.Warmed39.trans (t := s.setVm vm) hZ hS'.1, (hS'.1.alike.findClass _ _).trans hown, rfl, Fr.app N q3, q2, hC.trans q7, fun q => State.WarmedH.trans (t := s.setVm vm) (hW' q) (q8 q), a1, hEL⟩
  exact ⟨t, o, stp.trans h1, r⟩
theorem WP.copyB {index Wd : Nat} {a b : Addr} {k k' : ClassId} {z z' sp dp nn : Int32} {vs vd us vr : List Value} {d dd : Value} (hd : decode bytes pc = .ok (.invokestatic index, 3)) (w1 : (Cond.methodLink own index Jvm.Stand.acN).before a0 Z = true) (w2 : (Cond.native Jvm.Stand.acN).before a0 Z = true) (w3 : (Cond.static Jvm.Stand.acN).before a0 Z = true) (w4 : (Cond.initialized "java/lang/System").before a0 Z = true)
    (A : Arv Z h a k .byte z vs d) (B : Arv Z h b k' .byte z' vd dd) (h1 : ¬ sp < 0) (h2 : ¬ dp < 0) (h3 : ¬ nn < 0) (h4 : sp.toNatClampNeg + nn.toNatClampNeg ≤ z.toNatClampNeg) (h5 : dp.toNatClampNeg + nn.toNatClampNeg ≤ z'.toNatClampNeg) (hus : us = (List.range nn.toNatClampNeg).map fun i => vs.getD (sp.toNatClampNeg + i) d) (hl : dp.toNatClampNeg + nn.toNatClampNeg ≤ vd.length)
    (hvr : vd.take dp.toNatClampNeg ++ us ++ vd.drop (dp.toNatClampNeg + nn.toNatClampNeg) = vr) (hb : Z.heap.size ≤ b) (S : Safe Z EL vm h b) (hsize : Ls.size = maxL) (hf : 1 ≤ R.frames) (hWd : (rest.map fun v => v.category).sum ≤ Wd) (hlo : Wd + (nativeFrameWords "java/lang/System" "arraycopy" 5 + 11) ≤ R.locals) (hp : pc + 3 = n)
    (kk : ∀ h', Keep h h' [b] → Arv Z h' b k' .byte z' vr dd → CHr Z EL vm h vm h' → WP l Z EL nar own nm ds bytes maxL ret R Q vm h' ce sl n Ls rest) : WP l Z EL nar own nm ds bytes maxL ret R Q vm h ce sl pc Ls (.int nn :: .int dp :: .ref b :: .int sp :: .ref a :: rest) := by
  subst hp hvr
  intro p e s m args below meth c T L cx ⟨X, ⟨k0, hS, hk⟩, hZ, hown, eT, N, hE, hC, hW', hEL⟩
  obtain ⟨T', h', L', X', e', N', K', A', stp⟩ := cpA X cx.1 (s := s.setVm vm) hZ hown w1 w2 w3 w4 eT A B (Or.inl ⟨rfl, rfl⟩) h1 h2 h3 h4 h5 hus hl N hb (g := mkF m pc Ls (.int nn :: .int dp :: .ref b :: .int sp :: .ref a :: rest)) rfl (by rw [cx.2.2.1]; exact hsize) rfl (cx.2.1 ▸ hd) hf (W := Wd) (by show 2 * 0 + _ ≤ _; omega) hlo
  have hR : CHr Z EL vm h vm h' := CHr.keep K' (fun x hx => by cases List.mem_singleton.mp hx; exact S) hC.1
  obtain ⟨t, o, q1, r⟩ := kk h' K' A' hR p e s m args below meth c T' L' cx ⟨X', ⟨k0, hS, Nat.le_trans hk K'.1⟩, hZ, hown, e', N', ext_keep1 hE K' hb, hC.trans hR, hW', hEL⟩
  exact ⟨t, o, stp _ q1, r⟩
theorem WP.stI {a : Addr} {cA : ClassId} {z j x : Int32} {vs : List Value} {d : Value} {i : Nat} (hd : decode bytes pc = .ok (.iastore, 1)) (A : Arv Z h a cA .int z vs d) (hj : ¬ j < 0 ∧ j < z) (hi : j.toNatClampNeg = i) (hlen : i < vs.length) (ha : Z.heap.size ≤ a) (hp : pc + 1 = n)
    (k : ∀ h', Wr h h' a j.toNatClampNeg (.int x) → Arv Z h' a cA .int z (vs.set i (.int x)) d → CHr Z EL vm h vm h' → WP l Z EL nar own nm ds bytes maxL ret R Q vm h' ce sl n Ls rest) : WP l Z EL nar own nm ds bytes maxL ret R Q vm h ce sl pc Ls (.int x :: .int j :: .ref a :: rest) := by
  subst hp
  have A0 := A
  obtain ⟨cl, A1, q1, S1, M1, H1, G1⟩ := A
  refine WP.write ha (fun hz => Safe.arv hz.alike A0 (by decide)) (fun p e s args below T m meth c L hx hb hnm X hZ hown eT => ?_) fun h' W r => k h' W (Arv.set A1 q1 S1 M1 H1 G1 rfl W i hi hlen) r
  exact Jvm.RoadKit.stI X hx hZ eT A1 (inb_of S1 hj) (g := mkF m pc Ls (.int x :: .int j :: .ref a :: rest)) rfl rfl (hb ▸ hd)
theorem WP.aaload {a : Addr} {cA : ClassId} {z j : Int32} {vs : List Value} {d v : Value} {ty : FieldType} (hd : decode bytes pc = .ok (.aaload, 1)) (A : Arv Z h a cA ty z vs d) (hty : ty.isReference = true) (hj : ¬ j < 0 ∧ j < z) (hv : vs.getD j.toNatClampNeg d = v) (hp : pc + 1 = n) (k : WP l Z EL nar own nm ds bytes maxL ret R Q vm h ce sl n Ls (v :: rest)) : WP l Z EL nar own nm ds bytes maxL ret R Q vm h ce sl pc Ls (.int j :: .ref a :: rest) := by
  subst hp
  obtain ⟨cl, A1, q1, S1, M1, H1, G1⟩ := A
  refine WP.look (Ls' := Ls) (fun p e s args below T m meth c L hx hb X hZ hown eT => ⟨T, X, eT, fun target q => ?_⟩) k
  exact X.aaload hx (j := j) (v := v) (by rw [eT]; exact A1.1) (State.isArrayOf_alike hZ.alike A1.2.1) hty A1.2.2 (inb_of S1 hj) (H1.at (inb_of S1 hj) hv) (g := mkF m pc Ls (.int j :: .ref a :: rest)) rfl rfl (hb ▸ hd) _ q
theorem WP.clone {ad : String} {index Wd cap ce' sl' : Nat} {a : Addr} {k : ClassId} {ty : FieldType} {z : Int32} {vs : List Value} {d : Value} (hd : decode bytes pc = .ok (.invokevirtual index, 3)) (w1 : (Cond.methodLink own index ⟨ad, "clone", "()Ljava/lang/Object;"⟩).before a0 Z = true) (w2 : (Cond.sameMethod ad "java/lang/Object" "clone" "()Ljava/lang/Object;").before a0 Z = true) (w3 : (Cond.native ⟨"java/lang/Object", "clone", "()Ljava/lang/Object;"⟩).before a0 Z = true)
    (w4 : (Cond.instanceMethod ⟨"java/lang/Object", "clone", "()Ljava/lang/Object;"⟩).before a0 Z = true) (w5 : (Cond.selects ad ⟨ad, "clone", "()Ljava/lang/Object;"⟩ ⟨"java/lang/Object", "clone", "()Ljava/lang/Object;"⟩).before a0 Z = true) (w6 : (Cond.castable ad "java/lang/Cloneable").before a0 Z = true) (F : Arv Z h a k ty z vs d) (E : Exa Z h a ad) (hsize : Ls.size = maxL) (hf : 1 ≤ R.frames) (hWd : (rest.map fun v => v.category).sum ≤ Wd) (hl : Wd + 14 ≤ R.locals) (hcap : z.toNatClampNeg ≤ cap) (hce : ce + 1 = ce') (hsl : sl + cap = sl') (hc : ce' ≤ R.cells) (hs : sl' ≤ R.slots) (hp : pc + 3 = n)
    (kk : ∀ b h', b = h.size → Ext h h' → Arv Z h' b k ty z vs d → Exa Z h' b ad → CHr Z EL vm h vm h' → WP l Z EL nar own nm ds bytes maxL ret R Q vm h' ce' sl' n Ls (.ref b :: rest)) : WP l Z EL nar own nm ds bytes maxL ret R Q vm h ce sl pc Ls (.ref a :: rest) := by
  subst hp hce hsl
  intro p e s m args below meth c T L cx ⟨X, ⟨k0, hS, hk⟩, hZ, hown, eT, N, hE, hC, hW', hEL⟩
  obtain ⟨T', h', X', e', E', A', X2, stp⟩ := cloneH X cx.1 (s := s.setVm vm) hZ hown w1 w2 w3 w4 w5 w6 eT F.arh E (g := mkF m pc Ls (.ref a :: rest)) rfl (by rw [cx.2.2.1]; exact hsize) rfl (cx.2.1 ▸ hd) hf (W := Wd) (by show 2 * 0 + _ ≤ _; omega) hl hcap hc hs
  have hR : CHr Z EL vm h vm h' := CHr.ext E' hC.1
  obtain ⟨t, o, q1, r⟩ := kk _ h' rfl E' A' X2 hR p e s m args below meth c T' L cx ⟨X', ⟨k0, hS, Nat.le_trans hk E'.1⟩, hZ, hown, e', N, ext_trans hE E', hC.trans hR, hW', hEL⟩
  exact ⟨t, o, stp _ q1, r⟩
end Steps3
/-- no constant of EL has a text of n signs -/
def EWn (Z : State) (a0 : Array Value) (EL : List (String × Nat)) (n : Nat) : Prop := ∀ p ∈ EL, ∃ text : String, (Cond.stringLink p.1 p.2 text).before a0 Z = true ∧ (∀ c ∈ text.toList, c.toNat < 256) ∧ text.toList.length ≠ n
theorem EWn.nil {Z : State} {a0 : Array Value} {n : Nat} : EWn Z a0 [] n := fun _ hp => nomatch hp
theorem EWn.cons {Z : State} {a0 : Array Value} {EL : List (String × Nat)} {n : Nat} {own text : String} {index : Nat} (w : (Cond.stringLink own index text).before a0 Z = true) (ht : ∀ c ∈ text.toList, c.toNat < 256) (hn : text.toList.length ≠ n) (E : EWn Z a0 EL n) : EWn Z a0 ((own, index) :: EL) n := fun p hp => by
  rcases List.mem_cons.mp hp with rfl | hp
  · exact ⟨text, w, ht, hn⟩
  · exact E p hp
/-- a byte[] whose length is no constant's is no booked one -/
theorem own_safeLen {Z : State} {EL : List (String × Nat)} {vm : Vm} {h : Heap} {x : Addr} {k : ClassId} {z : Int32} {vs : List Value} {d : Value} {a0 : Array Value} (hZ : Z.Warmed39 vm) (hL : EWn Z a0 EL z.toNatClampNeg) (A : Arv Z h x k .byte z vs d) : Safe Z EL vm h x := fun B => by
  obtain ⟨cl, ⟨A1, ⟨-, kA, hkA, compA, hkindA⟩, -⟩, -, hsz, -⟩ := A
  obtain ⟨kA', hkA', ekA⟩ := hZ.alike.2.2 _ _ hkA
  obtain ⟨p, hp, u, a, hb, q, -, F, rfl | rfl⟩ := B
  · cases (show h[q.sa]? = some q.sC from F.ha).symm.trans A1
    obtain ⟨cS, ⟨-, -, e⟩, ⟨kS, g1, g2, -⟩, -⟩ := F
    subst e
    cases (show vm.classes[q.sC.cls]? = some kS from g1).symm.trans hkA'
    rw [ekA] at g2
    have := hkindA.symm.trans g2
    cases this
  · cases (show h[q.sd]? = some q.SA from F.hd).symm.trans A1
    obtain ⟨text, wl, ht, hn⟩ := hL p hp
    obtain ⟨c, k', cf, i, hc', hk', hcf', hpool, hu, -⟩ := hb
    have wl' : (Cond.stringLink p.1 p.2 text).before a0 (Wst Z vm h) = true := mvS (s := { Z with heap := h }) hZ wl
    obtain ⟨k0, cf0, i0, units0, hk, hcf, hp0, hu0, hnm, htext, -⟩ := Cond.stringLink_spec (s := Wst Z vm h) hc' wl'
    cases (show vm.classes[c]? = some k' from hk').symm.trans hk
    cases hcf'.symm.trans hcf
    cases hpool.symm.trans hp0
    cases hu.symm.trans hu0
    obtain ⟨cS, -, -, -, hbyt⟩ := F
    have hlat := Jvm.ClassFile.lat_of_text htext ht
    have e1 : q.SA.slots.size = u.size := by rw [hbyt, SBG.stringBytes_lat hlat]; simp
    have e2 : u.size = text.toList.length := by
      have e := Jvm.ClassFile.units_of_text htext ht
      have e3 := congrArg List.length e
      simpa using e3
    exact hn (by rw [← hsz, e1, e2])
end Jvm.OwnW
namespace Jvm.OwnW
open Jvm Jvm.ClassFile Sem Op Lib Jvm.Free Jvm.Stand Jvm.LawKit Jvm.RoadKit Bundle Jvm.LamKit
/-! A lambda's site and a call of its object, in the WP calculus with the wide frame: own text; LamKit's Made, FnAt, fwdOK, made_static, madeSelects are used. -/
theorem own_mready {Z : State} {vm : Vm} (hZ : Z.Warmed39 vm) {c i : Nat} {t : MethodId} (h : Z.vm.methodReady c i t) : vm.methodReady c i t := by
  obtain ⟨k, hk, hr⟩ := h
  obtain ⟨k', hk', -, -, hres, -⟩ := hZ.2.2.2 _ _ hk
  rcases hres i with e | ⟨e, -⟩
  · exact ⟨k', hk', by rw [e]; exact hr⟩
  · rw [e] at hr; cases hr
theorem own_cready {Z : State} {vm : Vm} (hZ : Z.Warmed39 vm) {c i : Nat} {t : ClassId} (h : Z.vm.classReady c i t) : vm.classReady c i t := by
  obtain ⟨k, hk, hr⟩ := h
  obtain ⟨k', hk', -, -, hres, -⟩ := hZ.2.2.2 _ _ hk
  rcases hres i with e | ⟨e, -⟩
  · exact ⟨k', hk', by rw [e]; exact hr⟩
  · rw [e] at hr; cases hr
/-- the made class's pool names the class K at entry i -/
def own_clsOK (σ : Lambda.Shape) (host : String) (i : Nat) (K : String) : Bool :=
  match σ.file host with
  | none => false
  | some D => match D.constantPool[i]? with
    | some (.class_ n) => decide (D.constantPool.string? n = some K) && decide (i ≠ D.thisClass)
    | _ => false
theorem own_made_class {st : Setting} {vm : Vm} {d c t : ClassId} {dk : Class} {σ : Lambda.Shape} {host K : String} {i : Nat} (hok : own_clsOK σ host i K = true) (hd : vm.classes[d]? = some dk) (hname : dk.name = host) (h : Lambda.isMade st vm d σ c = true) (ht : vm.findClass K = some t) : vm.classReady c i t := by
  obtain ⟨dk', k, ok, tk, file, cf, object, iface, toy, lay, methods, target, found, hd', hk, hfile, hcf, -, -, -, -, hms, -, htk, hg, -, hrec, -, -, -, -, hpool, hmeth, -, -, hres, -⟩ := Lambda.isMade_spec h
  cases hd.symm.trans hd'
  rw [hname] at hcf
  unfold own_clsOK at hok
  rw [hcf] at hok
  dsimp only at hok
  split at hok
  · rename_i n hn
    simp only [Bool.and_eq_true, decide_eq_true_eq] at hok
    exact ⟨k, hk, hres i _ (Lambda.resolvedOf_class hn hok.2 hok.1 ht)⟩
  · cases hok
section Lam
variable {p : Program} {l : Launch} {e : Env} {R : Room} {s : State} {m : MethodId} {args : Array Value} {below : List Frame} {meth : Method} {c : Code} {T : State} {locs : List Loc} {cells slots : Nat}
/-- back at the caller, the tables warmer and more interned -/
theorem own_outW (X : Stand p l e R s m args below meth c T locs cells slots) {g : JFrame} (hg : g.method = m) {ig : Instr} {len : Nat} (hdg : decode c.code g.pc = .ok (ig, len)) {mk : MethodId} {a : Array Value} {t : State} {v : Option Value} {L : List Loc} {k n : Nat} (hend : Ended t (.java g :: below) (.returned v)) (hr : ReturnedEndW (T.calling g mk a) (.returned v) t L k n) :
    ∃ T', Stand p l e R (s.setVm T'.vm) m args below meth c T' (locs ++ L) (cells + k) (slots + n) ∧ s.Since T'.vm T'.heap.size ∧ T.heap.size ≤ T'.heap.size ∧ T'.heap = t.heap ∧ T'.vm = t.vm ∧ t = T'.setTop { g with pc := g.pc + len, stack := v.toList ++ g.stack } := by
  obtain ⟨-, hW, hB, e2, q2, q⟩ := hr
  have hWT : T.Warmed39 t.vm := hW
  have hWs : s.Warmed39 t.vm := State.Warmed39.trans X.warmed.wide hWT
  have X2 := X.retabled hWs
  obtain ⟨T', X', -, -, ht⟩ := X2.outOf hg hdg (mk := mk) (a := a) hend (State.WarmedH.refl ((T.setVm t.vm).calling g mk a)) ⟨congrArg (fun z => State.setVm z t.vm) e2, q2, q⟩
  have hh : T'.heap = t.heap := (congrArg State.heap ht).symm
  have hv : T'.vm = t.vm := (congrArg State.vm ht).symm
  have hq2 : T.heap.size ≤ t.heap.size := q2
  refine ⟨T', by rw [hv]; exact X', ⟨by rw [hv]; exact hWs, fun j z hj hz => ?_⟩, by rw [hh]; exact hq2, hh, hv, ht⟩
  have hj' : T.vm.interned.size ≤ j := by rw [X.warmed.interned_eq]; exact hj
  rw [hv] at hz
  obtain ⟨x, y⟩ := hB j z hj' hz
  exact ⟨Nat.le_trans X.same.2.1 x, by rw [hh]; exact y⟩
end Lam
section Fwd
variable {l : Launch} {Z : State} {EL : List (String × Nat)} {nar : Bool} {h : Heap} {a0 a1 : Array Value}
variable {p : Program} {e : Env} {R : Room} {s : State} {m : MethodId} {args : Array Value} {below : List Frame} {meth : Method} {c : Code} {T : State} {locs : List Loc} {cells slots : Nat}
/-- the forwarder 'aload_1; checkcast K; invokestatic y; areturn' runs, the target by its contract -/
theorem own_fwdW (X : Stand p l e R s m args below meth c T locs cells slots) (hexec : p.tables.exec = Jvm.exec) (hZ : Z.Warmed39 s.vm) (eT : T.heap = h) (hE : Ext Z.heap h) (H : CHv Z EL s.vm h) (hEL : EW Z a1 EL)
    {y : MethodName} {yb : ByteArray} {yl : Nat} {yr : Option FieldType} {rm : Room} {x : Addr} {Qy : Option Value → Heap → Prop} (C : Con l Z EL nar [] y yb yl yr rm #[.ref x] h Qy)
    (w4 : (Cond.static y).before a0 Z = true) (wz : (Cond.initialized y.cls).before a0 Z = true) (wc : (Cond.code y yb yl yr).before a0 Z = true) {σ : Lambda.Shape} {host K : String} {cK : ClassId} (hy : y.cls = σ.implClass ∧ y.name = σ.implName ∧ y.desc = σ.implDesc.toString) (hpoly : y.cls ≠ "java/lang/invoke/MethodHandle" ∧ y.cls ≠ "java/lang/invoke/VarHandle")
    (hmd : Jvm.LamKit.Made Z host σ cK) {fcode : ByteArray} {idx ci cc : Nat} {ft : FieldType} (hok : fwdOK σ host fcode 2 (some ft) idx ci = true) (hft : ft.isReference = true) (hcl : own_clsOK σ host cc K = true) (E : Exa Z h x K)
    (hd0 : decode fcode 0 = .ok (.aload_n 1, 1)) (hd1 : decode fcode 1 = .ok (.checkcast cc, 3)) (hd4 : decode fcode 4 = .ok (.invokestatic idx, 3)) (hd7 : decode fcode 7 = .ok (.areturn, 1)) (hlenT : ∀ sig, parseMethodDescriptor y.desc = some sig → sig.parameters.length = 1) (hret : ∀ v h', Qy v h' → ∃ w, v = some w ∧ w.isRef = true)
    {g : JFrame} (hg : g.method = m) (hsize : g.locals.size = c.maxLocals) {ig : Instr} {len : Nat} (hdg : decode c.code g.pc = .ok (ig, len)) {f : Addr} (hfr : rm.frames + 2 ≤ R.frames) (hlo : 2 * g.monitorRoom + (g.stack.map fun v => v.category).sum + 13 + ((yl + 11) + rm.locals) ≤ R.locals) (hce : cells + rm.cells ≤ R.cells) (hsl : slots + rm.slots ≤ R.slots) :
    ∃ v T' L, Stand p l e R (s.setVm T'.vm) m args below meth c T' (locs ++ L) (cells + rm.cells) (slots + rm.slots) ∧ s.Since T'.vm T'.heap.size ∧ T.heap.size ≤ T'.heap.size ∧ Qy v T'.heap ∧ Ext Z.heap T'.heap ∧ Fr Z.heap.size L ∧ CHr Z EL s.vm h T'.vm T'.heap ∧
      Steps p.tables e below (doInvoke e (T.setTop g) [] ⟨cK, 1⟩ #[.ref f, .ref x]).1 (T'.setTop { g with pc := g.pc + len, stack := v.toList ++ g.stack }) := by
  obtain ⟨d, dk, hd, hdn, hmade, -⟩ := hmd
  obtain ⟨y1, y2, y3⟩ := hy
  have hW : Z.Warmed39 T.vm := wtrans (s := s) hZ X.warmed
  obtain ⟨kK, tk, file, methk, ck, toy, t1, nt, hkK, hpn, hfile, hidx, hnt, hmk, hck, hbytes, hml, hlk, -, hretk, htoy, htk, hlook, hready, hclsR⟩ := made_static hok hd hdn hmade
  obtain ⟨kx, kxK, x1, x2, x3, x4, -⟩ := E
  have hcast := own_made_class hcl hd hdn hmade x2
  obtain ⟨mT, hmT⟩ := Cond.code_named wc
  obtain ⟨methT, cT, hmethT, -, -, -, -, -, -, hsigT⟩ := Cond.code_spec hmT wc
  have hstaticT : methT.isStatic = true := Cond.static_spec hmT hmethT w4
  obtain ⟨kT, hkT, hnameT⟩ := className_of_methodNamed hmT
  have hfT : Z.vm.findClass y.cls = some mT.cls := findClass_of_methodNamed hmT
  have hinitK : kT.init = .initialized := Cond.initialized_spec hfT hkT wz
  rw [y1] at hfT
  cases htoy.symm.trans hfT
  have ht1 : t1 = mT := by
    have q : Z.methodFound? y.cls y.name y.desc = some mT := State.methodFound?_of_named hmT hpoly
    rw [y1, y2, y3] at q
    simp only [State.methodFound?, hfT, htk, Option.bind_eq_bind, Option.bind_some] at q
    rw [hlook] at q
    exact Option.some.inj q
  subst ht1
  cases htk.symm.trans hkT
  -- at T's tables
  have hA := hW.alike
  obtain ⟨kK', hkK', eK⟩ := hA.2.2 _ _ hkK
  obtain ⟨kT', hkT', eKT⟩ := hA.2.2 _ _ htk
  have hmk' : T.vm.method? ⟨cK, 1⟩ = some methk := by rw [hA.method?]; exact hmk
  have hmt' : T.vm.method? t1 = some methT := by rw [hA.method?]; exact hmethT
  have hpk : T.plainMethod ⟨cK, 1⟩ := State.plainMethod.of_name (fun k' hk' => by cases hkK'.symm.trans hk'; rw [eK]; exact hpn)
  have hsp : ∀ z : Method, signaturePolymorphic kT' z = false := fun z => by
    have hn' : kT'.name = y.cls := by rw [eKT]; exact hnameT
    simp [signaturePolymorphic, hn', hpoly.1, hpoly.2]
  obtain ⟨b, hmem⟩ := memberRef_ask' (e := e) (vm := T.vm) (d := cK) (index := idx) hkK' (by rw [eK]; exact hfile) (Or.inl hidx) hnt
  obtain ⟨Y0, hin⟩ := X.into hg hsize hdg #[.ref f, .ref x] (R' := { frames := rm.frames + 1, cells := rm.cells, slots := rm.slots, locals := (yl + 11) + rm.locals }) hmk' hck hlk hpk hfr (by rw [hml]; exact hlo) hce hsl
  rw [hml, Fw.entry2 ⟨cK, 1⟩ f (x := .ref x) rfl] at Y0 hin
  generalize hU : (T.setTop g).pushFrame (.java { method := ⟨cK, 1⟩, pc := 0, locals := #[.val (.ref f), .val (.ref x)], stack := [], locked := none }) = U at Y0 hin
  have hvmU : U.vm = T.vm := by rw [← hU]; rfl
  have hheapU : U.heap = h := by rw [← hU]; exact eT
  have k0 : Steps p.tables e (.java g :: below) (U.setTop { method := ⟨cK, 1⟩, pc := 0, locals := #[.val (.ref f), .val (.ref x)], stack := [], locked := none }) (U.setTop { method := ⟨cK, 1⟩, pc := 1, locals := #[.val (.ref f), .val (.ref x)], stack := [.ref x], locked := none }) := by
    have hd0' : decode ck.code 0 = .ok (.aload_n 1, 1) := by rw [hbytes]; exact hd0
    jvm_step Y0.here [hexec, hd0', Value.isRef]
    exact Steps.refl _
  obtain ⟨ks, hks, eks⟩ := hA.2.2 _ _ x3
  have k1 := Y0.checkcastR hexec (g := { method := ⟨cK, 1⟩, pc := 1, locals := #[.val (.ref f), .val (.ref x)], stack := [.ref x], locked := none }) rfl (index := cc) (cT := kx.cls) (x := .ref x) (rest := []) (by rw [hvmU]; exact own_cready hW hcast) rfl
    (Or.inr ⟨x, kx, ks, ks, rfl, by rw [hheapU]; exact x1, (fun q hq => by rw [hq] at x4; cases x4), by rw [hvmU]; exact hks, by rw [hvmU]; exact hks, by rw [hvmU]; exact Vm.assignable_self ..⟩) (by rw [hbytes]; exact hd1) k0
  have hnamedU : U.methodNamed? y = some t1 := by
    have q : (Z.setVm T.vm).methodNamed? y = some t1 := by rw [State.methodNamed?_setVm hA]; exact hmT
    rw [← hU]; exact q
  have HT : CHr Z EL s.vm h T.vm h := CHv.at (h := h) X hZ hEL H
  have hB := C.back (R := { frames := rm.frames + 1, cells := rm.cells, slots := rm.slots, locals := (yl + 11) + rm.locals }) (p := p) (e := e) (below := .java g :: below) (s := T.calling g ⟨cK, 1⟩ #[.ref f, .ref x]) (args := #[.ref f, .ref x]) (len := 3) (Wd := 0) (vm := T.vm) hEL hW wc wz (Nat.le_refl _) (by show 0 + (yl + 11) + rm.locals ≤ (yl + 11) + rm.locals; omega) hE HT.1 (fun _ q => nomatch q)
  obtain ⟨v, ⟨U1, L1, c1, n1⟩, Y1, hS1, hg1, ⟨Lq, q1, q2, q3, q4, q5, q6, q7, q8⟩, stp⟩ := hB ⟨cK, 1⟩ methk ck ⟨U, [], 0, 0⟩ { method := ⟨cK, 1⟩, pc := 4, locals := #[.val (.ref f), .val (.ref x)], stack := [], locked := none } (.invokestatic idx) t1 #[.ref x] Y0 rfl (by rw [hml]; rfl) (by rw [hbytes]; exact hd4) (Nat.le_refl _) hnamedU ⟨rfl, hheapU, by show 0 + rm.cells ≤ rm.cells; omega, by show 0 + rm.slots ≤ rm.slots; omega⟩
  dsimp only [Pt.U, Pt.locs, Pt.cells, Pt.slots] at Y1 hS1 hg1 q1 q2 q4 q5 q6 q7 q8 stp
  subst q4 q5 q6
  obtain ⟨w, rfl, hwr⟩ := hret _ _ q1
  obtain ⟨fs, hleave, -, hended, hre⟩ := Stand.leaveW (s := T.calling g ⟨cK, 1⟩ #[.ref f, .ref x]) Y1 hS1 (Nat.le_refl _) (v := some w) (fun q => by rw [hretk] at q; cases q) hlk
  obtain ⟨T', X', hS', hgr, eh, ev, ht⟩ := own_outW X hg hdg hended hre
  refine ⟨some w, T', _, by simpa using X', hS', hgr, by rw [eh]; exact q1, by rw [eh]; exact q2, q3, by rw [eh, ev]; exact HT.trans q7, ?_⟩
  rw [hin [], ← ht]
  refine Steps.weaken (mid := [.java g]) (k1.trans ?_)
  have hsU : U.topJava?.isSome := Y0.here.top
  have hd4' : decode ck.code 4 = .ok (.invokestatic idx, 3) := by rw [hbytes]; exact hd4
  jvm_step Y0.here [hexec, hd4', invokestatic.wp_ready (e := e) (s := U) (m := t1) (k := kT') (meth := methT) (args := [.ref x]) (rest := [])
    (f := { method := ⟨cK, 1⟩, pc := 4, locals := #[.val (.ref f), .val (.ref x)], stack := [.ref x], locked := none }) hsU ⟨ci, _, _, b, t1.cls, kT', by rw [hvmU]; exact hmem, by rw [hvmU]; exact own_cready hW hclsR, by rw [hvmU]; exact hkT', by simp [hsp]⟩ (by rw [hvmU]; exact own_mready hW hready) (by rw [hvmU]; exact hkT') (by rw [hvmU]; exact hmt') (hsp _) hstaticT (by rw [eKT]; exact hinitK) (hlenT _ hsigT).symm (by simp)]
  intro acts
  rw [doInvoke_state]
  refine stp.trans ?_
  exact Y1.areturnOut hexec hwr hretk hft (by rw [hbytes]; exact hd7) hleave
end Fwd
section Steps4
variable {l : Launch} {Z : State} {EL : List (String × Nat)} {nar : Bool} {own nm ds : String} {bytes : ByteArray} {maxL : Nat} {ret : Option FieldType} {R : Room} {Q : Option Value → Heap → Prop} {vm : Vm} {h : Heap} {ce sl pc n : Nat} {Ls : Array Slot} {st rest : List Value} {a0 : Array Value}
/-- invokedynamic at a linked site that captures nothing -/
theorem WP.indy {index Wd : Nat} {σ : Lambda.Shape} (hd : decode bytes pc = .ok (.invokedynamic index, 5)) (w : (Cond.lambdaSite ⟨own, nm, ds⟩ pc index σ).before a0 Z = true) (hcap : σ.captured = []) (hsize : Ls.size = maxL) (hWd : (st.map fun v => v.category).sum ≤ Wd) (hlo : Wd + 3072 ≤ R.locals) (hp : pc + 5 = n)
    (k : ∀ a cK, Jvm.LamKit.Made Z own σ cK → Jvm.LamKit.FnAt Z.heap a cK → WP l Z EL nar own nm ds bytes maxL ret R Q vm h ce sl n Ls (.ref a :: st)) : WP l Z EL nar own nm ds bytes maxL ret R Q vm h ce sl pc Ls st := by
  subst hp
  obtain ⟨cK, one, hat⟩ := Cond.lambdaSite_spec w
  obtain ⟨mD, kD, cfD, i0, p0, lk, hmD, hkD, -, -, -, hfind, hmade, hcan, hl⟩ := State.lambdaAt?_spec hat
  rcases hl with ⟨a, cell, rfl, -, -, hcell, hcls, hvm, -⟩ | ⟨-, -, hne⟩
  · intro p e s m args below meth c T L cx pl
    have hnamed := cx.2.2.2.2.1.2
    cases hnamed.symm.trans hmD
    obtain ⟨kD', hkD', hnameD⟩ := className_of_methodNamed hnamed
    cases hkD.symm.trans hkD'
    obtain ⟨t, o, h1, r⟩ := k a cK ⟨_, kD, hkD, hnameD, hmade, hcan⟩ ⟨cell, hcell, hcls, hvm⟩ p e s _ args below meth c T L cx pl
    have X := pl.1
    have hw : e.platform.lambdaLinkWords = 3072 := by rw [X.admits.platform]
    obtain ⟨k', hk', ek⟩ := (State.Warmed39.alike (s := Z) pl.2.2.1).2.2 _ _ hkD
    refine ⟨t, o, ?_, r⟩
    exact X.lambdaConstant cx.1 (g := mkF _ pc Ls st) rfl (by rw [cx.2.2.1]; exact hsize) (cx.2.1 ▸ hd) (k := k') hk' (i0 := i0) (p0 := p0) (by rw [ek]; exact hfind) (by rw [hw]; show 2 * 0 + (st.map fun v => v.category).sum + 3072 ≤ R.locals; omega) h1
  · exact absurd hcap hne
/-- a call of the interface's method on a lambda's object whose forwarder is 'aload_1; checkcast; invokestatic; areturn' -/
theorem WP.callLam {xi y : MethodName} {yb : ByteArray} {yl : Nat} {yr : Option FieldType} {rm : Room} {x a : Addr} {Qy : Option Value → Heap → Prop} {index count Wd ce' sl' : Nat} (C : Con l Z EL nar [] y yb yl yr rm #[.ref x] h Qy) (hd : decode bytes pc = .ok (.invokeinterface index count, 5)) (w1 : (Cond.methodLink own index xi).before a0 Z = true) (w2 : (Cond.declares xi).before a0 Z = true) (w3 : (Cond.interfaceMethod xi.cls xi.cls xi.name xi.desc).before a0 Z = true)
    (w4 : (Cond.static y).before a0 Z = true) (wz : (Cond.initialized y.cls).before a0 Z = true) (wc : (Cond.code y yb yl yr).before a0 Z = true) {σ : Lambda.Shape} {host K : String} {cK : ClassId} (hxi : xi.cls = σ.iface ∧ xi.name = σ.name ∧ xi.desc = σ.sam.toString) (hxp : xi.cls ≠ "java/lang/invoke/MethodHandle" ∧ xi.cls ≠ "java/lang/invoke/VarHandle") (hy : y.cls = σ.implClass ∧ y.name = σ.implName ∧ y.desc = σ.implDesc.toString) (hpoly : y.cls ≠ "java/lang/invoke/MethodHandle" ∧ y.cls ≠ "java/lang/invoke/VarHandle")
    (hmd : Jvm.LamKit.Made Z host σ cK) (hfn : Jvm.LamKit.FnAt Z.heap a cK) {fcode : ByteArray} {idx ci cc : Nat} {ft : FieldType} (hok : fwdOK σ host fcode 2 (some ft) idx ci = true) (hft : ft.isReference = true) (hcl : own_clsOK σ host cc K = true) (E : Exa Z h x K)
    (hd0 : decode fcode 0 = .ok (.aload_n 1, 1)) (hd1 : decode fcode 1 = .ok (.checkcast cc, 3)) (hd4 : decode fcode 4 = .ok (.invokestatic idx, 3)) (hd7 : decode fcode 7 = .ok (.areturn, 1)) (hlenT : ∀ sig, parseMethodDescriptor y.desc = some sig → sig.parameters.length = 1) (hret : ∀ v h', Qy v h' → ∃ w, v = some w ∧ w.isRef = true)
    (hlen : ∀ sig, parseMethodDescriptor xi.desc = some sig → sig.parameters.length = 1) (hsize : Ls.size = maxL) (hWd : (rest.map fun v => v.category).sum ≤ Wd) (hfr : rm.frames + 2 ≤ R.frames) (hlo : Wd + 13 + ((yl + 11) + rm.locals) ≤ R.locals) (hce : ce + rm.cells = ce') (hsl : sl + rm.slots = sl') (hc : ce' ≤ R.cells) (hs : sl' ≤ R.slots) (hp : pc + 5 = n)
    (k : ∀ v vm' h', Qy v h' → CHr Z EL vm h vm' h' → WP l Z EL nar own nm ds bytes maxL ret R Q vm' h' ce' sl' n Ls (v.toList ++ rest)) (hnar : nar = false) : WP l Z EL nar own nm ds bytes maxL ret R Q vm h ce sl pc Ls (.ref x :: .ref a :: rest) := by
  subst hp hce hsl
  intro p e s m args below meth c T L cx ⟨X, ⟨k0, hS, hk⟩, hZ, hown, eT, N, hE, hC, hW', a1, hEL⟩
  obtain ⟨cell, hcell, rfl, hvmc⟩ := hfn
  have hcellT : T.heap[a]? = some cell := by rw [eT]; exact hE.2 _ _ hcell
  obtain ⟨kK, methk, hkK, hmk, hpub, habs, hsel⟩ := madeSelects hmd hok w3 hxi
  obtain ⟨r0, r, hn, hrm, hstR, hsigR⟩ := Cond.declares_spec w2
  obtain ⟨cL, kL, r1, hcL, hkL, hiL, -, -⟩ := Cond.interfaceMethod_spec w3
  have hr0cls : r0.cls = cL := Option.some.inj ((findClass_of_methodNamed hn).symm.trans hcL)
  obtain ⟨hasg, hsel', hway⟩ := hsel r0 r hn hrm
  have hA := hZ.alike
  obtain ⟨kL', hkL', eL⟩ := hA.2.2 _ _ hkL
  obtain ⟨kK', hkK', eK⟩ := hA.2.2 _ _ hkK
  obtain ⟨vm₁, X₁, hstep₁⟩ := X.invokeinterface cx.1 hown (mvT (s := s.setVm vm) hZ w1) (r0 := r0) (r := r) (by have q := State.methodNamed?_setVm (s := Z) hA xi; rw [hn] at q; exact q) (by show vm.method? r0 = _; rw [hA.method?]; exact hrm) hstR (ki := kL') (by rw [hr0cls]; exact hkL') (by rw [eL]; exact hiL) hxp (a := a) (cell := cell) (kcell := kK') hcellT (fun z q => by rw [hvmc] at q; cases q) hkK' (by show vm.assignable _ _ = true; rw [hA.assignable]; exact hasg)
    (m' := ⟨cell.cls, 1⟩) (meth' := methk) (by rw [Launch.admits_selectMethod X.admits]; show selectMethod {} vm _ _ = _; rw [hA.selectMethod]; exact hsel') (by show vm.method? _ = _; rw [hA.method?]; exact hmk) (by show ((cell.cls :: vm.superclasses cell.cls).any fun k => (declaredIn vm r.name r.desc k).any fun (_, y) => y.isPrivate || y.isStatic) = false; simp only [hA.superclasses, hA.declaredIn]; exact hway) hpub habs (g := mkF m pc Ls (.ref x :: .ref a :: rest)) rfl (argsL := [.ref x]) (rest := rest) (hlen _ hsigR).symm rfl (cx.2.1 ▸ hd)
  obtain ⟨v, T', L', X', hS', hg', q1, q2, q3, q7, stp⟩ := own_fwdW X₁ cx.1 (s := s.setVm vm) hZ (by show T.heap = h; exact eT) hE hC.1 hEL C w4 wz wc hy hpoly hmd hok hft hcl E hd0 hd1 hd4 hd7 hlenT hret (g := { mkF m pc Ls (.ref x :: .ref a :: rest) with stack := rest }) rfl (by rw [cx.2.2.1]; exact hsize) (cx.2.1 ▸ hd) (f := a) hfr (by show 2 * 0 + (rest.map fun v => v.category).sum + 13 + ((yl + 11) + rm.locals) ≤ R.locals; omega) hc hs
  obtain ⟨t, o, h1, rr⟩ := k v T'.vm T'.heap q1 q7 p e s m args below meth c T' _ cx ⟨X', ⟨_, hS.trans hS' (Nat.le_trans hk (by rw [← eT]; exact hg')), Nat.le_refl _⟩, State.Warmed39.trans (t := s.setVm vm) hZ hS'.1, (hS'.1.alike.findClass _ _).trans hown, rfl, Fr.app N q3, q2, hC.trans q7, (fun q => by rw [hnar] at q; cases q), a1, hEL⟩
  exact ⟨t, o, hstep₁ _ (fun acts => by rw [doInvoke_state]; exact stp.trans h1), rr⟩
end Steps4
end Jvm.OwnW
namespace Jvm.Pilot.@@N@@
open Jvm Jvm.ClassFile Sem Op Lib Jvm.Free Jvm.Stand Jvm.LawKit Jvm.RoadKit Bundle Jvm.OwnW Jvm.Pilot.@@N@@.Jvm.D
theorem own_pn0 : plainName "java/lang/StringLatin1" = true := by first | (simp [plainName, overriddenIn]; done) | decide +kernel
theorem own_pn1 : plainName "java/lang/String" = true := by first | (simp [plainName, overriddenIn]; done) | decide +kernel
theorem own_pn2 : plainName "java/util/Objects" = true := by first | (simp [plainName, overriddenIn]; done) | decide +kernel
theorem own_pn3 : plainName "java/lang/AbstractStringBuilder" = true := by first | (simp [plainName, overriddenIn]; done) | decide +kernel
theorem own_pn4 : plainName "java/lang/StringBuilder" = true := by first | (simp [plainName, overriddenIn]; done) | decide +kernel
theorem own_pn5 : plainName "java/util/Arrays" = true := by first | (simp [plainName, overriddenIn]; done) | decide +kernel
theorem own_pn6 : plainName "com/example/wallhour/wallhour/ChoiceRejectPinLaw" = true := by first | (simp [plainName, overriddenIn]; done) | decide +kernel
theorem own_pn7 : plainName "java/util/Optional" = true := by first | (simp [plainName, overriddenIn]; done) | decide +kernel
theorem own_pn8 : plainName "com/example/wallhour/wallhour/Choice" = true := by first | (simp [plainName, overriddenIn]; done) | decide +kernel
theorem own_pd0 : parseMethodDescriptor "([B[B)Z" = some ⟨[(.array .byte), (.array .byte)], some .boolean⟩ := by decide +kernel
theorem own_pd1 : parseMethodDescriptor "([CIILjava/lang/Void;)V" = some ⟨[(.array .char), .int, .int, (.object "java/lang/Void")], none⟩ := by decide +kernel
theorem own_pd2 : parseMethodDescriptor "(C)Z" = some ⟨[.char], some .boolean⟩ := by decide +kernel
theorem own_pd3 : parseMethodDescriptor "(C)[B" = some ⟨[.char], some (.array .byte)⟩ := by decide +kernel
theorem own_pd4 : parseMethodDescriptor "([BB)V" = some ⟨[(.array .byte), .byte], none⟩ := by decide +kernel
theorem own_pd5 : parseMethodDescriptor "()B" = some ⟨[], some .byte⟩ := by decide +kernel
theorem own_pd6 : parseMethodDescriptor "(I)V" = some ⟨[.int], none⟩ := by decide +kernel
theorem own_pd7 : parseMethodDescriptor "(Ljava/lang/String;)V" = some ⟨[(.object "java/lang/String")], none⟩ := by decide +kernel
theorem own_pd8 : parseMethodDescriptor "([BIB)V" = some ⟨[(.array .byte), .int, .byte], none⟩ := by decide +kernel
theorem own_pd9 : parseMethodDescriptor "()I" = some ⟨[], some .int⟩ := by decide +kernel
theorem own_pd10 : parseMethodDescriptor "(ILjava/lang/String;)V" = some ⟨[.int, (.object "java/lang/String")], none⟩ := by decide +kernel
theorem own_pd11 : parseMethodDescriptor "(Ljava/lang/String;)Ljava/lang/AbstractStringBuilder;" = some ⟨[(.object "java/lang/String")], some (.object "java/lang/AbstractStringBuilder")⟩ := by decide +kernel
theorem own_pd12 : parseMethodDescriptor "(II)V" = some ⟨[.int, .int], none⟩ := by decide +kernel
theorem own_pd13 : parseMethodDescriptor "(II)I" = some ⟨[.int, .int], some .int⟩ := by decide +kernel
theorem own_pd14 : parseMethodDescriptor "([BII)[B" = some ⟨[(.array .byte), .int, .int], some (.array .byte)⟩ := by decide +kernel
theorem own_pd15 : parseMethodDescriptor "()[B" = some ⟨[], some (.array .byte)⟩ := by decide +kernel
theorem own_pd16 : parseMethodDescriptor "()Z" = some ⟨[], some .boolean⟩ := by decide +kernel
theorem own_pd17 : parseMethodDescriptor "(Ljava/lang/AbstractStringBuilder;Ljava/lang/Void;)V" = some ⟨[(.object "java/lang/AbstractStringBuilder"), (.object "java/lang/Void")], none⟩ := by decide +kernel
theorem own_pd18 : parseMethodDescriptor "(Ljava/lang/StringBuilder;)V" = some ⟨[(.object "java/lang/StringBuilder")], none⟩ := by decide +kernel
theorem own_pd19 : parseMethodDescriptor "([C)V" = some ⟨[(.array .char)], none⟩ := by decide +kernel
theorem own_pd20 : parseMethodDescriptor "(C)Ljava/lang/String;" = some ⟨[.char], some (.object "java/lang/String")⟩ := by decide +kernel
theorem own_pd21 : parseMethodDescriptor "(Ljava/lang/Object;)Ljava/lang/Object;" = some ⟨[(.object "java/lang/Object")], some (.object "java/lang/Object")⟩ := by decide +kernel
theorem own_pd22 : parseMethodDescriptor "(Ljava/lang/Object;)V" = some ⟨[(.object "java/lang/Object")], none⟩ := by decide +kernel
theorem own_pd23 : parseMethodDescriptor "(Ljava/lang/Object;Ljava/lang/String;)Ljava/lang/Object;" = some ⟨[(.object "java/lang/Object"), (.object "java/lang/String")], some (.object "java/lang/Object")⟩ := by decide +kernel
theorem own_pd24 : parseMethodDescriptor "(Ljava/lang/Object;)Ljava/util/Optional;" = some ⟨[(.object "java/lang/Object")], some (.object "java/util/Optional")⟩ := by decide +kernel
theorem own_pd25 : parseMethodDescriptor "(Ljava/time/Instant;Ljava/util/Optional;)V" = some ⟨[(.object "java/time/Instant"), (.object "java/util/Optional")], none⟩ := by decide +kernel
theorem own_pd26 : parseMethodDescriptor "()V" = some ⟨[], none⟩ := by decide +kernel
theorem own_pd27 : parseMethodDescriptor "(Ljava/lang/String;)Ljava/lang/StringBuilder;" = some ⟨[(.object "java/lang/String")], some (.object "java/lang/StringBuilder")⟩ := by decide +kernel
theorem own_pd28 : parseMethodDescriptor "()Ljava/lang/String;" = some ⟨[], some (.object "java/lang/String")⟩ := by decide +kernel
theorem own_pd29 : parseMethodDescriptor "(Ljava/lang/String;)Ljava/lang/String;" = some ⟨[(.object "java/lang/String")], some (.object "java/lang/String")⟩ := by decide +kernel
theorem own_pd30 : parseMethodDescriptor "(Ljava/util/function/Function;)Ljava/util/Optional;" = some ⟨[(.object "java/util/function/Function")], some (.object "java/util/Optional")⟩ := by decide +kernel
theorem own_pd31 : parseMethodDescriptor "(ICCC)Ljava/lang/String;" = some ⟨[.int, .char, .char, .char], some (.object "java/lang/String")⟩ := by decide +kernel
theorem own_pd32 : parseMethodDescriptor "(Ljava/lang/String;)Lcom/example/wallhour/wallhour/Choice;" = some ⟨[(.object "java/lang/String")], some (.object "com/example/wallhour/wallhour/Choice")⟩ := by decide +kernel
theorem own_pd33 : parseMethodDescriptor "(Ljava/lang/Object;)Z" = some ⟨[(.object "java/lang/Object")], some .boolean⟩ := by decide +kernel
/-- a String that spells bs (its bytes) -/
def Str (Z : State) (h : Heap) (a : Addr) (bs : List Int32) : Prop := Exa Z h a "java/lang/String" ∧ Fld Z h a "java/lang/String" "coder" "B" (.int 0) ∧ ∃ (b : Addr) (kb : ClassId) (z : Int32), Fld Z h a "java/lang/String" "value" "[B" (.ref b) ∧ Arv Z h b kb .byte z (bs.map Value.int) (.int 0) ∧ z.toNatClampNeg = bs.length
theorem Str.ext {Z : State} {h h' : Heap} {a : Addr} {bs : List Int32} (F : Str Z h a bs) (E : Ext h h') : Str Z h' a bs := by
  obtain ⟨f1, f2, b, kb, z, f3, f4, f5⟩ := F
  exact ⟨f1.ext E, f2.ext E, b, kb, z, f3.ext E, f4.ext E, f5⟩
theorem Str.lt {Z : State} {h : Heap} {a : Addr} {bs : List Int32} (F : Str Z h a bs) : a < h.size := F.1.lt
theorem own_fld_inj {Z : State} {h : Heap} {a : Addr} {C n d : String} {v w : Value} (F : Fld Z h a C n d v) (G : Fld Z h a C n d w) : v = w := by
  obtain ⟨c1, cf1, k1, i1, f1, e1, e2, -, -, -, -, e7⟩ := F
  obtain ⟨c2, cf2, k2, i2, f2, g1, g2, -, -, -, -, g7⟩ := G
  cases e1.symm.trans g1
  cases e2.symm.trans g2
  exact Option.some.inj (e7.symm.trans g7)
theorem own_arv_inj {Z : State} {h : Heap} {a : Addr} {k k' : ClassId} {ty : FieldType} {z z' : Int32} {vs ws : List Value} {d : Value} (F : Arv Z h a k ty z vs d) (G : Arv Z h a k' ty z' ws d) (hv : z.toNatClampNeg = vs.length) (hw : z'.toNatClampNeg = ws.length) : vs = ws := by
  obtain ⟨c1, A1, -, s1, -, H1, -⟩ := F
  obtain ⟨c2, A2, -, s2, -, H2, -⟩ := G
  cases A1.1.symm.trans A2.1
  have e : vs.length = ws.length := by omega
  refine List.ext_getElem e fun i h1 h2 => ?_
  have q1 := H1 i (by omega)
  have q2 := H2 i (by omega)
  have q := q1.symm.trans q2
  simpa [List.getD_eq_getElem?_getD, h1, h2] using q
theorem own_map_inj {bs ds : List Int32} (h : bs.map Value.int = ds.map Value.int) : bs = ds :=
  (List.map_inj_right (fun x y e => by injection e)).mp h
theorem Str.inj {Z : State} {h : Heap} {a : Addr} {bs ds : List Int32} (F : Str Z h a bs) (G : Str Z h a ds) : bs = ds := by
  obtain ⟨-, -, b, kb, z, f3, f4, f5⟩ := F
  obtain ⟨-, -, b', kb', z', g3, g4, g5⟩ := G
  have e := own_fld_inj f3 g3
  injection e with e
  subst e
  exact own_map_inj (own_arv_inj f4 g4 (by simpa using f5) (by simpa using g5))
theorem own_n32 {k : Nat} (h : k < 2147483648) : (Int32.ofNat k).toInt = k := by
  rw [Int32.toInt_ofNat', show Int32.size = 4294967296 from rfl]; simp only [Int.bmod]; omega
theorem own_cat {d : Value} (h : d.isRef = true) : d.category = 1 := by rcases ref_cases h with rfl | ⟨a, rfl⟩ <;> rfl
theorem own_ne_t {x y : Value} (h : x ≠ y) : XT.acmp .ne x y = true := decide_eq_true h
theorem own_ne_f {x y : Value} (h : x = y) : XT.acmp .ne x y = false := decide_eq_false (fun q => q h)
theorem own_eq_t {x y : Value} (h : x = y) : XT.acmp .eq x y = true := decide_eq_true h
theorem own_eq_f {x y : Value} (h : x ≠ y) : XT.acmp .eq x y = false := decide_eq_false h
theorem own_clamp {k : Nat} (h : k < 2147483648) : (Int32.ofNat k).toNatClampNeg = k := by
  simp only [Int32.toNatClampNeg, own_n32 h]; rfl
theorem own_z {z : Int32} (h0 : ¬ z < 0) : z = Int32.ofNat z.toNatClampNeg ∧ z.toNatClampNeg < 2147483648 := by
  have q := back32 h0
  exact ⟨q.1.symm, q.2⟩
theorem own_ltN {k m : Nat} (hk : k < 2147483648) (hm : m < 2147483648) : (Int32.ofNat k < Int32.ofNat m) ↔ k < m := by
  rw [Int32.lt_iff_toInt_lt, own_n32 hk, own_n32 hm]; omega
theorem own_nn {k : Nat} (hk : k < 2147483648) : ¬ (Int32.ofNat k < 0) := by
  rw [Int32.lt_iff_toInt_lt, own_n32 hk]
  have e0 : (0 : Int32).toInt = 0 := rfl
  omega
theorem own_inc {k : Nat} (hk : k + 1 < 2147483648) : Int32.ofNat k + Int32.ofInt 1 = Int32.ofNat (k + 1) := by
  rw [← Int32.toInt_inj, Int32.toInt_add, own_n32 (by omega), own_n32 hk]
  have e0 : (Int32.ofInt 1).toInt = 1 := rfl
  rw [e0]; simp only [Int.bmod]; omega
theorem own_rng_nil : ∀ c ∈ ([] : List Int32), ¬ c < 0 ∧ ¬ (255 : Int32) < c := fun _ q => nomatch q
theorem own_rng_cons {x : Int32} {xs : List Int32} (h : ¬ x < 0 ∧ ¬ (255 : Int32) < x) (t : ∀ c ∈ xs, ¬ c < 0 ∧ ¬ (255 : Int32) < c) : ∀ c ∈ x :: xs, ¬ c < 0 ∧ ¬ (255 : Int32) < c := fun c hc => by
  rcases List.mem_cons.mp hc with rfl | hc
  · exact h
  · exact t c hc
theorem own_c8r (x : Int32) : ¬ (x &&& 255) < 0 ∧ ¬ (255 : Int32) < (x &&& 255) := by
  have h1 := c_mask x 255 8 (by decide) (by decide)
  rw [Int32.lt_iff_toInt_lt, Int32.lt_iff_toInt_lt]
  have e0 : (0 : Int32).toInt = 0 := rfl
  have e1 : (255 : Int32).toInt = 255 := rfl
  omega
theorem own_rng {k : Int32} (h : ¬ k < 0 ∧ ¬ (255 : Int32) < k) : 0 ≤ k.toInt ∧ k.toInt ≤ 255 := by
  rw [Int32.lt_iff_toInt_lt, Int32.lt_iff_toInt_lt] at h
  have e0 : (0 : Int32).toInt = 0 := rfl
  have e1 : (255 : Int32).toInt = 255 := rfl
  omega
theorem own_c16 {k : Int32} (h : ¬ k < 0 ∧ ¬ (255 : Int32) < k) : k.toUInt32.toUInt16.toUInt32.toInt32 = k := by
  have a := own_rng h
  have b := c_i2c k
  rw [← Int32.toInt_inj]; omega
theorem own_inj8 {k m : Int32} (h : ¬ k < 0 ∧ ¬ (255 : Int32) < k) (h' : ¬ m < 0 ∧ ¬ (255 : Int32) < m) (e : k.toInt8.toInt32 = m.toInt8.toInt32) : k = m := by
  have a := own_rng h
  have b := own_rng h'
  have c1 := c_i2b k
  have c2 := c_i2b m
  rw [e] at c1
  rw [← Int32.toInt_inj]; omega
theorem own_skeep {Z : State} {h h' : Heap} {a b : Addr} {bs : List Int32} {C : String} {n : Nat} {a0 : Array Value} (F : Str Z h a bs) (A : Exa Z h b C) (K : Keep h h' [b]) (hC : C ≠ "java/lang/String") (wi : (Cond.instantiable C n).before a0 Z = true) : Str Z h' a bs := by
  obtain ⟨f1, f2, c, kc, z, f3, f4, f5⟩ := F
  have n1 : a ≠ b := fun e => ne_exa A f1 hC e.symm
  have n2 : b ≠ c := Exa.neArv A f4 wi
  have m1 : a ∉ [b] := fun q => n1 (List.mem_singleton.mp q)
  have m2 : c ∉ [b] := fun q => n2 (List.mem_singleton.mp q).symm
  exact ⟨f1.keep K, f2.keep K m1, c, kc, z, f3.keep K m1, f4.keep K m2, f5⟩
theorem own_noinst {Z : State} {a0 : Array Value} {C S K : String} {n : Nat} (w : (Cond.superclass C S).before a0 Z = true) (wr : (Cond.noSuperclass S).before a0 Z = true) (wi : (Cond.instantiable K n).before a0 Z = true) (h1 : C ≠ K) (h2 : S ≠ K) : ∃ c t, Z.vm.findClass C = some c ∧ Z.vm.findClass K = some t ∧ Z.vm.assignable c t = false := by
  obtain ⟨c, k, hc, hk, hs, hkd, hif⟩ := Cond.noSuperclass_spec wr
  obtain ⟨t, kt, ht, hkt, hkk, hni, -⟩ := Cond.instantiable_spec wi
  obtain ⟨c0, hc0⟩ := found_sup w
  obtain ⟨p, k0, kp, q1, q2, q3, q4, q5, q6, q7⟩ := Cond.superclass_spec hc0 w
  cases hc.symm.trans q1
  cases hk.symm.trans q3
  have n1 := ids_ne hc0 ht h1
  have n2 := ids_ne hc ht h2
  have hni' : kt.isInterface = false := by
    cases hq : kt.isInterface with
    | false => rfl
    | true => rw [hq] at hni; simp at hni
  refine ⟨c0, t, hc0, ht, ?_⟩
  have key : ∀ fuel, Z.vm.isSubclassAux fuel c t = false := fun fuel => by
    cases fuel with
    | zero => rfl
    | succ f => simp [Vm.isSubclassAux, n2, hk, hs]
  have key2 : ∀ fuel, Z.vm.isSubclassAux fuel c0 t = false := fun fuel => by
    cases fuel with
    | zero => rfl
    | succ f => simp [Vm.isSubclassAux, n1, q2, q4, key]
  show Z.vm.assignableAux (255 + 1) c0 t = false
  simp [Vm.assignableAux, n1, q2, hkt, q5, hkk, hni', Vm.isSubclass, key2]

/-- a StringBuilder at a, its byte[16] at b, that spells bs -/
def SBf (Z : State) (h : Heap) (a b : Addr) (bs : List Int32) : Prop := Exa Z h a "java/lang/StringBuilder" ∧ Fld Z h a "java/lang/AbstractStringBuilder" "value" "[B" (.ref b) ∧ Fld Z h a "java/lang/AbstractStringBuilder" "coder" "B" (.int 0) ∧ Fld Z h a "java/lang/AbstractStringBuilder" "count" "I" (.int (Int32.ofNat bs.length)) ∧ Z.heap.size ≤ a ∧ Z.heap.size ≤ b ∧ ∃ (kb : ClassId) (vs : List Value), Arv Z h b kb .byte 16 vs (.int 0) ∧ vs.length = 16 ∧ vs.take bs.length = bs.map Value.int
theorem SBf.ext {Z : State} {h h' : Heap} {a b : Addr} {bs : List Int32} (F : SBf Z h a b bs) (E : Ext h h') : SBf Z h' a b bs := by
  obtain ⟨f1, f2, f3, f4, f5, f6, kb, vs, f7, f8⟩ := F
  exact ⟨f1.ext E, f2.ext E, f3.ext E, f4.ext E, f5, f6, kb, vs, f7.ext E, f8⟩
theorem own_nfAB {Z : State} {y z : MethodName} (h : NotFace Z y) (e : z.cls = y.cls) (hy : ∃ r, Z.methodNamed? y = some r) : NotFace Z z := fun r0 h0 => by
  obtain ⟨r, hr⟩ := hy
  obtain ⟨k, h1, h2⟩ := h r hr
  have q1 := findClass_of_methodNamed h0
  have q2 := findClass_of_methodNamed hr
  rw [e] at q1
  have q3 := Option.some.inj (q1.symm.trans q2)
  exact ⟨k, by rw [q3]; exact h1, h2⟩
theorem own_shr0 (z : Int32) : z >>> ((0 : Int32) &&& 31) = z := by
  rw [← Int32.toInt_inj, c_ishr z 0 0 (by decide)]; simp
theorem own_shl0 (z : Int32) : z <<< ((0 : Int32) &&& 31) = z := by
  have e : (1 : Int32) <<< ((0 : Int32) &&& 31) = 1 := by decide
  rw [shlm e]; simp
theorem own_addN {k m : Nat} (h : k + m < 2147483648) : Int32.ofNat k + Int32.ofNat m = Int32.ofNat (k + m) := by
  rw [← Int32.toInt_inj, Int32.toInt_add, own_n32 (by omega), own_n32 (by omega), own_n32 h]; simp only [Int.bmod]; omega
theorem own_subN {k m : Nat} (h : k < 2147483648) (hm : m ≤ k) : Int32.ofNat k - Int32.ofNat m = Int32.ofNat (k - m) := by
  rw [← Int32.toInt_inj, Int32.toInt_sub, own_n32 (by omega), own_n32 (by omega), own_n32 (by omega)]; simp only [Int.bmod]; omega
theorem own_le16 {k : Nat} (h : k ≤ 16) : ¬ (0 : Int32) < Int32.ofNat k - 16 := by
  rw [Int32.lt_iff_toInt_lt, Int32.toInt_sub, own_n32 (by omega)]
  have e0 : (0 : Int32).toInt = 0 := rfl
  have e1 : (16 : Int32).toInt = 16 := rfl
  rw [e0, e1]; simp only [Int.bmod]; omega
theorem own_rangeMap (L : List Value) (d : Value) : (List.range L.length).map (fun i => L.getD ((0 : Int32).toNatClampNeg + i) d) = L := by
  have e0 : (0 : Int32).toNatClampNeg = 0 := rfl
  refine List.ext_getElem (by simp) fun i h1 h2 => ?_
  simp [e0, List.getD_eq_getElem?_getD, h2]
theorem own_rangeDrop (L : List Value) (d : Value) (f n : Nat) (h : f + n ≤ L.length) : (List.range n).map (fun i => L.getD (f + i) d) = (L.drop f).take n := by
  refine List.ext_getElem (by simp; omega) fun i h1 h2 => ?_
  simp at h1 h2
  simp [List.getD_eq_getElem?_getD, show f + i < L.length by omega]
theorem own_splice {vs us : List Value} {n : Nat} (h : n ≤ vs.length) : (vs.take n ++ us ++ vs.drop (n + us.length)).take (n + us.length) = vs.take n ++ us := by
  have e : (vs.take n ++ us).length = n + us.length := by simp [Nat.min_eq_left h]
  rw [← e, List.take_left']
  rfl
theorem own_splice_len {vs us : List Value} {n : Nat} (h : n + us.length ≤ vs.length) : (vs.take n ++ us ++ vs.drop (n + us.length)).length = vs.length := by
  simp; omega
theorem own_ltZ {k : Nat} {z : Int32} (hz : ¬ z < 0) (h : k < z.toNatClampNeg) : Int32.ofNat k < z := by
  have q := own_z hz
  rw [q.1, own_ltN (by omega) q.2]; exact h

def own_R8 : List Int32 := [(114 : Int32).toInt8.toInt32, (101 : Int32).toInt8.toInt32, (106 : Int32).toInt8.toInt32, (101 : Int32).toInt8.toInt32, (99 : Int32).toInt8.toInt32, (116 : Int32).toInt8.toInt32, (58 : Int32).toInt8.toInt32, (32 : Int32).toInt8.toInt32]
theorem own_R8e : own_R8 = [114, 101, 106, 101, 99, 116, 58, 32] := by decide
def own_tx (n a b c : Int32) : List Int32 := if n = 0 then [] else if n = 1 then [a.toInt8.toInt32] else if n = 2 then [a.toInt8.toInt32, b.toInt8.toInt32] else [a.toInt8.toInt32, b.toInt8.toInt32, c.toInt8.toInt32]
theorem own_txle (n a b c : Int32) : (own_tx n a b c).length ≤ 3 := by
  unfold own_tx; repeat' split
  all_goals first | decide | simp
theorem own_txlen (x a b c : Int32) : Int32.ofNat (own_tx (x &&& 3) a b c).length = x &&& 3 := by
  have m1 := c_mask x 3 2 (by decide) (by decide)
  have hc : (x &&& 3) = 0 ∨ (x &&& 3) = 1 ∨ (x &&& 3) = 2 ∨ (x &&& 3) = 3 := by
    have e0 : (0 : Int32).toInt = 0 := rfl
    have e1 : (1 : Int32).toInt = 1 := rfl
    have e2 : (2 : Int32).toInt = 2 := rfl
    have e3 : (3 : Int32).toInt = 3 := rfl
    simp only [← Int32.toInt_inj, e0, e1, e2, e3]; omega
  rcases hc with e | e | e | e <;> rw [e] <;> rfl
theorem own_mem2 {n : Nat} {b a : Addr} (h1 : n ≤ b) (h2 : n ≤ a) : ∀ y ∈ [b, a], n ≤ y := fun y hy => by
  rcases List.mem_cons.mp hy with rfl | hy
  · exact h1
  · cases List.mem_singleton.mp hy; exact h2
def own_sig : Jvm.Lambda.Shape := (Jvm.Lambda.Shape.mk "java/util/function/Function" "apply" (Jvm.ClassFile.MethodDescriptor.mk ([(Jvm.ClassFile.FieldType.object "java/lang/Object")] : List Jvm.ClassFile.FieldType) (Option.some (Jvm.ClassFile.FieldType.object "java/lang/Object"))) ([] : List Jvm.ClassFile.FieldType) (6 : Nat) "com/example/wallhour/wallhour/Choice" "lambda$toString$0" (Jvm.ClassFile.MethodDescriptor.mk ([(Jvm.ClassFile.FieldType.object "java/lang/String")] : List Jvm.ClassFile.FieldType) (Option.some (Jvm.ClassFile.FieldType.object "java/lang/String"))) false (Jvm.ClassFile.MethodDescriptor.mk ([(Jvm.ClassFile.FieldType.object "java/lang/String")] : List Jvm.ClassFile.FieldType) (Option.some (Jvm.ClassFile.FieldType.object "java/lang/String"))))
def own_fc : ByteArray := ⟨#[0x2b, 0xc0, 0x00, 0x0e, 0xb8, 0x00, 0x14, 0xb0]⟩
theorem own_f0 : decode own_fc 0 = .ok (.aload_n 1, 1) := by decide +kernel
theorem own_f1 : decode own_fc 1 = .ok (.checkcast 14, 3) := by decide +kernel
theorem own_f4 : decode own_fc 4 = .ok (.invokestatic 20, 3) := by decide +kernel
theorem own_f7 : decode own_fc 7 = .ok (.areturn, 1) := by decide +kernel
theorem own_fok : Jvm.LamKit.fwdOK own_sig "com/example/wallhour/wallhour/Choice" own_fc 2 (some (.object "java/lang/Object")) 20 16 = true := by decide +kernel
theorem own_fcl : own_clsOK own_sig "com/example/wallhour/wallhour/Choice" 14 "java/lang/String" = true := by decide +kernel

theorem dLE_0 : decode jdk_43_method_13_code 0 = .ok (.aload_n 0, 1) := by decide +kernel
theorem dLE_1 : decode jdk_43_method_13_code 1 = .ok (.arraylength, 1) := by decide +kernel
theorem dLE_2 : decode jdk_43_method_13_code 2 = .ok (.aload_n 1, 1) := by decide +kernel
theorem dLE_3 : decode jdk_43_method_13_code 3 = .ok (.arraylength, 1) := by decide +kernel
theorem dLE_4 : decode jdk_43_method_13_code 4 = .ok (.if_icmp .ne 30, 3) := by decide +kernel
theorem dLE_7 : decode jdk_43_method_13_code 7 = .ok (.iconst 0, 1) := by decide +kernel
theorem dLE_8 : decode jdk_43_method_13_code 8 = .ok (.istore_n 2, 1) := by decide +kernel
theorem dLE_9 : decode jdk_43_method_13_code 9 = .ok (.iload_n 2, 1) := by decide +kernel
theorem dLE_10 : decode jdk_43_method_13_code 10 = .ok (.aload_n 0, 1) := by decide +kernel
theorem dLE_11 : decode jdk_43_method_13_code 11 = .ok (.arraylength, 1) := by decide +kernel
theorem dLE_12 : decode jdk_43_method_13_code 12 = .ok (.if_icmp .ge 20, 3) := by decide +kernel
theorem dLE_15 : decode jdk_43_method_13_code 15 = .ok (.aload_n 0, 1) := by decide +kernel
theorem dLE_16 : decode jdk_43_method_13_code 16 = .ok (.iload_n 2, 1) := by decide +kernel
theorem dLE_17 : decode jdk_43_method_13_code 17 = .ok (.baload, 1) := by decide +kernel
theorem dLE_18 : decode jdk_43_method_13_code 18 = .ok (.aload_n 1, 1) := by decide +kernel
theorem dLE_19 : decode jdk_43_method_13_code 19 = .ok (.iload_n 2, 1) := by decide +kernel
theorem dLE_20 : decode jdk_43_method_13_code 20 = .ok (.baload, 1) := by decide +kernel
theorem dLE_21 : decode jdk_43_method_13_code 21 = .ok (.if_icmp .eq 5, 3) := by decide +kernel
theorem dLE_24 : decode jdk_43_method_13_code 24 = .ok (.iconst 0, 1) := by decide +kernel
theorem dLE_25 : decode jdk_43_method_13_code 25 = .ok (.ireturn, 1) := by decide +kernel
theorem dLE_26 : decode jdk_43_method_13_code 26 = .ok (.iinc 2 1, 3) := by decide +kernel
theorem dLE_29 : decode jdk_43_method_13_code 29 = .ok (.goto (-20), 3) := by decide +kernel
theorem dLE_32 : decode jdk_43_method_13_code 32 = .ok (.iconst 1, 1) := by decide +kernel
theorem dLE_33 : decode jdk_43_method_13_code 33 = .ok (.ireturn, 1) := by decide +kernel
theorem dLE_34 : decode jdk_43_method_13_code 34 = .ok (.iconst 0, 1) := by decide +kernel
theorem dLE_35 : decode jdk_43_method_13_code 35 = .ok (.ireturn, 1) := by decide +kernel
set_option maxRecDepth 65536 in
set_option maxHeartbeats 40000000 in
theorem own_leq (l : Launch) (Z : State) (a0 : Array Value) (hw : ∀ d ∈ tables_1, d.before a0 Z = true) (EL : List (String × Nat)) (hEL : EW Z a0 EL) (h0 : Heap) (b c : Addr) (kb kc : ClassId) (z z' : Int32) (bs ds : List Int32) (A : Arv Z h0 b kb .byte z (bs.map Value.int) (.int 0)) (B : Arv Z h0 c kc .byte z' (ds.map Value.int) (.int 0)) (hz0 : ¬ z < 0) (hz : z.toNatClampNeg = bs.length) (hz0' : ¬ z' < 0) (hz' : z'.toNatClampNeg = ds.length) :
    Con l Z EL false [] (⟨"java/lang/StringLatin1", "equals", "([B[B)Z"⟩ : MethodName) jdk_43_method_13_code 3 (some .boolean) ({ frames := 0, cells := 0, slots := 0, locals := 0 } : Room) #[(.ref b), (.ref c)] h0 (fun v h' => v = some (.int (if bs = ds then 1 else 0)) ∧ h0 = h') := by
  refine Con.of (Ls := #[.val (.ref b), .val (.ref c), .unset]) (plainFor_of_name own_pn0) hEL (fun m => by first | (simp [entryFrame, mkF, argsToLocals, Value.category]; done) | rfl) ?_
  intro vm0 hZ0 hE0 hC0 hS0
  obtain ⟨z1, z2⟩ := own_z hz0
  obtain ⟨z1', z2'⟩ := own_z hz0'
  rw [hz] at z1 z2
  rw [hz'] at z1' z2'
  have loop : bs.length = ds.length → ∀ r k, k + r = bs.length → bs.take k = ds.take k → WP l Z EL false "java/lang/StringLatin1" "equals" "([B[B)Z" jdk_43_method_13_code 3 (some .boolean) ({ frames := 0, cells := 0, slots := 0, locals := 0 } : Room) (fun v h' => v = some (.int (if bs = ds then 1 else 0)) ∧ h0 = h') vm0 h0 0 0 9 #[.val (.ref b), .val (.ref c), .val (.int (Int32.ofNat k))] [] := by
    intro hlen r
    induction r with
    | zero =>
      intro k hk ht
      refine WP.iloadN (n := 10) dLE_9 rfl rfl ?_
      refine WP.aloadN (n := 11) dLE_10 rfl rfl rfl ?_
      refine WP.alen (n := 12) dLE_11 A rfl ?_
      refine WP.icmpY (n := 32) dLE_12 (flt (by rw [z1]; rw [own_ltN (by omega) (by omega)]; omega)).2.1 (by decide) (by decide) ?_
      refine WP.iconst (n := 33) (z := (1 : Int32)) dLE_32 rfl rfl ?_
      refine WP.retN dLE_33 rfl (Or.inl rfl) (by decide : nar .boolean 1 = 1) (by decide) (by decide) ⟨?_, rfl⟩
      rw [if_pos]
      have e : k = bs.length := by omega
      rw [e, List.take_length, hlen, List.take_length] at ht
      exact ht
    | succ r ih =>
      intro k hk ht
      have kb : k < bs.length := by omega
      have kd : k < ds.length := by omega
      refine WP.iloadN (n := 10) dLE_9 rfl rfl ?_
      refine WP.aloadN (n := 11) dLE_10 rfl rfl rfl ?_
      refine WP.alen (n := 12) dLE_11 A rfl ?_
      refine WP.icmpN (n' := 15) dLE_12 (tlt (by rw [z1]; rw [own_ltN (by omega) (by omega)]; omega)).2.1 rfl ?_
      refine WP.aloadN (n := 16) dLE_15 rfl rfl rfl ?_
      refine WP.iloadN (n := 17) dLE_16 rfl rfl ?_
      refine WP.baload (n := 18) (v := .int bs[k]) dLE_17 A ⟨own_nn (by omega), by rw [z1, own_ltN (by omega) (by omega)]; omega⟩ (by rw [own_clamp (by omega)]; simp [List.getD_eq_getElem?_getD, kb]) rfl ?_
      refine WP.aloadN (n := 19) dLE_18 rfl rfl rfl ?_
      refine WP.iloadN (n := 20) dLE_19 rfl rfl ?_
      refine WP.baload (n := 21) (v := .int ds[k]) dLE_20 B ⟨own_nn (by omega), by rw [z1', own_ltN (by omega) (by omega)]; omega⟩ (by rw [own_clamp (by omega)]; simp [List.getD_eq_getElem?_getD, kd]) rfl ?_
      refine WP.icmp_eq (n := 26) (n' := 24) dLE_21 (by decide) (by decide) rfl (fun b1 => ?_) (fun b1 => ?_)
      · refine WP.iinc (n := 29) (z := Int32.ofNat (k + 1)) (Ls' := #[.val (.ref b), .val (.ref c), .val (.int (Int32.ofNat (k + 1)))]) dLE_26 rfl (own_inc (by omega)) rfl rfl ?_
        refine WP.goto (n := 9) dLE_29 (by decide) (by decide) ?_
        refine ih (k + 1) (by omega) ?_
        rw [List.take_succ_eq_append_getElem kb, List.take_succ_eq_append_getElem kd, ht, b1]
      · refine WP.iconst (n := 25) (z := (0 : Int32)) dLE_24 rfl rfl ?_
        refine WP.retN dLE_25 rfl (Or.inl rfl) (by decide : nar .boolean 0 = 0) (by decide) (by decide) ⟨?_, rfl⟩
        rw [if_neg]
        intro e
        subst e
        exact b1 rfl
  refine WP.aloadN (n := 1) dLE_0 rfl rfl rfl ?_
  refine WP.alen (n := 2) dLE_1 A rfl ?_
  refine WP.aloadN (n := 3) dLE_2 rfl rfl rfl ?_
  refine WP.alen (n := 4) dLE_3 B rfl ?_
  refine WP.icmp_ne (n := 34) (n' := 7) dLE_4 (by decide) (by decide) rfl (fun b2 => ?_) (fun b2 => ?_)
  · refine WP.iconst (n := 35) (z := (0 : Int32)) dLE_34 rfl rfl ?_
    refine WP.retN dLE_35 rfl (Or.inl rfl) (by decide : nar .boolean 0 = 0) (by decide) (by decide) ⟨?_, rfl⟩
    rw [if_neg]
    intro e
    subst e
    exact b2 (z1.trans z1'.symm)
  · refine WP.iconst (n := 8) (z := (0 : Int32)) dLE_7 rfl rfl ?_
    refine WP.istoreN (n := 9) (Ls' := #[.val (.ref b), .val (.ref c), .val (.int (0 : Int32))]) dLE_8 rfl rfl ?_
    exact loop (by rw [← hz, ← hz', b2]) bs.length 0 (by omega) rfl
theorem dSE_0 : decode jdk_42_method_66_code 0 = .ok (.aload_n 0, 1) := by decide +kernel
theorem dSE_1 : decode jdk_42_method_66_code 1 = .ok (.aload_n 1, 1) := by decide +kernel
theorem dSE_2 : decode jdk_42_method_66_code 2 = .ok (.if_acmp .ne 5, 3) := by decide +kernel
theorem dSE_5 : decode jdk_42_method_66_code 5 = .ok (.iconst 1, 1) := by decide +kernel
theorem dSE_6 : decode jdk_42_method_66_code 6 = .ok (.ireturn, 1) := by decide +kernel
theorem dSE_7 : decode jdk_42_method_66_code 7 = .ok (.aload_n 1, 1) := by decide +kernel
theorem dSE_8 : decode jdk_42_method_66_code 8 = .ok (.instanceof 10, 3) := by decide +kernel
theorem dSE_11 : decode jdk_42_method_66_code 11 = .ok (.ifCond .eq 43, 3) := by decide +kernel
theorem dSE_14 : decode jdk_42_method_66_code 14 = .ok (.aload_n 1, 1) := by decide +kernel
theorem dSE_15 : decode jdk_42_method_66_code 15 = .ok (.checkcast 10, 3) := by decide +kernel
theorem dSE_18 : decode jdk_42_method_66_code 18 = .ok (.astore_n 2, 1) := by decide +kernel
theorem dSE_19 : decode jdk_42_method_66_code 19 = .ok (.getstatic 38, 3) := by decide +kernel
theorem dSE_22 : decode jdk_42_method_66_code 22 = .ok (.ifCond .eq 14, 3) := by decide +kernel
theorem dSE_25 : decode jdk_42_method_66_code 25 = .ok (.aload_n 0, 1) := by decide +kernel
theorem dSE_26 : decode jdk_42_method_66_code 26 = .ok (.getfield 15, 3) := by decide +kernel
theorem dSE_29 : decode jdk_42_method_66_code 29 = .ok (.aload_n 2, 1) := by decide +kernel
theorem dSE_30 : decode jdk_42_method_66_code 30 = .ok (.getfield 15, 3) := by decide +kernel
theorem dSE_33 : decode jdk_42_method_66_code 33 = .ok (.if_icmp .ne 21, 3) := by decide +kernel
theorem dSE_36 : decode jdk_42_method_66_code 36 = .ok (.aload_n 0, 1) := by decide +kernel
theorem dSE_37 : decode jdk_42_method_66_code 37 = .ok (.getfield 9, 3) := by decide +kernel
theorem dSE_40 : decode jdk_42_method_66_code 40 = .ok (.aload_n 2, 1) := by decide +kernel
theorem dSE_41 : decode jdk_42_method_66_code 41 = .ok (.getfield 9, 3) := by decide +kernel
theorem dSE_44 : decode jdk_42_method_66_code 44 = .ok (.invokestatic 541, 3) := by decide +kernel
theorem dSE_47 : decode jdk_42_method_66_code 47 = .ok (.ifCond .eq 7, 3) := by decide +kernel
theorem dSE_50 : decode jdk_42_method_66_code 50 = .ok (.iconst 1, 1) := by decide +kernel
theorem dSE_51 : decode jdk_42_method_66_code 51 = .ok (.goto 4, 3) := by decide +kernel
theorem dSE_54 : decode jdk_42_method_66_code 54 = .ok (.iconst 0, 1) := by decide +kernel
theorem dSE_55 : decode jdk_42_method_66_code 55 = .ok (.ireturn, 1) := by decide +kernel
set_option maxRecDepth 65536 in
set_option maxHeartbeats 40000000 in
theorem own_seq (l : Launch) (Z : State) (a0 : Array Value) (hw : ∀ d ∈ tables_1, d.before a0 Z = true) (EL : List (String × Nat)) (hEL : EW Z a0 EL) (h0 : Heap) (a b : Addr) (bs ds : List Int32) (A : Str Z h0 a bs) (B : Str Z h0 b ds) (cz : Int32) (O : Sta Z Z.heap "java/lang/String" "COMPACT_STRINGS" "Z" (.int cz)) (hO : ¬ cz = 0) :
    Con l Z EL false [] (⟨"java/lang/String", "equals", "(Ljava/lang/Object;)Z"⟩ : MethodName) jdk_42_method_66_code 3 (some .boolean) ({ frames := 1, cells := 0, slots := 0, locals := 14 } : Room) #[(.ref a), (.ref b)] h0 (fun v h' => v = some (.int (if bs = ds then 1 else 0)) ∧ h0 = h') := by
  refine Con.of (Ls := #[.val (.ref a), .val (.ref b), .unset]) (plainFor_of_name own_pn1) hEL (fun m => by first | (simp [entryFrame, mkF, argsToLocals, Value.category]; done) | rfl) ?_
  intro vm0 hZ0 hE0 hC0 hS0
  obtain ⟨f1, f2, ba, ka, za, f3, f4, f5⟩ := id A
  obtain ⟨g1, g2, bb, kb, zb, g3, g4, g5⟩ := id B
  have hza : ¬ za < 0 := by obtain ⟨_, _, _, _, q, _⟩ := f4; exact q
  have hzb : ¬ zb < 0 := by obtain ⟨_, _, _, _, q, _⟩ := g4; exact q
  refine WP.aloadN (n := 1) dSE_0 rfl rfl rfl ?_
  refine WP.aloadN (n := 2) dSE_1 rfl rfl rfl ?_
  by_cases hab : a = b
  · refine WP.acmpN (n' := 5) dSE_2 rfl rfl (own_ne_f (by rw [hab])) rfl ?_
    refine WP.iconst (n := 6) (z := (1 : Int32)) dSE_5 rfl rfl ?_
    exact WP.retN dSE_6 rfl (Or.inl rfl) (by decide : nar .boolean 1 = 1) (by decide) (by decide) ⟨by subst hab; rw [if_pos (A.inj B)], rfl⟩
  · refine WP.acmpY (n := 7) dSE_2 rfl rfl (own_ne_t (fun h => hab (by injection h))) (by decide) (by decide) ?_
    refine WP.aloadN (n := 8) dSE_7 rfl rfl rfl ?_
    refine WP.instY (n := 11) dSE_8 (hw _ (List.mem_of_getElem? (i := 224) rfl)) (Ins.self g1) rfl ?_
    refine WP.ifcN (n' := 14) dSE_11 (by decide) rfl ?_
    refine WP.aloadN (n := 15) dSE_14 rfl rfl rfl ?_
    refine WP.castY (n := 18) dSE_15 (hw _ (List.mem_of_getElem? (i := 224) rfl)) (Ins.self g1) rfl ?_
    refine WP.astoreN (n := 19) (Ls' := #[.val (.ref a), .val (.ref b), .val (.ref b)]) dSE_18 rfl rfl rfl ?_
    refine WP.getSZ (n := 22) dSE_19 (hw _ (List.mem_of_getElem? (i := 29) rfl)) Via.refl O rfl ?_
    refine WP.ifcN (n' := 25) dSE_22 ((if0 _ _).trans (feq hO).1) rfl ?_
    refine WP.aloadN (n := 26) dSE_25 rfl rfl rfl ?_
    refine WP.getF (n := 29) (host := "") dSE_26 (Or.inl (hw _ (List.mem_of_getElem? (i := 25) rfl))) Via.refl f2 rfl ?_
    refine WP.aloadN (n := 30) dSE_29 rfl rfl rfl ?_
    refine WP.getF (n := 33) (host := "") dSE_30 (Or.inl (hw _ (List.mem_of_getElem? (i := 25) rfl))) Via.refl g2 rfl ?_
    refine WP.icmpN (n' := 36) dSE_33 (by decide) rfl ?_
    refine WP.aloadN (n := 37) dSE_36 rfl rfl rfl ?_
    refine WP.getF (n := 40) (host := "") dSE_37 (Or.inl (hw _ (List.mem_of_getElem? (i := 24) rfl))) Via.refl f3 rfl ?_
    refine WP.aloadN (n := 41) dSE_40 rfl rfl rfl ?_
    refine WP.getF (n := 44) (host := "") dSE_41 (Or.inl (hw _ (List.mem_of_getElem? (i := 24) rfl))) Via.refl g3 rfl ?_
    refine WP.callS (n := 47) (ce' := 0) (sl' := 0) (Wd := 0) (argsL := [(.ref ba), (.ref bb)]) (rest := []) (own_leq l Z a0 hw EL hEL h0 ba bb ka kb za zb bs ds f4 g4 hza f5 hzb g5) dSE_44 (hw _ (List.mem_of_getElem? (i := 225) rfl)) (hw _ (List.mem_of_getElem? (i := 226) rfl)) (hw _ (List.mem_of_getElem? (i := 227) rfl)) (hw _ (List.mem_of_getElem? (i := 228) rfl)) (by decide) (fun _ q => nomatch q) (by decide) (by decide) rfl rfl (by decide) (by decide) rfl rfl (lenOf own_pd0 rfl) rfl (Nat.le_of_eq rfl) rfl (fun v3 vm3 h3 q3 r3 => ?_)
    obtain ⟨rfl, rfl⟩ := q3
    by_cases hbd : bs = ds
    · rw [if_pos hbd]
      refine WP.ifcN (n' := 50) dSE_47 (by decide) rfl ?_
      refine WP.iconst (n := 51) (z := (1 : Int32)) dSE_50 rfl rfl ?_
      refine WP.goto (n := 55) dSE_51 (by decide) (by decide) ?_
      exact WP.retN dSE_55 rfl (Or.inl rfl) (by decide : nar .boolean 1 = 1) (by decide) (by decide) ⟨by first | rfl | rw [if_pos hbd], rfl⟩
    · rw [if_neg hbd]
      refine WP.ifcY (n := 54) dSE_47 (by decide) (by decide) (by decide) ?_
      refine WP.iconst (n := 55) (z := (0 : Int32)) dSE_54 rfl rfl ?_
      exact WP.retN dSE_55 rfl (Or.inl rfl) (by decide : nar .boolean 0 = 0) (by decide) (by decide) ⟨by first | rfl | rw [if_neg hbd], rfl⟩
theorem dS4_0 : decode jdk_42_method_149_code 0 = .ok (.aload_n 0, 1) := by decide +kernel
theorem dS4_1 : decode jdk_42_method_149_code 1 = .ok (.invokespecial 1, 3) := by decide +kernel
theorem dS4_4 : decode jdk_42_method_149_code 4 = .ok (.iload_n 3, 1) := by decide +kernel
theorem dS4_5 : decode jdk_42_method_149_code 5 = .ok (.ifCond .ne 22, 3) := by decide +kernel
theorem dS4_8 : decode jdk_42_method_149_code 8 = .ok (.aload_n 0, 1) := by decide +kernel
theorem dS4_9 : decode jdk_42_method_149_code 9 = .ok (.ldc 7, 2) := by decide +kernel
theorem dS4_11 : decode jdk_42_method_149_code 11 = .ok (.getfield 9, 3) := by decide +kernel
theorem dS4_14 : decode jdk_42_method_149_code 14 = .ok (.putfield 9, 3) := by decide +kernel
theorem dS4_17 : decode jdk_42_method_149_code 17 = .ok (.aload_n 0, 1) := by decide +kernel
theorem dS4_18 : decode jdk_42_method_149_code 18 = .ok (.ldc 7, 2) := by decide +kernel
theorem dS4_20 : decode jdk_42_method_149_code 20 = .ok (.getfield 15, 3) := by decide +kernel
theorem dS4_23 : decode jdk_42_method_149_code 23 = .ok (.putfield 15, 3) := by decide +kernel
theorem dS4_26 : decode jdk_42_method_149_code 26 = .ok (.return_, 1) := by decide +kernel
theorem dS4_27 : decode jdk_42_method_149_code 27 = .ok (.getstatic 38, 3) := by decide +kernel
theorem dS4_30 : decode jdk_42_method_149_code 30 = .ok (.ifCond .eq 28, 3) := by decide +kernel
theorem dS4_33 : decode jdk_42_method_149_code 33 = .ok (.aload_n 1, 1) := by decide +kernel
theorem dS4_34 : decode jdk_42_method_149_code 34 = .ok (.iload_n 2, 1) := by decide +kernel
theorem dS4_35 : decode jdk_42_method_149_code 35 = .ok (.iload_n 3, 1) := by decide +kernel
theorem dS4_36 : decode jdk_42_method_149_code 36 = .ok (.invokestatic 177, 3) := by decide +kernel
theorem dS4_39 : decode jdk_42_method_149_code 39 = .ok (.astore 5, 2) := by decide +kernel
theorem dS4_41 : decode jdk_42_method_149_code 41 = .ok (.aload_n 0, 1) := by decide +kernel
theorem dS4_42 : decode jdk_42_method_149_code 42 = .ok (.aload 5, 2) := by decide +kernel
theorem dS4_44 : decode jdk_42_method_149_code 44 = .ok (.iload_n 3, 1) := by decide +kernel
theorem dS4_45 : decode jdk_42_method_149_code 45 = .ok (.invokestatic 47, 3) := by decide +kernel
theorem dS4_48 : decode jdk_42_method_149_code 48 = .ok (.putfield 15, 3) := by decide +kernel
theorem dS4_51 : decode jdk_42_method_149_code 51 = .ok (.aload_n 0, 1) := by decide +kernel
theorem dS4_52 : decode jdk_42_method_149_code 52 = .ok (.aload 5, 2) := by decide +kernel
theorem dS4_54 : decode jdk_42_method_149_code 54 = .ok (.putfield 9, 3) := by decide +kernel
theorem dS4_57 : decode jdk_42_method_149_code 57 = .ok (.return_, 1) := by decide +kernel
theorem dS4_58 : decode jdk_42_method_149_code 58 = .ok (.aload_n 0, 1) := by decide +kernel
theorem dS4_59 : decode jdk_42_method_149_code 59 = .ok (.iconst 1, 1) := by decide +kernel
theorem dS4_60 : decode jdk_42_method_149_code 60 = .ok (.putfield 15, 3) := by decide +kernel
theorem dS4_63 : decode jdk_42_method_149_code 63 = .ok (.aload_n 0, 1) := by decide +kernel
theorem dS4_64 : decode jdk_42_method_149_code 64 = .ok (.aload_n 1, 1) := by decide +kernel
theorem dS4_65 : decode jdk_42_method_149_code 65 = .ok (.iload_n 2, 1) := by decide +kernel
theorem dS4_66 : decode jdk_42_method_149_code 66 = .ok (.iload_n 3, 1) := by decide +kernel
theorem dS4_67 : decode jdk_42_method_149_code 67 = .ok (.invokestatic 180, 3) := by decide +kernel
theorem dS4_70 : decode jdk_42_method_149_code 70 = .ok (.putfield 9, 3) := by decide +kernel
theorem dS4_73 : decode jdk_42_method_149_code 73 = .ok (.return_, 1) := by decide +kernel
set_option maxRecDepth 65536 in
set_option maxHeartbeats 40000000 in
theorem own_si4 (l : Launch) (Z : State) (a0 : Array Value) (hw : ∀ d ∈ tables_1, d.before a0 Z = true) (EL : List (String × Nat)) (hEL : EW Z a0 EL) (h0 : Heap) (a b : Addr) (v0 c0 : Value) (hN : Z.heap.size ≤ a) (hA : Exa Z h0 a "java/lang/String") (hV : Fld Z h0 a "java/lang/String" "value" "[B" v0) (hK : Fld Z h0 a "java/lang/String" "coder" "B" c0) (hm : ("java/lang/String", 7) ∈ EL) :
    Con l Z EL false [a] (⟨"java/lang/String", "<init>", "([CIILjava/lang/Void;)V"⟩ : MethodName) jdk_42_method_149_code 6 none ({ frames := 1, cells := 2, slots := 4, locals := 12 } : Room) #[(.ref a), (.ref b), (.int (0 : Int32)), (.int (0 : Int32)), .null] h0 (fun v h' => v = none ∧ Keep h0 h' [a] ∧ Str Z h' a []) := by
  have wS : ∀ a ∈ Bundle.stringAtoms, a.before a0 Z = true := fun d hd => hw d ((by decide +kernel : ∀ d ∈ Bundle.stringAtoms, d ∈ tables_1) d hd)
  refine Con.of (Ls := #[.val (.ref a), .val (.ref b), .val (.int (0 : Int32)), .val (.int (0 : Int32)), .val .null, .unset]) (plainFor_of_name own_pn1) hEL (fun m => by first | (simp [entryFrame, mkF, argsToLocals, Value.category]; done) | rfl) ?_
  intro vm0 hZ0 hE0 hC0 hS0
  refine WP.aloadN (n := 1) dS4_0 rfl rfl rfl ?_
  refine WP.initO (n := 4) (Wd := 0) dS4_1 (hw _ (List.mem_of_getElem? (i := 15) rfl)) (hw _ (List.mem_of_getElem? (i := 16) rfl)) (hw _ (List.mem_of_getElem? (i := 17) rfl)) rfl (by decide) (Nat.le_of_eq rfl) (by decide) rfl ?_
  refine WP.iloadN (n := 5) dS4_4 rfl rfl ?_
  refine WP.ifcN (n' := 8) dS4_5 (by decide) rfl ?_
  refine WP.aloadN (n := 9) dS4_8 rfl rfl rfl ?_
  refine WP.ldcC (n := 11) (nn := 0) (ce' := 2) (sl' := 4) (vs := []) (z := 0) dS4_9 rfl (hw _ (List.mem_of_getElem? (i := 18) rfl)) wS hm ⟨by decide, rfl⟩ (by decide) rfl (by decide) (by decide) rfl rfl (by decide) (by decide) hEL rfl (fun a4 b4 k4 vm4 h4 E4 r4 X4 C4 V4 B4 L4 N4 => ?_)
  have S4 := r4.safe hA.lt (hS0 a (List.mem_cons_self ..))
  refine WP.getF (n := 14) (host := "") dS4_11 (Or.inl (hw _ (List.mem_of_getElem? (i := 24) rfl))) Via.refl V4 rfl ?_
  refine WP.putF (n := 17) (host := "") (ty := (.array .byte)) dS4_14 (Or.inl (hw _ (List.mem_of_getElem? (i := 24) rfl))) Via.refl (hV.ext E4) (hA.ext E4) (Or.inr ⟨(hw _ (List.mem_of_getElem? (i := 20) rfl)), rfl, rfl⟩) (hw _ (List.mem_of_getElem? (i := 5) rfl)) (by decide) rfl rfl hN S4 rfl (fun h5 W5 r5 => ?_)
  have A5 := (hA.ext E4).wr W5
  have K5 := ((Keep.refl h0 [a]).ext E4).wr W5 (Or.inl (List.mem_cons_self ..))
  have F5_value := (hV.ext E4).same W5
  have F5_coder := (hK.ext E4).other W5 (Or.inr (slot_ne (t := .byte) (t' := (.array .byte)) (Or.inr (hw _ (List.mem_of_getElem? (i := 21) rfl))) (Or.inr (hw _ (List.mem_of_getElem? (i := 20) rfl))) (by decide) (by decide) (by decide)))
  have C5 := C4.other W5 (Or.inl (Ne.symm (N4 a S4).1))
  have B5 := B4.other W5 (Ne.symm (N4 a S4).2)
  refine WP.inv fun hZ5 hE5 hC5 => ?_
  have S5 := r5.safe (Nat.lt_of_lt_of_le hA.lt r4.2.1) S4
  refine WP.aloadN (n := 18) dS4_17 rfl rfl rfl ?_
  refine WP.ldcA (n := 20) dS4_18 (hw _ (List.mem_of_getElem? (i := 18) rfl)) L4 rfl ?_
  refine WP.getF (n := 23) (host := "") dS4_20 (Or.inl (hw _ (List.mem_of_getElem? (i := 25) rfl))) Via.refl C5 rfl ?_
  refine WP.putF (n := 26) (host := "") (ty := .byte) dS4_23 (Or.inl (hw _ (List.mem_of_getElem? (i := 25) rfl))) Via.refl F5_coder A5 (Or.inr ⟨(hw _ (List.mem_of_getElem? (i := 21) rfl)), rfl, rfl⟩) (hw _ (List.mem_of_getElem? (i := 5) rfl)) (by decide) rfl (by decide) hN S5 rfl (fun h6 W6 r6 => ?_)
  have A6 := A5.wr W6
  have K6 := K5.wr W6 (Or.inl (List.mem_cons_self ..))
  have F6_coder := F5_coder.same W6
  have F6_value := F5_value.other W6 (Or.inr (slot_ne (t := (.array .byte)) (t' := .byte) (Or.inr (hw _ (List.mem_of_getElem? (i := 20) rfl))) (Or.inr (hw _ (List.mem_of_getElem? (i := 21) rfl))) (by decide) (by decide) (by decide)))
  have B6 := B5.other W6 (Ne.symm (N4 a S4).2)
  refine WP.retV dS4_26 rfl (by decide) (by decide) ?_
  exact ⟨rfl, K6, A6, F6_coder, b4, k4, 0, F6_value, B6, rfl⟩
theorem dS1_0 : decode jdk_42_method_3_code 0 = .ok (.aload_n 0, 1) := by decide +kernel
theorem dS1_1 : decode jdk_42_method_3_code 1 = .ok (.aload_n 1, 1) := by decide +kernel
theorem dS1_2 : decode jdk_42_method_3_code 2 = .ok (.iconst 0, 1) := by decide +kernel
theorem dS1_3 : decode jdk_42_method_3_code 3 = .ok (.aload_n 1, 1) := by decide +kernel
theorem dS1_4 : decode jdk_42_method_3_code 4 = .ok (.arraylength, 1) := by decide +kernel
theorem dS1_5 : decode jdk_42_method_3_code 5 = .ok (.aconst_null, 1) := by decide +kernel
theorem dS1_6 : decode jdk_42_method_3_code 6 = .ok (.invokespecial 27, 3) := by decide +kernel
theorem dS1_9 : decode jdk_42_method_3_code 9 = .ok (.return_, 1) := by decide +kernel
set_option maxRecDepth 65536 in
set_option maxHeartbeats 40000000 in
theorem own_si1 (l : Launch) (Z : State) (a0 : Array Value) (hw : ∀ d ∈ tables_1, d.before a0 Z = true) (EL : List (String × Nat)) (hEL : EW Z a0 EL) (h0 : Heap) (a b : Addr) (v0 c0 : Value) (hN : Z.heap.size ≤ a) (hA : Exa Z h0 a "java/lang/String") (hV : Fld Z h0 a "java/lang/String" "value" "[B" v0) (hK : Fld Z h0 a "java/lang/String" "coder" "B" c0) (kb : ClassId) (dv : Value) (hB : Arv Z h0 b kb .char 0 [] dv) (hm : ("java/lang/String", 7) ∈ EL) :
    Con l Z EL false [a] (⟨"java/lang/String", "<init>", "([C)V"⟩ : MethodName) jdk_42_method_3_code 2 none ({ frames := 2, cells := 2, slots := 4, locals := 29 } : Room) #[(.ref a), (.ref b)] h0 (fun v h' => v = none ∧ Keep h0 h' [a] ∧ Str Z h' a []) := by
  refine Con.of (Ls := #[.val (.ref a), .val (.ref b)]) (plainFor_of_name own_pn1) hEL (fun m => by first | (simp [entryFrame, mkF, argsToLocals, Value.category]; done) | rfl) ?_
  intro vm0 hZ0 hE0 hC0 hS0
  refine WP.aloadN (n := 1) dS1_0 rfl rfl rfl ?_
  refine WP.aloadN (n := 2) dS1_1 rfl rfl rfl ?_
  refine WP.iconst (n := 3) (z := (0 : Int32)) dS1_2 rfl rfl ?_
  refine WP.aloadN (n := 4) dS1_3 rfl rfl rfl ?_
  refine WP.alen (n := 5) dS1_4 hB rfl ?_
  refine WP.aconstNull (n := 6) dS1_5  rfl ?_
  refine WP.callP (n := 9) (ce' := 2) (sl' := 4) (Wd := 0) (a := a) (argsL := [(.ref b), (.int (0 : Int32)), (.int (0 : Int32)), .null]) (rest := []) (own_si4 l Z a0 hw EL hEL h0 a b v0 c0 hN hA hV hK hm) dS1_6 rfl (hw _ (List.mem_of_getElem? (i := 11) rfl)) (hw _ (List.mem_of_getElem? (i := 12) rfl)) (hw _ (List.mem_of_getElem? (i := 6) rfl)) (hw _ (List.mem_of_getElem? (i := 14) rfl)) (by decide) (fun y q => by cases List.mem_singleton.mp q; exact ⟨hS0 a (List.mem_cons_self ..), hA.lt⟩) (by decide) (by decide) rfl rfl (by decide) (by decide) rfl rfl (lenOf own_pd1 rfl) rfl (Nat.le_of_eq rfl) rfl (fun v7 vm7 h7 q7 r7 => ?_)
  obtain ⟨rfl, K7, F7⟩ := q7
  refine WP.retV dS1_9 rfl (by decide) (by decide) ?_
  exact ⟨rfl, K7, F7⟩
theorem dCE_0 : decode jdk_43_method_3_code 0 = .ok (.iload_n 0, 1) := by decide +kernel
theorem dCE_1 : decode jdk_43_method_3_code 1 = .ok (.sipush 255, 3) := by decide +kernel
theorem dCE_4 : decode jdk_43_method_3_code 4 = .ok (.if_icmp .gt 7, 3) := by decide +kernel
theorem dCE_7 : decode jdk_43_method_3_code 7 = .ok (.iconst 1, 1) := by decide +kernel
theorem dCE_8 : decode jdk_43_method_3_code 8 = .ok (.goto 4, 3) := by decide +kernel
theorem dCE_11 : decode jdk_43_method_3_code 11 = .ok (.iconst 0, 1) := by decide +kernel
theorem dCE_12 : decode jdk_43_method_3_code 12 = .ok (.ireturn, 1) := by decide +kernel
set_option maxRecDepth 65536 in
set_option maxHeartbeats 40000000 in
theorem own_ce (l : Launch) (Z : State) (a0 : Array Value) (hw : ∀ d ∈ tables_1, d.before a0 Z = true) (EL : List (String × Nat)) (hEL : EW Z a0 EL) (h0 : Heap) (c : Int32) (hc : ¬ (255 : Int32) < c) :
    Con l Z EL false [] (⟨"java/lang/StringLatin1", "canEncode", "(C)Z"⟩ : MethodName) jdk_43_method_3_code 1 (some .boolean) ({ frames := 0, cells := 0, slots := 0, locals := 0 } : Room) #[(.int c)] h0 (fun v h' => v = some (.int 1) ∧ h0 = h') := by
  refine Con.of (Ls := #[.val (.int c)]) (plainFor_of_name own_pn0) hEL (fun m => by first | (simp [entryFrame, mkF, argsToLocals, Value.category]; done) | rfl) ?_
  intro vm0 hZ0 hE0 hC0 hS0
  refine WP.iloadN (n := 1) dCE_0 rfl rfl ?_
  refine WP.sipush (n := 4) (z := (255 : Int32)) dCE_1 (by decide) rfl ?_
  refine WP.icmp_gt (n := 11) (n' := 7) dCE_4 (by decide) (by decide) rfl (fun b8 => ?_) (fun b8 => ?_)
  · exact absurd b8 hc
  · refine WP.iconst (n := 8) (z := (1 : Int32)) dCE_7 rfl rfl ?_
    refine WP.goto (n := 12) dCE_8 (by decide) (by decide) ?_
    exact WP.retN dCE_12 rfl (Or.inl rfl) (by decide : nar .boolean 1 = 1) (by decide) (by decide) ⟨rfl, rfl⟩
theorem own_b8 (c : Int32) : nar .byte c.toInt8.toInt32 = c.toInt8.toInt32 := by
  show c.toInt8.toInt32.toInt8.toInt32 = c.toInt8.toInt32
  have h1 := c_i2b c
  have h2 := c_i2b c.toInt8.toInt32
  rw [← Int32.toInt_inj]; omega
theorem dTB_0 : decode jdk_43_method_46_code 0 = .ok (.iconst 1, 1) := by decide +kernel
theorem dTB_1 : decode jdk_43_method_46_code 1 = .ok (.newarray .byte, 2) := by decide +kernel
theorem dTB_3 : decode jdk_43_method_46_code 3 = .ok (.dup, 1) := by decide +kernel
theorem dTB_4 : decode jdk_43_method_46_code 4 = .ok (.iconst 0, 1) := by decide +kernel
theorem dTB_5 : decode jdk_43_method_46_code 5 = .ok (.iload_n 0, 1) := by decide +kernel
theorem dTB_6 : decode jdk_43_method_46_code 6 = .ok (.i2b, 1) := by decide +kernel
theorem dTB_7 : decode jdk_43_method_46_code 7 = .ok (.bastore, 1) := by decide +kernel
theorem dTB_8 : decode jdk_43_method_46_code 8 = .ok (.areturn, 1) := by decide +kernel
set_option maxRecDepth 65536 in
set_option maxHeartbeats 40000000 in
theorem own_tb (l : Launch) (Z : State) (a0 : Array Value) (hw : ∀ d ∈ tables_1, d.before a0 Z = true) (EL : List (String × Nat)) (hEL : EW Z a0 EL) (h0 : Heap) (c : Int32) :
    Con l Z EL false [] (⟨"java/lang/StringLatin1", "toBytes", "(C)[B"⟩ : MethodName) jdk_43_method_46_code 1 (some (.array .byte)) ({ frames := 0, cells := 1, slots := 1, locals := 0 } : Room) #[(.int c)] h0 (fun v h' => ∃ b kb, v = some (.ref b) ∧ Arv Z h' b kb .byte 1 [.int c.toInt8.toInt32] (.int 0) ∧ Ext h0 h') := by
  refine Con.of (Ls := #[.val (.int c)]) (plainFor_of_name own_pn0) hEL (fun m => by first | (simp [entryFrame, mkF, argsToLocals, Value.category]; done) | rfl) ?_
  intro vm0 hZ0 hE0 hC0 hS0
  refine WP.iconst (n := 1) (z := (1 : Int32)) dTB_0 rfl rfl ?_
  refine WP.newP (n := 3) (ce' := 1) (sl' := 1) (cap := 1) (ty := .byte) dTB_1 (hw _ (List.mem_of_getElem? (i := 19) rfl)) rfl (by decide) (by decide) (by decide) rfl rfl (by decide) (by decide) rfl (fun a9 h9 k9 g9 E9 V9 S9 N9 r9 => ?_)
  have V9' : Arv Z h9 a9 k9 .byte (1 : Int32) [.int 0] (.int 0) := V9.pad (pad_rep [] (.int 0) 1)
  refine WP.dup (n := 4) dTB_3 rfl rfl ?_
  refine WP.iconst (n := 5) (z := (0 : Int32)) dTB_4 rfl rfl ?_
  refine WP.iloadN (n := 6) dTB_5 rfl rfl ?_
  refine WP.i2b (n := 7) dTB_6  rfl ?_
  refine WP.stB (n := 8) (i := 0) (y := c.toInt8.toInt32) dTB_7 V9' (by decide) rfl (by decide) (own_b8 c) N9 S9 rfl (fun h10 W10 V10 r10 => ?_)
  exact WP.retA dTB_8 rfl rfl rfl rfl (by decide) (by decide) ⟨_, _, rfl, V10, (ext_wr E9 W10 (Nat.le_of_eq g9.symm))⟩
theorem dSB_0 : decode jdk_42_method_151_code 0 = .ok (.aload_n 0, 1) := by decide +kernel
theorem dSB_1 : decode jdk_42_method_151_code 1 = .ok (.invokespecial 1, 3) := by decide +kernel
theorem dSB_4 : decode jdk_42_method_151_code 4 = .ok (.aload_n 0, 1) := by decide +kernel
theorem dSB_5 : decode jdk_42_method_151_code 5 = .ok (.aload_n 1, 1) := by decide +kernel
theorem dSB_6 : decode jdk_42_method_151_code 6 = .ok (.putfield 9, 3) := by decide +kernel
theorem dSB_9 : decode jdk_42_method_151_code 9 = .ok (.aload_n 0, 1) := by decide +kernel
theorem dSB_10 : decode jdk_42_method_151_code 10 = .ok (.iload_n 2, 1) := by decide +kernel
theorem dSB_11 : decode jdk_42_method_151_code 11 = .ok (.putfield 15, 3) := by decide +kernel
theorem dSB_14 : decode jdk_42_method_151_code 14 = .ok (.return_, 1) := by decide +kernel
set_option maxRecDepth 65536 in
set_option maxHeartbeats 40000000 in
theorem own_sb (l : Launch) (Z : State) (a0 : Array Value) (hw : ∀ d ∈ tables_1, d.before a0 Z = true) (EL : List (String × Nat)) (hEL : EW Z a0 EL) (h0 : Heap) (a b : Addr) (v0 c0 : Value) (hN : Z.heap.size ≤ a) (hA : Exa Z h0 a "java/lang/String") (hV : Fld Z h0 a "java/lang/String" "value" "[B" v0) (hK : Fld Z h0 a "java/lang/String" "coder" "B" c0) :
    Con l Z EL false [a] (⟨"java/lang/String", "<init>", "([BB)V"⟩ : MethodName) jdk_42_method_151_code 3 none ({ frames := 1, cells := 0, slots := 0, locals := 12 } : Room) #[(.ref a), (.ref b), (.int (0 : Int32))] h0 (fun v h' => v = none ∧ Keep h0 h' [a] ∧ Exa Z h' a "java/lang/String" ∧ Fld Z h' a "java/lang/String" "value" "[B" (.ref b) ∧ Fld Z h' a "java/lang/String" "coder" "B" (.int 0)) := by
  refine Con.of (Ls := #[.val (.ref a), .val (.ref b), .val (.int (0 : Int32))]) (plainFor_of_name own_pn1) hEL (fun m => by first | (simp [entryFrame, mkF, argsToLocals, Value.category]; done) | rfl) ?_
  intro vm0 hZ0 hE0 hC0 hS0
  refine WP.aloadN (n := 1) dSB_0 rfl rfl rfl ?_
  refine WP.initO (n := 4) (Wd := 0) dSB_1 (hw _ (List.mem_of_getElem? (i := 15) rfl)) (hw _ (List.mem_of_getElem? (i := 16) rfl)) (hw _ (List.mem_of_getElem? (i := 17) rfl)) rfl (by decide) (Nat.le_of_eq rfl) (by decide) rfl ?_
  refine WP.aloadN (n := 5) dSB_4 rfl rfl rfl ?_
  refine WP.aloadN (n := 6) dSB_5 rfl rfl rfl ?_
  refine WP.putF (n := 9) (host := "") (ty := (.array .byte)) dSB_6 (Or.inl (hw _ (List.mem_of_getElem? (i := 24) rfl))) Via.refl hV hA (Or.inr ⟨(hw _ (List.mem_of_getElem? (i := 20) rfl)), rfl, rfl⟩) (hw _ (List.mem_of_getElem? (i := 5) rfl)) (by decide) rfl rfl hN (hS0 a (List.mem_cons_self ..)) rfl (fun h11 W11 r11 => ?_)
  have A11 := hA.wr W11
  have K11 := (Keep.refl h0 [a]).wr W11 (Or.inl (List.mem_cons_self ..))
  have F11_value := hV.same W11
  have F11_coder := hK.other W11 (Or.inr (slot_ne (t := .byte) (t' := (.array .byte)) (Or.inr (hw _ (List.mem_of_getElem? (i := 21) rfl))) (Or.inr (hw _ (List.mem_of_getElem? (i := 20) rfl))) (by decide) (by decide) (by decide)))
  have S11 := r11.safe hA.lt (hS0 a (List.mem_cons_self ..))
  refine WP.aloadN (n := 10) dSB_9 rfl rfl rfl ?_
  refine WP.iloadN (n := 11) dSB_10 rfl rfl ?_
  refine WP.putF (n := 14) (host := "") (ty := .byte) dSB_11 (Or.inl (hw _ (List.mem_of_getElem? (i := 25) rfl))) Via.refl F11_coder A11 (Or.inr ⟨(hw _ (List.mem_of_getElem? (i := 21) rfl)), rfl, rfl⟩) (hw _ (List.mem_of_getElem? (i := 5) rfl)) (by decide) rfl (by decide) hN S11 rfl (fun h12 W12 r12 => ?_)
  have A12 := A11.wr W12
  have K12 := K11.wr W12 (Or.inl (List.mem_cons_self ..))
  have F12_coder := F11_coder.same W12
  have F12_value := F11_value.other W12 (Or.inr (slot_ne (t := (.array .byte)) (t' := .byte) (Or.inr (hw _ (List.mem_of_getElem? (i := 20) rfl))) (Or.inr (hw _ (List.mem_of_getElem? (i := 21) rfl))) (by decide) (by decide) (by decide)))
  refine WP.retV dSB_14 rfl (by decide) (by decide) ?_
  exact ⟨rfl, K12, A12, F12_value, F12_coder⟩
theorem dVO_0 : decode jdk_42_method_139_code 0 = .ok (.getstatic 38, 3) := by decide +kernel
theorem dVO_3 : decode jdk_42_method_139_code 3 = .ok (.ifCond .eq 23, 3) := by decide +kernel
theorem dVO_6 : decode jdk_42_method_139_code 6 = .ok (.iload_n 0, 1) := by decide +kernel
theorem dVO_7 : decode jdk_42_method_139_code 7 = .ok (.invokestatic 1015, 3) := by decide +kernel
theorem dVO_10 : decode jdk_42_method_139_code 10 = .ok (.ifCond .eq 16, 3) := by decide +kernel
theorem dVO_13 : decode jdk_42_method_139_code 13 = .ok (.new 10, 3) := by decide +kernel
theorem dVO_16 : decode jdk_42_method_139_code 16 = .ok (.dup, 1) := by decide +kernel
theorem dVO_17 : decode jdk_42_method_139_code 17 = .ok (.iload_n 0, 1) := by decide +kernel
theorem dVO_18 : decode jdk_42_method_139_code 18 = .ok (.invokestatic 1018, 3) := by decide +kernel
theorem dVO_21 : decode jdk_42_method_139_code 21 = .ok (.iconst 0, 1) := by decide +kernel
theorem dVO_22 : decode jdk_42_method_139_code 22 = .ok (.invokespecial 209, 3) := by decide +kernel
theorem dVO_25 : decode jdk_42_method_139_code 25 = .ok (.areturn, 1) := by decide +kernel
theorem dVO_26 : decode jdk_42_method_139_code 26 = .ok (.new 10, 3) := by decide +kernel
theorem dVO_29 : decode jdk_42_method_139_code 29 = .ok (.dup, 1) := by decide +kernel
theorem dVO_30 : decode jdk_42_method_139_code 30 = .ok (.iload_n 0, 1) := by decide +kernel
theorem dVO_31 : decode jdk_42_method_139_code 31 = .ok (.invokestatic 1021, 3) := by decide +kernel
theorem dVO_34 : decode jdk_42_method_139_code 34 = .ok (.iconst 1, 1) := by decide +kernel
theorem dVO_35 : decode jdk_42_method_139_code 35 = .ok (.invokespecial 209, 3) := by decide +kernel
theorem dVO_38 : decode jdk_42_method_139_code 38 = .ok (.areturn, 1) := by decide +kernel
set_option maxRecDepth 65536 in
set_option maxHeartbeats 40000000 in
theorem own_vo (l : Launch) (Z : State) (a0 : Array Value) (hw : ∀ d ∈ tables_1, d.before a0 Z = true) (EL : List (String × Nat)) (hEL : EW Z a0 EL) (h0 : Heap) (c : Int32) (hc : ¬ (255 : Int32) < c) (cz : Int32) (O : Sta Z Z.heap "java/lang/String" "COMPACT_STRINGS" "Z" (.int cz)) (hO : ¬ cz = 0) :
    Con l Z EL false [] (⟨"java/lang/String", "valueOf", "(C)Ljava/lang/String;"⟩ : MethodName) jdk_42_method_139_code 1 (some (.object "java/lang/String")) ({ frames := 2, cells := 2, slots := 5, locals := 27 } : Room) #[(.int c)] h0 (fun v h' => ∃ a, v = some (.ref a) ∧ Str Z h' a [c.toInt8.toInt32] ∧ Ext h0 h') := by
  refine Con.of (Ls := #[.val (.int c)]) (plainFor_of_name own_pn1) hEL (fun m => by first | (simp [entryFrame, mkF, argsToLocals, Value.category]; done) | rfl) ?_
  intro vm0 hZ0 hE0 hC0 hS0
  refine WP.getSZ (n := 3) dVO_0 (hw _ (List.mem_of_getElem? (i := 29) rfl)) Via.refl O rfl ?_
  refine WP.ifcN (n' := 6) dVO_3 ((if0 _ _).trans (feq hO).1) rfl ?_
  refine WP.iloadN (n := 7) dVO_6 rfl rfl ?_
  refine WP.callS (n := 10) (ce' := 0) (sl' := 0) (Wd := 0) (argsL := [(.int c)]) (rest := []) (own_ce l Z a0 hw EL hEL h0 c hc) dVO_7 (hw _ (List.mem_of_getElem? (i := 233) rfl)) (hw _ (List.mem_of_getElem? (i := 234) rfl)) (hw _ (List.mem_of_getElem? (i := 227) rfl)) (hw _ (List.mem_of_getElem? (i := 235) rfl)) (by decide) (fun _ q => nomatch q) (by decide) (by decide) rfl rfl (by decide) (by decide) rfl rfl (lenOf own_pd2 rfl) rfl (Nat.le_of_eq rfl) rfl (fun v13 vm13 h13 q13 r13 => ?_)
  obtain ⟨rfl, rfl⟩ := q13
  refine WP.ifcN (n' := 13) dVO_10 (by decide) rfl ?_
  refine WP.new (n := 16) (ce' := 1) (sl' := 4) dVO_13 (hw _ (List.mem_of_getElem? (i := 224) rfl)) (hw _ (List.mem_of_getElem? (i := 5) rfl)) (hw _ (List.mem_of_getElem? (i := 6) rfl)) rfl rfl (by decide) (by decide) rfl (fun a14 h14 g14 E14 A14 D14 S14 N14 r14 => ?_)
  refine WP.dup (n := 17) dVO_16 rfl rfl ?_
  refine WP.iloadN (n := 18) dVO_17 rfl rfl ?_
  refine WP.callS (n := 21) (ce' := 2) (sl' := 5) (Wd := 2) (argsL := [(.int c)]) (rest := [(.ref a14), (.ref a14)]) (own_tb l Z a0 hw EL hEL h14 c) dVO_18 (hw _ (List.mem_of_getElem? (i := 236) rfl)) (hw _ (List.mem_of_getElem? (i := 237) rfl)) (hw _ (List.mem_of_getElem? (i := 227) rfl)) (hw _ (List.mem_of_getElem? (i := 238) rfl)) (by decide) (fun _ q => nomatch q) (by decide) (by decide) rfl rfl (by decide) (by decide) rfl rfl (lenOf own_pd3 rfl) rfl (Nat.le_of_eq rfl) rfl (fun v15 vm15 h15 q15 r15 => ?_)
  obtain ⟨b15, k15, rfl, V15, E15⟩ := q15
  refine WP.iconst (n := 22) (z := (0 : Int32)) dVO_21 rfl rfl ?_
  have S15 := r15.safe A14.lt S14
  refine WP.callP (n := 25) (ce' := 2) (sl' := 5) (Wd := 1) (a := a14) (argsL := [(.ref b15), (.int (0 : Int32))]) (rest := [(.ref a14)]) (own_sb l Z a0 hw EL hEL h15 a14 b15 _ _ N14 (A14.ext E15) ((D14 (Or.inr (hw _ (List.mem_of_getElem? (i := 20) rfl))) (ty := .array .byte) (by decide)).ext E15) ((D14 (Or.inr (hw _ (List.mem_of_getElem? (i := 21) rfl))) (ty := .byte) (by decide)).ext E15)) dVO_22 rfl (hw _ (List.mem_of_getElem? (i := 239) rfl)) (hw _ (List.mem_of_getElem? (i := 240) rfl)) (hw _ (List.mem_of_getElem? (i := 6) rfl)) (hw _ (List.mem_of_getElem? (i := 241) rfl)) (by decide) (fun y q => by cases List.mem_singleton.mp q; exact ⟨S15, Nat.lt_of_lt_of_le A14.lt E15.1⟩) (by decide) (by decide) rfl rfl (by decide) (by decide) rfl rfl (lenOf own_pd4 rfl) rfl (Nat.le_of_eq rfl) rfl (fun v16 vm16 h16 q16 r16 => ?_)
  obtain ⟨rfl, K16, A16, F16, G16⟩ := q16
  have V16 := V15.keep K16 (fun q => Exa.neArv (A14.ext E15) V15 (hw _ (List.mem_of_getElem? (i := 5) rfl)) (List.mem_singleton.mp q).symm)
  exact WP.retA dVO_25 rfl rfl rfl rfl (by decide) (by decide) ⟨_, rfl, ⟨A16, G16, b15, k15, 1, F16, V16, rfl⟩, ext_keep1 (ext_trans E14 E15) K16 (Nat.le_of_eq g14.symm)⟩
theorem dR_0 : decode jdk_31_method_11_code 0 = .ok (.aload_n 0, 1) := by decide +kernel
theorem dR_1 : decode jdk_31_method_11_code 1 = .ok (.ifnonnull 12, 3) := by decide +kernel
theorem dR_4 : decode jdk_31_method_11_code 4 = .ok (.new 84, 3) := by decide +kernel
theorem dR_7 : decode jdk_31_method_11_code 7 = .ok (.dup, 1) := by decide +kernel
theorem dR_8 : decode jdk_31_method_11_code 8 = .ok (.aload_n 1, 1) := by decide +kernel
theorem dR_9 : decode jdk_31_method_11_code 9 = .ok (.invokespecial 87, 3) := by decide +kernel
theorem dR_12 : decode jdk_31_method_11_code 12 = .ok (.athrow, 1) := by decide +kernel
theorem dR_13 : decode jdk_31_method_11_code 13 = .ok (.aload_n 0, 1) := by decide +kernel
theorem dR_14 : decode jdk_31_method_11_code 14 = .ok (.areturn, 1) := by decide +kernel
set_option maxRecDepth 65536 in
set_option maxHeartbeats 40000000 in
theorem own_rnn (l : Launch) (Z : State) (a0 : Array Value) (hw : ∀ d ∈ tables_1, d.before a0 Z = true) (EL : List (String × Nat)) (hEL : EW Z a0 EL) (h0 : Heap) (a m : Addr) :
    Con l Z EL false [] (⟨"java/util/Objects", "requireNonNull", "(Ljava/lang/Object;Ljava/lang/String;)Ljava/lang/Object;"⟩ : MethodName) jdk_31_method_11_code 2 (some (.object "java/lang/Object")) ({ frames := 0, cells := 0, slots := 0, locals := 0 } : Room) #[(.ref a), (.ref m)] h0 (fun v h' => v = some (.ref a) ∧ h0 = h') := by
  refine Con.of (Ls := #[.val (.ref a), .val (.ref m)]) (plainFor_of_name own_pn2) hEL (fun m => by first | (simp [entryFrame, mkF, argsToLocals, Value.category]; done) | rfl) ?_
  intro vm0 hZ0 hE0 hC0 hS0
  refine WP.aloadN (n := 1) dR_0 rfl rfl rfl ?_
  refine WP.ifnonnullY (n := 13) dR_1 (by decide) (by decide) ?_
  refine WP.aloadN (n := 14) dR_13 rfl rfl rfl ?_
  exact WP.retA dR_14 rfl rfl rfl rfl (by decide) (by decide) ⟨rfl, rfl⟩
def own_mn (x y : Int32) : Int32 := if y < x then y else x
theorem own_mnN {k m : Nat} (hk : k < 2147483648) (hm : m ≤ k) : own_mn (Int32.ofNat k) (Int32.ofNat m) = Int32.ofNat m := by
  unfold own_mn
  by_cases c : Int32.ofNat m < Int32.ofNat k
  · rw [if_pos c]
  · rw [if_neg c]; rw [own_ltN (by omega) hk] at c; congr 1; omega
theorem dMN_0 : decode jdk_29_method_69_code 0 = .ok (.iload_n 0, 1) := by decide +kernel
theorem dMN_1 : decode jdk_29_method_69_code 1 = .ok (.iload_n 1, 1) := by decide +kernel
theorem dMN_2 : decode jdk_29_method_69_code 2 = .ok (.if_icmp .gt 7, 3) := by decide +kernel
theorem dMN_5 : decode jdk_29_method_69_code 5 = .ok (.iload_n 0, 1) := by decide +kernel
theorem dMN_6 : decode jdk_29_method_69_code 6 = .ok (.goto 4, 3) := by decide +kernel
theorem dMN_9 : decode jdk_29_method_69_code 9 = .ok (.iload_n 1, 1) := by decide +kernel
theorem dMN_10 : decode jdk_29_method_69_code 10 = .ok (.ireturn, 1) := by decide +kernel
set_option maxRecDepth 65536 in
set_option maxHeartbeats 40000000 in
theorem own_min (l : Launch) (Z : State) (a0 : Array Value) (hw : ∀ d ∈ tables_1, d.before a0 Z = true) (EL : List (String × Nat)) (hEL : EW Z a0 EL) (h0 : Heap) (x y : Int32) :
    Con l Z EL false [] (⟨"java/lang/Math", "min", "(II)I"⟩ : MethodName) jdk_29_method_69_code 2 (some .int) ({ frames := 0, cells := 0, slots := 0, locals := 0 } : Room) #[(.int x), (.int y)] h0 (fun v h' => v = some (.int (own_mn x y)) ∧ h0 = h') := by
  refine Con.of (Ls := #[.val (.int x), .val (.int y)]) (by decide +kernel) hEL (fun m => by first | (simp [entryFrame, mkF, argsToLocals, Value.category]; done) | rfl) ?_
  intro vm0 hZ0 hE0 hC0 hS0
  refine WP.iloadN (n := 1) dMN_0 rfl rfl ?_
  refine WP.iloadN (n := 2) dMN_1 rfl rfl ?_
  refine WP.icmp_gt (n := 9) (n' := 5) dMN_2 (by decide) (by decide) rfl (fun b17 => ?_) (fun b17 => ?_)
  · refine WP.iloadN (n := 10) dMN_9 rfl rfl ?_
    exact WP.retI dMN_10 rfl (by decide) (by decide) ⟨by unfold own_mn; rw [if_pos b17], rfl⟩
  · refine WP.iloadN (n := 6) dMN_5 rfl rfl ?_
    refine WP.goto (n := 10) dMN_6 (by decide) (by decide) ?_
    exact WP.retI dMN_10 rfl (by decide) (by decide) ⟨by unfold own_mn; rw [if_neg b17], rfl⟩
theorem dCO_0 : decode jdk_42_method_152_code 0 = .ok (.getstatic 38, 3) := by decide +kernel
theorem dCO_3 : decode jdk_42_method_152_code 3 = .ok (.ifCond .eq 10, 3) := by decide +kernel
theorem dCO_6 : decode jdk_42_method_152_code 6 = .ok (.aload_n 0, 1) := by decide +kernel
theorem dCO_7 : decode jdk_42_method_152_code 7 = .ok (.getfield 15, 3) := by decide +kernel
theorem dCO_10 : decode jdk_42_method_152_code 10 = .ok (.goto 4, 3) := by decide +kernel
theorem dCO_13 : decode jdk_42_method_152_code 13 = .ok (.iconst 1, 1) := by decide +kernel
theorem dCO_14 : decode jdk_42_method_152_code 14 = .ok (.ireturn, 1) := by decide +kernel
set_option maxRecDepth 65536 in
set_option maxHeartbeats 40000000 in
theorem own_cod (l : Launch) (Z : State) (a0 : Array Value) (hw : ∀ d ∈ tables_1, d.before a0 Z = true) (EL : List (String × Nat)) (hEL : EW Z a0 EL) (h0 : Heap) (a : Addr) (F : Fld Z h0 a "java/lang/String" "coder" "B" (.int 0)) (cz : Int32) (O : Sta Z Z.heap "java/lang/String" "COMPACT_STRINGS" "Z" (.int cz)) (hO : ¬ cz = 0) :
    Con l Z EL false [] (⟨"java/lang/String", "coder", "()B"⟩ : MethodName) jdk_42_method_152_code 1 (some .byte) ({ frames := 0, cells := 0, slots := 0, locals := 0 } : Room) #[(.ref a)] h0 (fun v h' => v = some (.int 0) ∧ h0 = h') := by
  refine Con.of (Ls := #[.val (.ref a)]) (plainFor_of_name own_pn1) hEL (fun m => by first | (simp [entryFrame, mkF, argsToLocals, Value.category]; done) | rfl) ?_
  intro vm0 hZ0 hE0 hC0 hS0
  refine WP.getSZ (n := 3) dCO_0 (hw _ (List.mem_of_getElem? (i := 29) rfl)) Via.refl O rfl ?_
  refine WP.ifcN (n' := 6) dCO_3 ((if0 _ _).trans (feq hO).1) rfl ?_
  refine WP.aloadN (n := 7) dCO_6 rfl rfl rfl ?_
  refine WP.getF (n := 10) (host := "") dCO_7 (Or.inl (hw _ (List.mem_of_getElem? (i := 25) rfl))) Via.refl F rfl ?_
  refine WP.goto (n := 14) dCO_10 (by decide) (by decide) ?_
  exact WP.retN dCO_14 rfl (Or.inr (Or.inl rfl)) (by decide : nar .byte 0 = 0) (by decide) (by decide) ⟨rfl, rfl⟩
theorem dLN_0 : decode jdk_42_method_54_code 0 = .ok (.aload_n 0, 1) := by decide +kernel
theorem dLN_1 : decode jdk_42_method_54_code 1 = .ok (.getfield 9, 3) := by decide +kernel
theorem dLN_4 : decode jdk_42_method_54_code 4 = .ok (.arraylength, 1) := by decide +kernel
theorem dLN_5 : decode jdk_42_method_54_code 5 = .ok (.aload_n 0, 1) := by decide +kernel
theorem dLN_6 : decode jdk_42_method_54_code 6 = .ok (.invokevirtual 335, 3) := by decide +kernel
theorem dLN_9 : decode jdk_42_method_54_code 9 = .ok (.ishr, 1) := by decide +kernel
theorem dLN_10 : decode jdk_42_method_54_code 10 = .ok (.ireturn, 1) := by decide +kernel
set_option maxRecDepth 65536 in
set_option maxHeartbeats 40000000 in
theorem own_len (l : Launch) (Z : State) (a0 : Array Value) (hw : ∀ d ∈ tables_1, d.before a0 Z = true) (EL : List (String × Nat)) (hEL : EW Z a0 EL) (h0 : Heap) (a : Addr) (bs : List Int32) (A : Str Z h0 a bs) (cz : Int32) (O : Sta Z Z.heap "java/lang/String" "COMPACT_STRINGS" "Z" (.int cz)) (hO : ¬ cz = 0) :
    Con l Z EL false [] (⟨"java/lang/String", "length", "()I"⟩ : MethodName) jdk_42_method_54_code 1 (some .int) ({ frames := 1, cells := 0, slots := 0, locals := 13 } : Room) #[(.ref a)] h0 (fun v h' => v = some (.int (Int32.ofNat bs.length)) ∧ h0 = h') := by
  refine Con.of (Ls := #[.val (.ref a)]) (plainFor_of_name own_pn1) hEL (fun m => by first | (simp [entryFrame, mkF, argsToLocals, Value.category]; done) | rfl) ?_
  intro vm0 hZ0 hE0 hC0 hS0
  obtain ⟨f1, f2, b, kb, z, f3, f4, f5⟩ := A
  have hz0 : ¬ z < 0 := by obtain ⟨_, _, _, _, q, _⟩ := f4; exact q
  refine WP.aloadN (n := 1) dLN_0 rfl rfl rfl ?_
  refine WP.getF (n := 4) (host := "") dLN_1 (Or.inl (hw _ (List.mem_of_getElem? (i := 24) rfl))) Via.refl f3 rfl ?_
  refine WP.alen (n := 5) dLN_4 f4 rfl ?_
  refine WP.aloadN (n := 6) dLN_5 rfl rfl rfl ?_
  refine WP.callV (n := 9) (ce' := 0) (sl' := 0) (Wd := 1) (a := a) (argsL := []) (rest := [(.int z)]) (own_cod l Z a0 hw EL hEL h0 a f2 cz O hO) f1 dLN_6 (hw _ (List.mem_of_getElem? (i := 133) rfl)) (hw _ (List.mem_of_getElem? (i := 134) rfl)) (hw _ (List.mem_of_getElem? (i := 136) rfl)) (hw _ (List.mem_of_getElem? (i := 135) rfl)) (hw _ (List.mem_of_getElem? (i := 6) rfl)) (hw _ (List.mem_of_getElem? (i := 137) rfl)) (by decide) (fun _ hz => notFace_of_selects (args := #[]) (mvT hz (hw _ (List.mem_of_getElem? (i := 136) rfl)))) (fun _ q => nomatch q) (by decide) (by decide) rfl rfl (by decide) (by decide) rfl rfl (lenOf own_pd5 rfl) rfl (Nat.le_of_eq rfl) rfl (fun v18 vm18 h18 q18 r18 => ?_)
  obtain ⟨rfl, rfl⟩ := q18
  refine WP.ishr (n := 10) dLN_9  rfl ?_
  rw [own_shr0]
  exact WP.retI dLN_10 rfl (by decide) (by decide) ⟨by rw [(own_z hz0).1, f5], rfl⟩
theorem dAI_0 : decode jdk_68_method_2_code 0 = .ok (.aload_n 0, 1) := by decide +kernel
theorem dAI_1 : decode jdk_68_method_2_code 1 = .ok (.invokespecial 3, 3) := by decide +kernel
theorem dAI_4 : decode jdk_68_method_2_code 4 = .ok (.getstatic 18, 3) := by decide +kernel
theorem dAI_7 : decode jdk_68_method_2_code 7 = .ok (.ifCond .eq 18, 3) := by decide +kernel
theorem dAI_10 : decode jdk_68_method_2_code 10 = .ok (.aload_n 0, 1) := by decide +kernel
theorem dAI_11 : decode jdk_68_method_2_code 11 = .ok (.iload_n 1, 1) := by decide +kernel
theorem dAI_12 : decode jdk_68_method_2_code 12 = .ok (.newarray .byte, 2) := by decide +kernel
theorem dAI_14 : decode jdk_68_method_2_code 14 = .ok (.putfield 15, 3) := by decide +kernel
theorem dAI_17 : decode jdk_68_method_2_code 17 = .ok (.aload_n 0, 1) := by decide +kernel
theorem dAI_18 : decode jdk_68_method_2_code 18 = .ok (.iconst 0, 1) := by decide +kernel
theorem dAI_19 : decode jdk_68_method_2_code 19 = .ok (.putfield 22, 3) := by decide +kernel
theorem dAI_22 : decode jdk_68_method_2_code 22 = .ok (.goto 16, 3) := by decide +kernel
theorem dAI_25 : decode jdk_68_method_2_code 25 = .ok (.aload_n 0, 1) := by decide +kernel
theorem dAI_26 : decode jdk_68_method_2_code 26 = .ok (.iload_n 1, 1) := by decide +kernel
theorem dAI_27 : decode jdk_68_method_2_code 27 = .ok (.invokestatic 26, 3) := by decide +kernel
theorem dAI_30 : decode jdk_68_method_2_code 30 = .ok (.putfield 15, 3) := by decide +kernel
theorem dAI_33 : decode jdk_68_method_2_code 33 = .ok (.aload_n 0, 1) := by decide +kernel
theorem dAI_34 : decode jdk_68_method_2_code 34 = .ok (.iconst 1, 1) := by decide +kernel
theorem dAI_35 : decode jdk_68_method_2_code 35 = .ok (.putfield 22, 3) := by decide +kernel
theorem dAI_38 : decode jdk_68_method_2_code 38 = .ok (.return_, 1) := by decide +kernel
set_option maxRecDepth 65536 in
set_option maxHeartbeats 40000000 in
theorem own_asbi (l : Launch) (Z : State) (a0 : Array Value) (hw : ∀ d ∈ tables_1, d.before a0 Z = true) (EL : List (String × Nat)) (hEL : EW Z a0 EL) (h0 : Heap) (a : Addr) (hN : Z.heap.size ≤ a) (hA : Exa Z h0 a "java/lang/StringBuilder") (hF_value : Fld Z h0 a "java/lang/AbstractStringBuilder" "value" "[B" .null) (hF_coder : Fld Z h0 a "java/lang/AbstractStringBuilder" "coder" "B" (.int 0)) (hF_count : Fld Z h0 a "java/lang/AbstractStringBuilder" "count" "I" (.int 0)) (cz : Int32) (O : Sta Z Z.heap "java/lang/String" "COMPACT_STRINGS" "Z" (.int cz)) (hO : ¬ cz = 0) :
    Con l Z EL false [] (⟨"java/lang/AbstractStringBuilder", "<init>", "(I)V"⟩ : MethodName) jdk_68_method_2_code 2 none ({ frames := 1, cells := 1, slots := 16, locals := 12 } : Room) #[(.ref a), (.int (16 : Int32))] h0 (fun v h' => v = none ∧ Keep h0 h' [a] ∧ ∃ b, h0.size ≤ b ∧ SBf Z h' a b []) := by
  refine Con.of (Ls := #[.val (.ref a), .val (.int (16 : Int32))]) (plainFor_of_name own_pn3) hEL (fun m => by first | (simp [entryFrame, mkF, argsToLocals, Value.category]; done) | rfl) ?_
  intro vm0 hZ0 hE0 hC0 hS0
  refine WP.aloadN (n := 1) dAI_0 rfl rfl rfl ?_
  refine WP.initO (n := 4) (Wd := 0) dAI_1 (hw _ (List.mem_of_getElem? (i := 111) rfl)) (hw _ (List.mem_of_getElem? (i := 16) rfl)) (hw _ (List.mem_of_getElem? (i := 17) rfl)) rfl (by decide) (Nat.le_of_eq rfl) (by decide) rfl ?_
  refine WP.getSZ (n := 7) dAI_4 (hw _ (List.mem_of_getElem? (i := 112) rfl)) Via.refl O rfl ?_
  refine WP.ifcN (n' := 10) dAI_7 ((if0 _ _).trans (feq hO).1) rfl ?_
  refine WP.aloadN (n := 11) dAI_10 rfl rfl rfl ?_
  refine WP.iloadN (n := 12) dAI_11 rfl rfl ?_
  refine WP.newP (n := 14) (ce' := 1) (sl' := 16) (cap := 16) (ty := .byte) dAI_12 (hw _ (List.mem_of_getElem? (i := 19) rfl)) rfl (by decide) (by decide) (by decide) rfl rfl (by decide) (by decide) rfl (fun a19 h19 k19 g19 E19 V19 S19 N19 r19 => ?_)
  have V19_ : Arv Z h19 a19 k19 .byte (16 : Int32) (List.replicate 16 (.int 0)) (.int 0) := V19.pad (pad_rep [] (.int 0) 16)
  have XN : a19 ≠ a := Ne.symm (Nat.ne_of_lt (Nat.lt_of_lt_of_le hA.lt (Nat.le_of_eq g19.symm)))
  refine WP.putFE (n := 17) (host := "") (ty := (.array .byte)) dAI_14 (Or.inl (hw _ (List.mem_of_getElem? (i := 113) rfl))) Via.refl (hF_value.ext E19) (hA.ext E19) (Or.inl (hw _ (List.mem_of_getElem? (i := 114) rfl))) (hw _ (List.mem_of_getElem? (i := 100) rfl)) (by decide) rfl rfl hN (by decide) rfl (fun h20 W20 r20 => ?_)
  have A20 := (hA.ext E19).wr W20
  have K20 := ((Keep.refl h0 [a]).ext E19).wr W20 (Or.inl (List.mem_cons_self ..))
  have F20_value := (hF_value.ext E19).same W20
  have F20_coder := (hF_coder.ext E19).other W20 (Or.inr (slot_ne (t := .byte) (t' := (.array .byte)) (Or.inl (hw _ (List.mem_of_getElem? (i := 116) rfl))) (Or.inl (hw _ (List.mem_of_getElem? (i := 114) rfl))) (by decide) (by decide) (by decide)))
  have F20_count := (hF_count.ext E19).other W20 (Or.inr (slot_ne (t := .int) (t' := (.array .byte)) (Or.inl (hw _ (List.mem_of_getElem? (i := 139) rfl))) (Or.inl (hw _ (List.mem_of_getElem? (i := 114) rfl))) (by decide) (by decide) (by decide)))
  have V20 := V19_.other W20 XN
  refine WP.aloadN (n := 18) dAI_17 rfl rfl rfl ?_
  refine WP.iconst (n := 19) (z := (0 : Int32)) dAI_18 rfl rfl ?_
  refine WP.putFE (n := 22) (host := "") (ty := .byte) dAI_19 (Or.inl (hw _ (List.mem_of_getElem? (i := 115) rfl))) Via.refl F20_coder A20 (Or.inl (hw _ (List.mem_of_getElem? (i := 116) rfl))) (hw _ (List.mem_of_getElem? (i := 100) rfl)) (by decide) rfl (by decide) hN (by decide) rfl (fun h21 W21 r21 => ?_)
  have A21 := A20.wr W21
  have K21 := K20.wr W21 (Or.inl (List.mem_cons_self ..))
  have F21_coder := F20_coder.same W21
  have F21_value := F20_value.other W21 (Or.inr (slot_ne (t := (.array .byte)) (t' := .byte) (Or.inl (hw _ (List.mem_of_getElem? (i := 114) rfl))) (Or.inl (hw _ (List.mem_of_getElem? (i := 116) rfl))) (by decide) (by decide) (by decide)))
  have F21_count := F20_count.other W21 (Or.inr (slot_ne (t := .int) (t' := .byte) (Or.inl (hw _ (List.mem_of_getElem? (i := 139) rfl))) (Or.inl (hw _ (List.mem_of_getElem? (i := 116) rfl))) (by decide) (by decide) (by decide)))
  have V21 := V20.other W21 XN
  refine WP.goto (n := 38) dAI_22 (by decide) (by decide) ?_
  refine WP.retV dAI_38 rfl (by decide) (by decide) ?_
  exact ⟨rfl, K21, a19, Nat.le_of_eq g19.symm, A21, F21_value, F21_coder, F21_count, hN, N19, k19, _, V21, rfl, rfl⟩
theorem dBI_0 : decode jdk_67_method_1_code 0 = .ok (.aload_n 0, 1) := by decide +kernel
theorem dBI_1 : decode jdk_67_method_1_code 1 = .ok (.bipush 16, 2) := by decide +kernel
theorem dBI_3 : decode jdk_67_method_1_code 3 = .ok (.invokespecial 1, 3) := by decide +kernel
theorem dBI_6 : decode jdk_67_method_1_code 6 = .ok (.return_, 1) := by decide +kernel
set_option maxRecDepth 65536 in
set_option maxHeartbeats 40000000 in
theorem own_sbi (l : Launch) (Z : State) (a0 : Array Value) (hw : ∀ d ∈ tables_1, d.before a0 Z = true) (EL : List (String × Nat)) (hEL : EW Z a0 EL) (h0 : Heap) (a : Addr) (hN : Z.heap.size ≤ a) (hA : Exa Z h0 a "java/lang/StringBuilder") (hF_value : Fld Z h0 a "java/lang/AbstractStringBuilder" "value" "[B" .null) (hF_coder : Fld Z h0 a "java/lang/AbstractStringBuilder" "coder" "B" (.int 0)) (hF_count : Fld Z h0 a "java/lang/AbstractStringBuilder" "count" "I" (.int 0)) (cz : Int32) (O : Sta Z Z.heap "java/lang/String" "COMPACT_STRINGS" "Z" (.int cz)) (hO : ¬ cz = 0) :
    Con l Z EL false [] (⟨"java/lang/StringBuilder", "<init>", "()V"⟩ : MethodName) jdk_67_method_1_code 1 none ({ frames := 2, cells := 1, slots := 16, locals := 25 } : Room) #[(.ref a)] h0 (fun v h' => v = none ∧ Keep h0 h' [a] ∧ ∃ b, h0.size ≤ b ∧ SBf Z h' a b []) := by
  refine Con.of (Ls := #[.val (.ref a)]) (plainFor_of_name own_pn4) hEL (fun m => by first | (simp [entryFrame, mkF, argsToLocals, Value.category]; done) | rfl) ?_
  intro vm0 hZ0 hE0 hC0 hS0
  refine WP.aloadN (n := 1) dBI_0 rfl rfl rfl ?_
  refine WP.bipush (n := 3) (z := (16 : Int32)) dBI_1 (by decide) rfl ?_
  refine WP.callP (n := 6) (ce' := 1) (sl' := 16) (Wd := 0) (a := a) (argsL := [(.int (16 : Int32))]) (rest := []) (own_asbi l Z a0 hw EL hEL h0 a hN hA hF_value hF_coder hF_count cz O hO) dBI_3 rfl (hw _ (List.mem_of_getElem? (i := 105) rfl)) (hw _ (List.mem_of_getElem? (i := 106) rfl)) (hw _ (List.mem_of_getElem? (i := 109) rfl)) (hw _ (List.mem_of_getElem? (i := 110) rfl)) (by decide) (fun _ q => nomatch q) (by decide) (by decide) rfl rfl (by decide) (by decide) rfl rfl (lenOf own_pd6 rfl) rfl (Nat.le_of_eq rfl) rfl (fun v22 vm22 h22 q22 r22 => ?_)
  obtain ⟨rfl, K22, F22⟩ := q22
  refine WP.retV dBI_6 rfl (by decide) (by decide) ?_
  exact ⟨rfl, K22, F22⟩
theorem dEC_0 : decode jdk_68_method_9_code 0 = .ok (.aload_n 0, 1) := by decide +kernel
theorem dEC_1 : decode jdk_68_method_9_code 1 = .ok (.getfield 15, 3) := by decide +kernel
theorem dEC_4 : decode jdk_68_method_9_code 4 = .ok (.arraylength, 1) := by decide +kernel
theorem dEC_5 : decode jdk_68_method_9_code 5 = .ok (.aload_n 0, 1) := by decide +kernel
theorem dEC_6 : decode jdk_68_method_9_code 6 = .ok (.getfield 22, 3) := by decide +kernel
theorem dEC_9 : decode jdk_68_method_9_code 9 = .ok (.ishr, 1) := by decide +kernel
theorem dEC_10 : decode jdk_68_method_9_code 10 = .ok (.istore_n 2, 1) := by decide +kernel
theorem dEC_11 : decode jdk_68_method_9_code 11 = .ok (.iload_n 1, 1) := by decide +kernel
theorem dEC_12 : decode jdk_68_method_9_code 12 = .ok (.iload_n 2, 1) := by decide +kernel
theorem dEC_13 : decode jdk_68_method_9_code 13 = .ok (.isub, 1) := by decide +kernel
theorem dEC_14 : decode jdk_68_method_9_code 14 = .ok (.ifCond .le 24, 3) := by decide +kernel
theorem dEC_17 : decode jdk_68_method_9_code 17 = .ok (.aload_n 0, 1) := by decide +kernel
theorem dEC_18 : decode jdk_68_method_9_code 18 = .ok (.aload_n 0, 1) := by decide +kernel
theorem dEC_19 : decode jdk_68_method_9_code 19 = .ok (.getfield 15, 3) := by decide +kernel
theorem dEC_22 : decode jdk_68_method_9_code 22 = .ok (.aload_n 0, 1) := by decide +kernel
theorem dEC_23 : decode jdk_68_method_9_code 23 = .ok (.iload_n 1, 1) := by decide +kernel
theorem dEC_24 : decode jdk_68_method_9_code 24 = .ok (.invokevirtual 104, 3) := by decide +kernel
theorem dEC_27 : decode jdk_68_method_9_code 27 = .ok (.aload_n 0, 1) := by decide +kernel
theorem dEC_28 : decode jdk_68_method_9_code 28 = .ok (.getfield 22, 3) := by decide +kernel
theorem dEC_31 : decode jdk_68_method_9_code 31 = .ok (.ishl, 1) := by decide +kernel
theorem dEC_32 : decode jdk_68_method_9_code 32 = .ok (.invokestatic 108, 3) := by decide +kernel
theorem dEC_35 : decode jdk_68_method_9_code 35 = .ok (.putfield 15, 3) := by decide +kernel
theorem dEC_38 : decode jdk_68_method_9_code 38 = .ok (.return_, 1) := by decide +kernel
set_option maxRecDepth 65536 in
set_option maxHeartbeats 40000000 in
theorem own_eci (l : Launch) (Z : State) (a0 : Array Value) (hw : ∀ d ∈ tables_1, d.before a0 Z = true) (EL : List (String × Nat)) (hEL : EW Z a0 EL) (h0 : Heap) (a b : Addr) (bs : List Int32) (F : SBf Z h0 a b bs) (k : Int32) (hk : ¬ (0 : Int32) < k - 16) :
    Con l Z EL false [] (⟨"java/lang/AbstractStringBuilder", "ensureCapacityInternal", "(I)V"⟩ : MethodName) jdk_68_method_9_code 3 none ({ frames := 0, cells := 0, slots := 0, locals := 0 } : Room) #[(.ref a), (.int k)] h0 (fun v h' => v = none ∧ h0 = h') := by
  refine Con.of (Ls := #[.val (.ref a), .val (.int k), .unset]) (plainFor_of_name own_pn3) hEL (fun m => by first | (simp [entryFrame, mkF, argsToLocals, Value.category]; done) | rfl) ?_
  intro vm0 hZ0 hE0 hC0 hS0
  obtain ⟨f1, f2, f3, f4, f5, f6, kb, vs, f7, f8, f9⟩ := F
  refine WP.aloadN (n := 1) dEC_0 rfl rfl rfl ?_
  refine WP.getF (n := 4) (host := "") dEC_1 (Or.inl (hw _ (List.mem_of_getElem? (i := 113) rfl))) Via.refl f2 rfl ?_
  refine WP.alen (n := 5) dEC_4 f7 rfl ?_
  refine WP.aloadN (n := 6) dEC_5 rfl rfl rfl ?_
  refine WP.getF (n := 9) (host := "") dEC_6 (Or.inl (hw _ (List.mem_of_getElem? (i := 115) rfl))) Via.refl f3 rfl ?_
  refine WP.ishr (n := 10) dEC_9  rfl ?_
  rw [own_shr0]
  refine WP.istoreN (n := 11) (Ls' := #[.val (.ref a), .val (.int k), .val (.int (16 : Int32))]) dEC_10 rfl rfl ?_
  refine WP.iloadN (n := 12) dEC_11 rfl rfl ?_
  refine WP.iloadN (n := 13) dEC_12 rfl rfl ?_
  refine WP.isub (n := 14) dEC_13  rfl ?_
  refine WP.ifcY (n := 38) dEC_14 ((if0 _ _).trans (flt hk).2.2.2) (by decide) (by decide) ?_
  refine WP.retV dEC_38 rfl (by decide) (by decide) ?_
  exact ⟨rfl, rfl⟩
theorem dIN_0 : decode jdk_68_method_71_code 0 = .ok (.getstatic 18, 3) := by decide +kernel
theorem dIN_3 : decode jdk_68_method_71_code 3 = .ok (.ifCond .eq 18, 3) := by decide +kernel
theorem dIN_6 : decode jdk_68_method_71_code 6 = .ok (.aload_n 0, 1) := by decide +kernel
theorem dIN_7 : decode jdk_68_method_71_code 7 = .ok (.getfield 22, 3) := by decide +kernel
theorem dIN_10 : decode jdk_68_method_71_code 10 = .ok (.aload_n 1, 1) := by decide +kernel
theorem dIN_11 : decode jdk_68_method_71_code 11 = .ok (.invokevirtual 40, 3) := by decide +kernel
theorem dIN_14 : decode jdk_68_method_71_code 14 = .ok (.if_icmp .eq 7, 3) := by decide +kernel
theorem dIN_17 : decode jdk_68_method_71_code 17 = .ok (.aload_n 0, 1) := by decide +kernel
theorem dIN_18 : decode jdk_68_method_71_code 18 = .ok (.invokevirtual 195, 3) := by decide +kernel
theorem dIN_21 : decode jdk_68_method_71_code 21 = .ok (.return_, 1) := by decide +kernel
set_option maxRecDepth 65536 in
set_option maxHeartbeats 40000000 in
theorem own_inf (l : Launch) (Z : State) (a0 : Array Value) (hw : ∀ d ∈ tables_1, d.before a0 Z = true) (EL : List (String × Nat)) (hEL : EW Z a0 EL) (h0 : Heap) (a b : Addr) (bs : List Int32) (F : SBf Z h0 a b bs) (s : Addr) (ds : List Int32) (G : Str Z h0 s ds) (cz : Int32) (O : Sta Z Z.heap "java/lang/String" "COMPACT_STRINGS" "Z" (.int cz)) (hO : ¬ cz = 0) :
    Con l Z EL false [] (⟨"java/lang/AbstractStringBuilder", "inflateIfNeededFor", "(Ljava/lang/String;)V"⟩ : MethodName) jdk_68_method_71_code 2 none ({ frames := 1, cells := 0, slots := 0, locals := 13 } : Room) #[(.ref a), (.ref s)] h0 (fun v h' => v = none ∧ h0 = h') := by
  refine Con.of (Ls := #[.val (.ref a), .val (.ref s)]) (plainFor_of_name own_pn3) hEL (fun m => by first | (simp [entryFrame, mkF, argsToLocals, Value.category]; done) | rfl) ?_
  intro vm0 hZ0 hE0 hC0 hS0
  obtain ⟨f1, f2, f3, f4, f5, f6, kb, vs, f7, f8, f9⟩ := F
  obtain ⟨g1, g2, gr⟩ := G
  refine WP.getSZ (n := 3) dIN_0 (hw _ (List.mem_of_getElem? (i := 112) rfl)) Via.refl O rfl ?_
  refine WP.ifcN (n' := 6) dIN_3 ((if0 _ _).trans (feq hO).1) rfl ?_
  refine WP.aloadN (n := 7) dIN_6 rfl rfl rfl ?_
  refine WP.getF (n := 10) (host := "") dIN_7 (Or.inl (hw _ (List.mem_of_getElem? (i := 115) rfl))) Via.refl f3 rfl ?_
  refine WP.aloadN (n := 11) dIN_10 rfl rfl rfl ?_
  refine WP.callV (n := 14) (ce' := 0) (sl' := 0) (Wd := 1) (a := s) (argsL := []) (rest := [(.int (0 : Int32))]) (own_cod l Z a0 hw EL hEL h0 s g2 cz O hO) g1 dIN_11 (hw _ (List.mem_of_getElem? (i := 155) rfl)) (hw _ (List.mem_of_getElem? (i := 134) rfl)) (hw _ (List.mem_of_getElem? (i := 136) rfl)) (hw _ (List.mem_of_getElem? (i := 135) rfl)) (hw _ (List.mem_of_getElem? (i := 6) rfl)) (hw _ (List.mem_of_getElem? (i := 137) rfl)) (by decide) (fun _ hz => notFace_of_selects (args := #[]) (mvT hz (hw _ (List.mem_of_getElem? (i := 136) rfl)))) (fun _ q => nomatch q) (by decide) (by decide) rfl rfl (by decide) (by decide) rfl rfl (lenOf own_pd5 rfl) rfl (Nat.le_of_eq rfl) rfl (fun v23 vm23 h23 q23 r23 => ?_)
  obtain ⟨rfl, rfl⟩ := q23
  refine WP.icmpY (n := 21) dIN_14 (by decide) (by decide) (by decide) ?_
  refine WP.retV dIN_21 rfl (by decide) (by decide) ?_
  exact ⟨rfl, rfl⟩
theorem dGB_0 : decode jdk_42_method_147_code 0 = .ok (.aload_n 0, 1) := by decide +kernel
theorem dGB_1 : decode jdk_42_method_147_code 1 = .ok (.invokevirtual 335, 3) := by decide +kernel
theorem dGB_4 : decode jdk_42_method_147_code 4 = .ok (.iload_n 3, 1) := by decide +kernel
theorem dGB_5 : decode jdk_42_method_147_code 5 = .ok (.if_icmp .ne 23, 3) := by decide +kernel
theorem dGB_8 : decode jdk_42_method_147_code 8 = .ok (.aload_n 0, 1) := by decide +kernel
theorem dGB_9 : decode jdk_42_method_147_code 9 = .ok (.getfield 9, 3) := by decide +kernel
theorem dGB_12 : decode jdk_42_method_147_code 12 = .ok (.iconst 0, 1) := by decide +kernel
theorem dGB_13 : decode jdk_42_method_147_code 13 = .ok (.aload_n 1, 1) := by decide +kernel
theorem dGB_14 : decode jdk_42_method_147_code 14 = .ok (.iload_n 2, 1) := by decide +kernel
theorem dGB_15 : decode jdk_42_method_147_code 15 = .ok (.iload_n 3, 1) := by decide +kernel
theorem dGB_16 : decode jdk_42_method_147_code 16 = .ok (.ishl, 1) := by decide +kernel
theorem dGB_17 : decode jdk_42_method_147_code 17 = .ok (.aload_n 0, 1) := by decide +kernel
theorem dGB_18 : decode jdk_42_method_147_code 18 = .ok (.getfield 9, 3) := by decide +kernel
theorem dGB_21 : decode jdk_42_method_147_code 21 = .ok (.arraylength, 1) := by decide +kernel
theorem dGB_22 : decode jdk_42_method_147_code 22 = .ok (.invokestatic 212, 3) := by decide +kernel
theorem dGB_25 : decode jdk_42_method_147_code 25 = .ok (.goto 18, 3) := by decide +kernel
theorem dGB_28 : decode jdk_42_method_147_code 28 = .ok (.aload_n 0, 1) := by decide +kernel
theorem dGB_29 : decode jdk_42_method_147_code 29 = .ok (.getfield 9, 3) := by decide +kernel
theorem dGB_32 : decode jdk_42_method_147_code 32 = .ok (.iconst 0, 1) := by decide +kernel
theorem dGB_33 : decode jdk_42_method_147_code 33 = .ok (.aload_n 1, 1) := by decide +kernel
theorem dGB_34 : decode jdk_42_method_147_code 34 = .ok (.iload_n 2, 1) := by decide +kernel
theorem dGB_35 : decode jdk_42_method_147_code 35 = .ok (.aload_n 0, 1) := by decide +kernel
theorem dGB_36 : decode jdk_42_method_147_code 36 = .ok (.getfield 9, 3) := by decide +kernel
theorem dGB_39 : decode jdk_42_method_147_code 39 = .ok (.arraylength, 1) := by decide +kernel
theorem dGB_40 : decode jdk_42_method_147_code 40 = .ok (.invokestatic 106, 3) := by decide +kernel
theorem dGB_43 : decode jdk_42_method_147_code 43 = .ok (.return_, 1) := by decide +kernel
set_option maxRecDepth 65536 in
set_option maxHeartbeats 40000000 in
theorem own_gb (l : Launch) (Z : State) (a0 : Array Value) (hw : ∀ d ∈ tables_1, d.before a0 Z = true) (EL : List (String × Nat)) (hEL : EW Z a0 EL) (h0 : Heap) (s b : Addr) (ds : List Int32) (G : Str Z h0 s ds) (kb : ClassId) (vs : List Value) (n : Nat) (B : Arv Z h0 b kb .byte 16 vs (.int 0)) (hv : vs.length = 16) (hn : n + ds.length ≤ 16) (hN : Z.heap.size ≤ b) (hL : EWn Z a0 EL 16) (cz : Int32) (O : Sta Z Z.heap "java/lang/String" "COMPACT_STRINGS" "Z" (.int cz)) (hO : ¬ cz = 0) :
    Con l Z EL false [] (⟨"java/lang/String", "getBytes", "([BIB)V"⟩ : MethodName) jdk_42_method_147_code 4 none ({ frames := 1, cells := 0, slots := 0, locals := 40 } : Room) #[(.ref s), (.ref b), (.int (Int32.ofNat n)), (.int (0 : Int32))] h0 (fun v h' => v = none ∧ Keep h0 h' [b] ∧ Arv Z h' b kb .byte 16 (vs.take n ++ ds.map Value.int ++ vs.drop (n + ds.length)) (.int 0)) := by
  refine Con.of (Ls := #[.val (.ref s), .val (.ref b), .val (.int (Int32.ofNat n)), .val (.int (0 : Int32))]) (plainFor_of_name own_pn1) hEL (fun m => by first | (simp [entryFrame, mkF, argsToLocals, Value.category]; done) | rfl) ?_
  intro vm0 hZ0 hE0 hC0 hS0
  obtain ⟨g1, g2, t, kt, z, g3, g4, g5⟩ := G
  have hz0 : ¬ z < 0 := by obtain ⟨_, _, _, _, q, _⟩ := g4; exact q
  refine WP.aloadN (n := 1) dGB_0 rfl rfl rfl ?_
  refine WP.callV (n := 4) (ce' := 0) (sl' := 0) (Wd := 0) (a := s) (argsL := []) (rest := []) (own_cod l Z a0 hw EL hEL h0 s g2 cz O hO) g1 dGB_1 (hw _ (List.mem_of_getElem? (i := 133) rfl)) (hw _ (List.mem_of_getElem? (i := 134) rfl)) (hw _ (List.mem_of_getElem? (i := 136) rfl)) (hw _ (List.mem_of_getElem? (i := 135) rfl)) (hw _ (List.mem_of_getElem? (i := 6) rfl)) (hw _ (List.mem_of_getElem? (i := 137) rfl)) (by decide) (fun _ hz => notFace_of_selects (args := #[]) (mvT hz (hw _ (List.mem_of_getElem? (i := 136) rfl)))) (fun _ q => nomatch q) (by decide) (by decide) rfl rfl (by decide) (by decide) rfl rfl (lenOf own_pd5 rfl) rfl (Nat.le_of_eq rfl) rfl (fun v24 vm24 h24 q24 r24 => ?_)
  obtain ⟨rfl, rfl⟩ := q24
  refine WP.iloadN (n := 5) dGB_4 rfl rfl ?_
  refine WP.icmpN (n' := 8) dGB_5 (by decide) rfl ?_
  refine WP.aloadN (n := 9) dGB_8 rfl rfl rfl ?_
  refine WP.getF (n := 12) (host := "") dGB_9 (Or.inl (hw _ (List.mem_of_getElem? (i := 24) rfl))) Via.refl g3 rfl ?_
  refine WP.iconst (n := 13) (z := (0 : Int32)) dGB_12 rfl rfl ?_
  refine WP.aloadN (n := 14) dGB_13 rfl rfl rfl ?_
  refine WP.iloadN (n := 15) dGB_14 rfl rfl ?_
  refine WP.iloadN (n := 16) dGB_15 rfl rfl ?_
  refine WP.ishl (n := 17) dGB_16  rfl ?_
  rw [own_shl0]
  refine WP.aloadN (n := 18) dGB_17 rfl rfl rfl ?_
  refine WP.getF (n := 21) (host := "") dGB_18 (Or.inl (hw _ (List.mem_of_getElem? (i := 24) rfl))) Via.refl g3 rfl ?_
  refine WP.alen (n := 22) dGB_21 g4 rfl ?_
  refine WP.inv fun hZc hEc hCc => ?_
  refine WP.copyB (n := 25) (Wd := 0) (vr := vs.take n ++ ds.map Value.int ++ vs.drop (n + ds.length)) dGB_22 (hw _ (List.mem_of_getElem? (i := 161) rfl)) (hw _ (List.mem_of_getElem? (i := 164) rfl)) (hw _ (List.mem_of_getElem? (i := 162) rfl)) (hw _ (List.mem_of_getElem? (i := 163) rfl)) g4 B (by decide) (own_nn (by omega)) hz0 (by rw [g5]; show 0 + _ ≤ _; omega) (by rw [own_clamp (by omega), g5]; show _ ≤ 16; omega) (us := ds.map Value.int) (by rw [g5, show ds.length = (ds.map Value.int).length by simp, own_rangeMap]) (by rw [own_clamp (by omega), g5]; omega) (by rw [own_clamp (by omega), g5]) hN (own_safeLen hZc hL B) rfl (by decide) (Nat.le_of_eq rfl) (by decide) rfl (fun h7 K7 V7 r7 => ?_)
  refine WP.goto (n := 43) dGB_25 (by decide) (by decide) ?_
  refine WP.retV dGB_43 rfl (by decide) (by decide) ?_
  exact ⟨rfl, K7, V7⟩
theorem dPS_0 : decode jdk_68_method_73_code 0 = .ok (.aload_n 0, 1) := by decide +kernel
theorem dPS_1 : decode jdk_68_method_73_code 1 = .ok (.aload_n 2, 1) := by decide +kernel
theorem dPS_2 : decode jdk_68_method_73_code 2 = .ok (.invokevirtual 397, 3) := by decide +kernel
theorem dPS_5 : decode jdk_68_method_73_code 5 = .ok (.aload_n 2, 1) := by decide +kernel
theorem dPS_6 : decode jdk_68_method_73_code 6 = .ok (.aload_n 0, 1) := by decide +kernel
theorem dPS_7 : decode jdk_68_method_73_code 7 = .ok (.getfield 15, 3) := by decide +kernel
theorem dPS_10 : decode jdk_68_method_73_code 10 = .ok (.iload_n 1, 1) := by decide +kernel
theorem dPS_11 : decode jdk_68_method_73_code 11 = .ok (.aload_n 0, 1) := by decide +kernel
theorem dPS_12 : decode jdk_68_method_73_code 12 = .ok (.getfield 22, 3) := by decide +kernel
theorem dPS_15 : decode jdk_68_method_73_code 15 = .ok (.invokevirtual 399, 3) := by decide +kernel
theorem dPS_18 : decode jdk_68_method_73_code 18 = .ok (.return_, 1) := by decide +kernel
set_option maxRecDepth 65536 in
set_option maxHeartbeats 40000000 in
theorem own_psa (l : Launch) (Z : State) (a0 : Array Value) (hw : ∀ d ∈ tables_1, d.before a0 Z = true) (EL : List (String × Nat)) (hEL : EW Z a0 EL) (h0 : Heap) (a b : Addr) (bs : List Int32) (F : SBf Z h0 a b bs) (s : Addr) (ds : List Int32) (G : Str Z h0 s ds) (hn : bs.length + ds.length ≤ 16) (hL : EWn Z a0 EL 16) (cz : Int32) (O : Sta Z Z.heap "java/lang/String" "COMPACT_STRINGS" "Z" (.int cz)) (hO : ¬ cz = 0) :
    Con l Z EL false [] (⟨"java/lang/AbstractStringBuilder", "putStringAt", "(ILjava/lang/String;)V"⟩ : MethodName) jdk_68_method_73_code 3 none ({ frames := 2, cells := 0, slots := 0, locals := 60 } : Room) #[(.ref a), (.int (Int32.ofNat bs.length)), (.ref s)] h0 (fun v h' => v = none ∧ ∃ (kb : ClassId) (vs : List Value), vs.length = 16 ∧ vs.take bs.length = bs.map Value.int ∧ Keep h0 h' [b] ∧ Arv Z h' b kb .byte 16 (vs.take bs.length ++ ds.map Value.int ++ vs.drop (bs.length + ds.length)) (.int 0)) := by
  refine Con.of (Ls := #[.val (.ref a), .val (.int (Int32.ofNat bs.length)), .val (.ref s)]) (plainFor_of_name own_pn3) hEL (fun m => by first | (simp [entryFrame, mkF, argsToLocals, Value.category]; done) | rfl) ?_
  intro vm0 hZ0 hE0 hC0 hS0
  obtain ⟨f1, f2, f3, f4, f5, f6, kb, vs, f7, f8, f9⟩ := id F
  refine WP.aloadN (n := 1) dPS_0 rfl rfl rfl ?_
  refine WP.aloadN (n := 2) dPS_1 rfl rfl rfl ?_
  refine WP.callPr (n := 5) (ce' := 0) (sl' := 0) (Wd := 0) (a := a) (argsL := [(.ref s)]) (rest := []) (own_inf l Z a0 hw EL hEL h0 a b bs F s ds G cz O hO) f1 dPS_2 (hw _ (List.mem_of_getElem? (i := 150) rfl)) (hw _ (List.mem_of_getElem? (i := 151) rfl)) (hw _ (List.mem_of_getElem? (i := 153) rfl)) (hw _ (List.mem_of_getElem? (i := 152) rfl)) (hw _ (List.mem_of_getElem? (i := 109) rfl)) (hw _ (List.mem_of_getElem? (i := 154) rfl)) (by decide) (fun _ q => nomatch q) (by decide) (by decide) rfl rfl (by decide) (by decide) rfl rfl (lenOf own_pd7 rfl) rfl (Nat.le_of_eq rfl) rfl (fun v25 vm25 h25 q25 r25 => ?_)
  obtain ⟨rfl, rfl⟩ := q25
  refine WP.aloadN (n := 6) dPS_5 rfl rfl rfl ?_
  refine WP.aloadN (n := 7) dPS_6 rfl rfl rfl ?_
  refine WP.getF (n := 10) (host := "") dPS_7 (Or.inl (hw _ (List.mem_of_getElem? (i := 113) rfl))) Via.refl f2 rfl ?_
  refine WP.iloadN (n := 11) dPS_10 rfl rfl ?_
  refine WP.aloadN (n := 12) dPS_11 rfl rfl rfl ?_
  refine WP.getF (n := 15) (host := "") dPS_12 (Or.inl (hw _ (List.mem_of_getElem? (i := 115) rfl))) Via.refl f3 rfl ?_
  refine WP.callV (n := 18) (ce' := 0) (sl' := 0) (Wd := 0) (a := s) (argsL := [(.ref b), (.int (Int32.ofNat bs.length)), (.int (0 : Int32))]) (rest := []) (own_gb l Z a0 hw EL hEL h0 s b ds G kb vs bs.length f7 f8 hn f6 hL cz O hO) G.1 dPS_15 (hw _ (List.mem_of_getElem? (i := 156) rfl)) (hw _ (List.mem_of_getElem? (i := 157) rfl)) (hw _ (List.mem_of_getElem? (i := 159) rfl)) (hw _ (List.mem_of_getElem? (i := 158) rfl)) (hw _ (List.mem_of_getElem? (i := 6) rfl)) (hw _ (List.mem_of_getElem? (i := 160) rfl)) (by decide) (fun _ hz => notFace_of_selects (args := #[]) (mvT hz (hw _ (List.mem_of_getElem? (i := 159) rfl)))) (fun _ q => nomatch q) (by decide) (by decide) rfl rfl (by decide) (by decide) rfl rfl (lenOf own_pd8 rfl) rfl (Nat.le_of_eq rfl) rfl (fun v26 vm26 h26 q26 r26 => ?_)
  obtain ⟨rfl, K26, V26⟩ := q26
  refine WP.retV dPS_18 rfl (by decide) (by decide) ?_
  exact ⟨rfl, kb, vs, f8, f9, K26, V26⟩
theorem dAA_0 : decode jdk_68_method_22_code 0 = .ok (.aload_n 1, 1) := by decide +kernel
theorem dAA_1 : decode jdk_68_method_22_code 1 = .ok (.ifnonnull 8, 3) := by decide +kernel
theorem dAA_4 : decode jdk_68_method_22_code 4 = .ok (.aload_n 0, 1) := by decide +kernel
theorem dAA_5 : decode jdk_68_method_22_code 5 = .ok (.invokevirtual 204, 3) := by decide +kernel
theorem dAA_8 : decode jdk_68_method_22_code 8 = .ok (.areturn, 1) := by decide +kernel
theorem dAA_9 : decode jdk_68_method_22_code 9 = .ok (.aload_n 1, 1) := by decide +kernel
theorem dAA_10 : decode jdk_68_method_22_code 10 = .ok (.invokevirtual 32, 3) := by decide +kernel
theorem dAA_13 : decode jdk_68_method_22_code 13 = .ok (.istore_n 2, 1) := by decide +kernel
theorem dAA_14 : decode jdk_68_method_22_code 14 = .ok (.aload_n 0, 1) := by decide +kernel
theorem dAA_15 : decode jdk_68_method_22_code 15 = .ok (.aload_n 0, 1) := by decide +kernel
theorem dAA_16 : decode jdk_68_method_22_code 16 = .ok (.getfield 79, 3) := by decide +kernel
theorem dAA_19 : decode jdk_68_method_22_code 19 = .ok (.iload_n 2, 1) := by decide +kernel
theorem dAA_20 : decode jdk_68_method_22_code 20 = .ok (.iadd, 1) := by decide +kernel
theorem dAA_21 : decode jdk_68_method_22_code 21 = .ok (.invokevirtual 100, 3) := by decide +kernel
theorem dAA_24 : decode jdk_68_method_22_code 24 = .ok (.aload_n 0, 1) := by decide +kernel
theorem dAA_25 : decode jdk_68_method_22_code 25 = .ok (.aload_n 0, 1) := by decide +kernel
theorem dAA_26 : decode jdk_68_method_22_code 26 = .ok (.getfield 79, 3) := by decide +kernel
theorem dAA_29 : decode jdk_68_method_22_code 29 = .ok (.aload_n 1, 1) := by decide +kernel
theorem dAA_30 : decode jdk_68_method_22_code 30 = .ok (.invokevirtual 208, 3) := by decide +kernel
theorem dAA_33 : decode jdk_68_method_22_code 33 = .ok (.aload_n 0, 1) := by decide +kernel
theorem dAA_34 : decode jdk_68_method_22_code 34 = .ok (.dup, 1) := by decide +kernel
theorem dAA_35 : decode jdk_68_method_22_code 35 = .ok (.getfield 79, 3) := by decide +kernel
theorem dAA_38 : decode jdk_68_method_22_code 38 = .ok (.iload_n 2, 1) := by decide +kernel
theorem dAA_39 : decode jdk_68_method_22_code 39 = .ok (.iadd, 1) := by decide +kernel
theorem dAA_40 : decode jdk_68_method_22_code 40 = .ok (.putfield 79, 3) := by decide +kernel
theorem dAA_43 : decode jdk_68_method_22_code 43 = .ok (.aload_n 0, 1) := by decide +kernel
theorem dAA_44 : decode jdk_68_method_22_code 44 = .ok (.areturn, 1) := by decide +kernel
set_option maxRecDepth 65536 in
set_option maxHeartbeats 40000000 in
theorem own_aapp (l : Launch) (Z : State) (a0 : Array Value) (hw : ∀ d ∈ tables_1, d.before a0 Z = true) (EL : List (String × Nat)) (hEL : EW Z a0 EL) (h0 : Heap) (a b : Addr) (bs : List Int32) (F : SBf Z h0 a b bs) (s : Addr) (ds : List Int32) (G : Str Z h0 s ds) (hn : bs.length + ds.length ≤ 16) (hL : EWn Z a0 EL 16) (cz : Int32) (O : Sta Z Z.heap "java/lang/String" "COMPACT_STRINGS" "Z" (.int cz)) (hO : ¬ cz = 0) :
    Con l Z EL false [] (⟨"java/lang/AbstractStringBuilder", "append", "(Ljava/lang/String;)Ljava/lang/AbstractStringBuilder;"⟩ : MethodName) jdk_68_method_22_code 3 (some (.object "java/lang/AbstractStringBuilder")) ({ frames := 3, cells := 0, slots := 0, locals := 80 } : Room) #[(.ref a), (.ref s)] h0 (fun v h' => v = some (.ref a) ∧ Keep h0 h' [b, a] ∧ SBf Z h' a b (bs ++ ds)) := by
  refine Con.of (Ls := #[.val (.ref a), .val (.ref s), .unset]) (plainFor_of_name own_pn3) hEL (fun m => by first | (simp [entryFrame, mkF, argsToLocals, Value.category]; done) | rfl) ?_
  intro vm0 hZ0 hE0 hC0 hS0
  obtain ⟨f1, f2, f3, f4, f5, f6, kb0, vs0, f7, f8, f9⟩ := id F
  have nab : b ≠ a := fun e => Exa.neArv f1 f7 (hw _ (List.mem_of_getElem? (i := 100) rfl)) e.symm
  have m1 : a ∉ [b] := fun q => nab (List.mem_singleton.mp q).symm
  refine WP.aloadN (n := 1) dAA_0 rfl rfl rfl ?_
  refine WP.ifnonnullY (n := 9) dAA_1 (by decide) (by decide) ?_
  refine WP.aloadN (n := 10) dAA_9 rfl rfl rfl ?_
  refine WP.callV (n := 13) (ce' := 0) (sl' := 0) (Wd := 0) (a := s) (argsL := []) (rest := []) (own_len l Z a0 hw EL hEL h0 s ds G cz O hO) G.1 dAA_10 (hw _ (List.mem_of_getElem? (i := 128) rfl)) (hw _ (List.mem_of_getElem? (i := 129) rfl)) (hw _ (List.mem_of_getElem? (i := 131) rfl)) (hw _ (List.mem_of_getElem? (i := 130) rfl)) (hw _ (List.mem_of_getElem? (i := 6) rfl)) (hw _ (List.mem_of_getElem? (i := 132) rfl)) (by decide) (fun _ hz => notFace_of_selects (args := #[]) (mvT hz (hw _ (List.mem_of_getElem? (i := 131) rfl)))) (fun _ q => nomatch q) (by decide) (by decide) rfl rfl (by decide) (by decide) rfl rfl (lenOf own_pd9 rfl) rfl (Nat.le_of_eq rfl) rfl (fun v27 vm27 h27 q27 r27 => ?_)
  obtain ⟨rfl, rfl⟩ := q27
  refine WP.istoreN (n := 14) (Ls' := #[.val (.ref a), .val (.ref s), .val (.int (Int32.ofNat ds.length))]) dAA_13 rfl rfl ?_
  refine WP.aloadN (n := 15) dAA_14 rfl rfl rfl ?_
  refine WP.aloadN (n := 16) dAA_15 rfl rfl rfl ?_
  refine WP.getF (n := 19) (host := "") dAA_16 (Or.inl (hw _ (List.mem_of_getElem? (i := 138) rfl))) Via.refl f4 rfl ?_
  refine WP.iloadN (n := 20) dAA_19 rfl rfl ?_
  refine WP.iadd (n := 21) dAA_20  rfl ?_
  rw [own_addN (by omega)]
  refine WP.callPr (n := 24) (ce' := 0) (sl' := 0) (Wd := 0) (a := a) (argsL := [(.int (Int32.ofNat (bs.length + ds.length)))]) (rest := []) (own_eci l Z a0 hw EL hEL h0 a b bs F (Int32.ofNat (bs.length + ds.length)) (own_le16 hn)) f1 dAA_21 (hw _ (List.mem_of_getElem? (i := 140) rfl)) (hw _ (List.mem_of_getElem? (i := 141) rfl)) (hw _ (List.mem_of_getElem? (i := 143) rfl)) (hw _ (List.mem_of_getElem? (i := 142) rfl)) (hw _ (List.mem_of_getElem? (i := 109) rfl)) (hw _ (List.mem_of_getElem? (i := 144) rfl)) (by decide) (fun _ q => nomatch q) (by decide) (by decide) rfl rfl (by decide) (by decide) rfl rfl (lenOf own_pd6 rfl) rfl (Nat.le_of_eq rfl) rfl (fun v28 vm28 h28 q28 r28 => ?_)
  obtain ⟨rfl, rfl⟩ := q28
  refine WP.aloadN (n := 25) dAA_24 rfl rfl rfl ?_
  refine WP.aloadN (n := 26) dAA_25 rfl rfl rfl ?_
  refine WP.getF (n := 29) (host := "") dAA_26 (Or.inl (hw _ (List.mem_of_getElem? (i := 138) rfl))) Via.refl f4 rfl ?_
  refine WP.aloadN (n := 30) dAA_29 rfl rfl rfl ?_
  refine WP.callPr (n := 33) (ce' := 0) (sl' := 0) (Wd := 0) (a := a) (argsL := [(.int (Int32.ofNat bs.length)), (.ref s)]) (rest := []) (own_psa l Z a0 hw EL hEL h0 a b bs F s ds G hn hL cz O hO) f1 dAA_30 (hw _ (List.mem_of_getElem? (i := 145) rfl)) (hw _ (List.mem_of_getElem? (i := 146) rfl)) (hw _ (List.mem_of_getElem? (i := 148) rfl)) (hw _ (List.mem_of_getElem? (i := 147) rfl)) (hw _ (List.mem_of_getElem? (i := 109) rfl)) (hw _ (List.mem_of_getElem? (i := 149) rfl)) (by decide) (fun _ q => nomatch q) (by decide) (by decide) rfl rfl (by decide) (by decide) rfl rfl (lenOf own_pd10 rfl) rfl (Nat.le_of_eq rfl) rfl (fun v29 vm29 h29 q29 r29 => ?_)
  obtain ⟨rfl, kb, vs, e1, e2, K29, V29⟩ := q29
  refine WP.aloadN (n := 34) dAA_33 rfl rfl rfl ?_
  refine WP.dup (n := 35) dAA_34 rfl rfl ?_
  refine WP.getF (n := 38) (host := "") dAA_35 (Or.inl (hw _ (List.mem_of_getElem? (i := 138) rfl))) Via.refl (f4.keep K29 m1) rfl ?_
  refine WP.iloadN (n := 39) dAA_38 rfl rfl ?_
  refine WP.iadd (n := 40) dAA_39  rfl ?_
  rw [own_addN (by omega)]
  refine WP.putFE (n := 43) (host := "") (ty := .int) dAA_40 (Or.inl (hw _ (List.mem_of_getElem? (i := 138) rfl))) Via.refl (f4.keep K29 m1) (f1.keep K29) (Or.inl (hw _ (List.mem_of_getElem? (i := 139) rfl))) (hw _ (List.mem_of_getElem? (i := 100) rfl)) (by decide) rfl rfl f5 (by decide) rfl (fun h30 W30 r30 => ?_)
  have A30 := (f1.keep K29).wr W30
  have F30_count := (f4.keep K29 m1).same W30
  have F30_value := (f2.keep K29 m1).other W30 (Or.inr (slot_ne (t := (.array .byte)) (t' := .int) (Or.inl (hw _ (List.mem_of_getElem? (i := 114) rfl))) (Or.inl (hw _ (List.mem_of_getElem? (i := 139) rfl))) (by decide) (by decide) (by decide)))
  have F30_coder := (f3.keep K29 m1).other W30 (Or.inr (slot_ne (t := .byte) (t' := .int) (Or.inl (hw _ (List.mem_of_getElem? (i := 116) rfl))) (Or.inl (hw _ (List.mem_of_getElem? (i := 139) rfl))) (by decide) (by decide) (by decide)))
  refine WP.aloadN (n := 44) dAA_43 rfl rfl rfl ?_
  refine WP.retA dAA_44 rfl rfl rfl rfl (by decide) (by decide) ⟨rfl, ?_, ?_⟩
  · exact (Keep.trans (ws' := [b]) (Keep.refl h0 [b, a]) K29 (fun x hx => Or.inl (by cases List.mem_singleton.mp hx; exact List.mem_cons_self ..))).wr W30 (Or.inl (List.mem_cons_of_mem _ (List.mem_cons_self ..)))
  · have el : (ds.map Value.int).length = ds.length := by simp
    have s1 := own_splice_len (vs := vs) (us := ds.map Value.int) (n := bs.length) (by rw [el, e1]; exact hn)
    have s2 := own_splice (vs := vs) (us := ds.map Value.int) (n := bs.length) (by omega)
    rw [el] at s1 s2
    refine ⟨A30, F30_value, F30_coder, ?_, f5, f6, kb, _, V29.other W30 nab, s1.trans e1, ?_⟩
    · rw [List.length_append]; exact F30_count
    · rw [List.length_append, s2, e2, List.map_append]
theorem dSA_0 : decode jdk_67_method_7_code 0 = .ok (.aload_n 0, 1) := by decide +kernel
theorem dSA_1 : decode jdk_67_method_7_code 1 = .ok (.aload_n 1, 1) := by decide +kernel
theorem dSA_2 : decode jdk_67_method_7_code 2 = .ok (.invokespecial 29, 3) := by decide +kernel
theorem dSA_5 : decode jdk_67_method_7_code 5 = .ok (.pop, 1) := by decide +kernel
theorem dSA_6 : decode jdk_67_method_7_code 6 = .ok (.aload_n 0, 1) := by decide +kernel
theorem dSA_7 : decode jdk_67_method_7_code 7 = .ok (.areturn, 1) := by decide +kernel
set_option maxRecDepth 65536 in
set_option maxHeartbeats 40000000 in
theorem own_sapp (l : Launch) (Z : State) (a0 : Array Value) (hw : ∀ d ∈ tables_1, d.before a0 Z = true) (EL : List (String × Nat)) (hEL : EW Z a0 EL) (h0 : Heap) (a b : Addr) (bs : List Int32) (F : SBf Z h0 a b bs) (s : Addr) (ds : List Int32) (G : Str Z h0 s ds) (hn : bs.length + ds.length ≤ 16) (hL : EWn Z a0 EL 16) (cz : Int32) (O : Sta Z Z.heap "java/lang/String" "COMPACT_STRINGS" "Z" (.int cz)) (hO : ¬ cz = 0) :
    Con l Z EL false [] (⟨"java/lang/StringBuilder", "append", "(Ljava/lang/String;)Ljava/lang/StringBuilder;"⟩ : MethodName) jdk_67_method_7_code 2 (some (.object "java/lang/StringBuilder")) ({ frames := 4, cells := 0, slots := 0, locals := 100 } : Room) #[(.ref a), (.ref s)] h0 (fun v h' => v = some (.ref a) ∧ Keep h0 h' [b, a] ∧ SBf Z h' a b (bs ++ ds)) := by
  refine Con.of (Ls := #[.val (.ref a), .val (.ref s)]) (plainFor_of_name own_pn4) hEL (fun m => by first | (simp [entryFrame, mkF, argsToLocals, Value.category]; done) | rfl) ?_
  intro vm0 hZ0 hE0 hC0 hS0
  have f1 := F.1
  refine WP.aloadN (n := 1) dSA_0 rfl rfl rfl ?_
  refine WP.aloadN (n := 2) dSA_1 rfl rfl rfl ?_
  refine WP.callSu (n := 5) (ce' := 0) (sl' := 0) (Wd := 0) (a := a) (argsL := [(.ref s)]) (rest := []) (own_aapp l Z a0 hw EL hEL h0 a b bs F s ds G hn hL cz O hO) (Ins.self f1) dSA_2 (by decide) (hw _ (List.mem_of_getElem? (i := 123) rfl)) (own_sameM (hw _ (List.mem_of_getElem? (i := 126) rfl)) (own_nfAB (y := (⟨"java/lang/AbstractStringBuilder", "getValue", "()[B"⟩ : MethodName)) (notFace_of_selects (args := a0) (hw _ (List.mem_of_getElem? (i := 180) rfl))) rfl (by obtain ⟨r, _, e, _⟩ := Cond.declares_spec (hw _ (List.mem_of_getElem? (i := 178) rfl)); exact ⟨r, e⟩)) (by decide)) (hw _ (List.mem_of_getElem? (i := 124) rfl)) (hw _ (List.mem_of_getElem? (i := 125) rfl)) (hw _ (List.mem_of_getElem? (i := 109) rfl)) (hw _ (List.mem_of_getElem? (i := 127) rfl)) (fun _ q => nomatch q) (by decide) (by decide) rfl rfl (by decide) (by decide) rfl rfl (lenOf own_pd11 rfl) rfl (Nat.le_of_eq rfl) rfl (fun v31 vm31 h31 q31 r31 => ?_)
  obtain ⟨rfl, K31, F31⟩ := q31
  refine WP.pop (n := 6) dSA_5 rfl rfl ?_
  refine WP.aloadN (n := 7) dSA_6 rfl rfl rfl ?_
  exact WP.retA dSA_7 rfl rfl rfl rfl (by decide) (by decide) ⟨rfl, K31, F31⟩
theorem dCK_0 : decode jdk_65_method_131_code 0 = .ok (.iload_n 1, 1) := by decide +kernel
theorem dCK_1 : decode jdk_65_method_131_code 1 = .ok (.iload_n 0, 1) := by decide +kernel
theorem dCK_2 : decode jdk_65_method_131_code 2 = .ok (.if_icmp .ge 35, 3) := by decide +kernel
theorem dCK_5 : decode jdk_65_method_131_code 5 = .ok (.new 43, 3) := by decide +kernel
theorem dCK_8 : decode jdk_65_method_131_code 8 = .ok (.dup, 1) := by decide +kernel
theorem dCK_9 : decode jdk_65_method_131_code 9 = .ok (.new 45, 3) := by decide +kernel
theorem dCK_12 : decode jdk_65_method_131_code 12 = .ok (.dup, 1) := by decide +kernel
theorem dCK_13 : decode jdk_65_method_131_code 13 = .ok (.invokespecial 47, 3) := by decide +kernel
theorem dCK_16 : decode jdk_65_method_131_code 16 = .ok (.iload_n 0, 1) := by decide +kernel
theorem dCK_17 : decode jdk_65_method_131_code 17 = .ok (.invokevirtual 54, 3) := by decide +kernel
theorem dCK_20 : decode jdk_65_method_131_code 20 = .ok (.ldc_w 337, 3) := by decide +kernel
theorem dCK_23 : decode jdk_65_method_131_code 23 = .ok (.invokevirtual 50, 3) := by decide +kernel
theorem dCK_26 : decode jdk_65_method_131_code 26 = .ok (.iload_n 1, 1) := by decide +kernel
theorem dCK_27 : decode jdk_65_method_131_code 27 = .ok (.invokevirtual 54, 3) := by decide +kernel
theorem dCK_30 : decode jdk_65_method_131_code 30 = .ok (.invokevirtual 61, 3) := by decide +kernel
theorem dCK_33 : decode jdk_65_method_131_code 33 = .ok (.invokespecial 65, 3) := by decide +kernel
theorem dCK_36 : decode jdk_65_method_131_code 36 = .ok (.athrow, 1) := by decide +kernel
theorem dCK_37 : decode jdk_65_method_131_code 37 = .ok (.return_, 1) := by decide +kernel
set_option maxRecDepth 65536 in
set_option maxHeartbeats 40000000 in
theorem own_chk (l : Launch) (Z : State) (a0 : Array Value) (hw : ∀ d ∈ tables_1, d.before a0 Z = true) (EL : List (String × Nat)) (hEL : EW Z a0 EL) (h0 : Heap) (f t : Int32) (hk : ¬ t < f) :
    Con l Z EL false [] (⟨"java/util/Arrays", "checkLength", "(II)V"⟩ : MethodName) jdk_65_method_131_code 2 none ({ frames := 0, cells := 0, slots := 0, locals := 0 } : Room) #[(.int f), (.int t)] h0 (fun v h' => v = none ∧ h0 = h') := by
  refine Con.of (Ls := #[.val (.int f), .val (.int t)]) (plainFor_of_name own_pn5) hEL (fun m => by first | (simp [entryFrame, mkF, argsToLocals, Value.category]; done) | rfl) ?_
  intro vm0 hZ0 hE0 hC0 hS0
  refine WP.iloadN (n := 1) dCK_0 rfl rfl ?_
  refine WP.iloadN (n := 2) dCK_1 rfl rfl ?_
  refine WP.icmpY (n := 37) dCK_2 (flt hk).2.1 (by decide) (by decide) ?_
  refine WP.retV dCK_37 rfl (by decide) (by decide) ?_
  exact ⟨rfl, rfl⟩
theorem dCB_0 : decode jdk_65_method_133_code 0 = .ok (.iload_n 1, 1) := by decide +kernel
theorem dCB_1 : decode jdk_65_method_133_code 1 = .ok (.iload_n 2, 1) := by decide +kernel
theorem dCB_2 : decode jdk_65_method_133_code 2 = .ok (.invokestatic 343, 3) := by decide +kernel
theorem dCB_5 : decode jdk_65_method_133_code 5 = .ok (.iload_n 2, 1) := by decide +kernel
theorem dCB_6 : decode jdk_65_method_133_code 6 = .ok (.iload_n 1, 1) := by decide +kernel
theorem dCB_7 : decode jdk_65_method_133_code 7 = .ok (.isub, 1) := by decide +kernel
theorem dCB_8 : decode jdk_65_method_133_code 8 = .ok (.istore_n 3, 1) := by decide +kernel
theorem dCB_9 : decode jdk_65_method_133_code 9 = .ok (.iload_n 3, 1) := by decide +kernel
theorem dCB_10 : decode jdk_65_method_133_code 10 = .ok (.newarray .byte, 2) := by decide +kernel
theorem dCB_12 : decode jdk_65_method_133_code 12 = .ok (.astore 4, 2) := by decide +kernel
theorem dCB_14 : decode jdk_65_method_133_code 14 = .ok (.aload_n 0, 1) := by decide +kernel
theorem dCB_15 : decode jdk_65_method_133_code 15 = .ok (.iload_n 1, 1) := by decide +kernel
theorem dCB_16 : decode jdk_65_method_133_code 16 = .ok (.aload 4, 2) := by decide +kernel
theorem dCB_18 : decode jdk_65_method_133_code 18 = .ok (.iconst 0, 1) := by decide +kernel
theorem dCB_19 : decode jdk_65_method_133_code 19 = .ok (.aload_n 0, 1) := by decide +kernel
theorem dCB_20 : decode jdk_65_method_133_code 20 = .ok (.arraylength, 1) := by decide +kernel
theorem dCB_21 : decode jdk_65_method_133_code 21 = .ok (.iload_n 1, 1) := by decide +kernel
theorem dCB_22 : decode jdk_65_method_133_code 22 = .ok (.isub, 1) := by decide +kernel
theorem dCB_23 : decode jdk_65_method_133_code 23 = .ok (.iload_n 3, 1) := by decide +kernel
theorem dCB_24 : decode jdk_65_method_133_code 24 = .ok (.invokestatic 304, 3) := by decide +kernel
theorem dCB_27 : decode jdk_65_method_133_code 27 = .ok (.invokestatic 150, 3) := by decide +kernel
theorem dCB_30 : decode jdk_65_method_133_code 30 = .ok (.aload 4, 2) := by decide +kernel
theorem dCB_32 : decode jdk_65_method_133_code 32 = .ok (.areturn, 1) := by decide +kernel
set_option maxRecDepth 65536 in
set_option maxHeartbeats 40000000 in
theorem own_crb (l : Launch) (Z : State) (a0 : Array Value) (hw : ∀ d ∈ tables_1, d.before a0 Z = true) (EL : List (String × Nat)) (hEL : EW Z a0 EL) (h0 : Heap) (b : Addr) (kb : ClassId) (z : Int32) (vs : List Value) (f t : Nat) (B : Arv Z h0 b kb .byte z vs (.int 0)) (hz : z.toNatClampNeg = vs.length) (hft : f ≤ t) (ht : t ≤ vs.length) (hcap : t - f ≤ 16)  :
    Con l Z EL false [] (⟨"java/util/Arrays", "copyOfRangeByte", "([BII)[B"⟩ : MethodName) jdk_65_method_133_code 5 (some (.array .byte)) ({ frames := 1, cells := 1, slots := 16, locals := 45 } : Room) #[(.ref b), (.int (Int32.ofNat f)), (.int (Int32.ofNat t))] h0 (fun v h' => ∃ c kc, v = some (.ref c) ∧ h0.size ≤ c ∧ Ext h0 h' ∧ Arv Z h' c kc .byte (Int32.ofNat (t - f)) ((vs.drop f).take (t - f)) (.int 0)) := by
  refine Con.of (Ls := #[.val (.ref b), .val (.int (Int32.ofNat f)), .val (.int (Int32.ofNat t)), .unset, .unset]) (plainFor_of_name own_pn5) hEL (fun m => by first | (simp [entryFrame, mkF, argsToLocals, Value.category]; done) | rfl) ?_
  intro vm0 hZ0 hE0 hC0 hS0
  have hz0 : ¬ z < 0 := by obtain ⟨_, _, _, _, q, _⟩ := B; exact q
  have hzb := own_z hz0
  rw [hz] at hzb
  refine WP.iloadN (n := 1) dCB_0 rfl rfl ?_
  refine WP.iloadN (n := 2) dCB_1 rfl rfl ?_
  refine WP.callS (n := 5) (ce' := 0) (sl' := 0) (Wd := 0) (argsL := [(.int (Int32.ofNat f)), (.int (Int32.ofNat t))]) (rest := []) (own_chk l Z a0 hw EL hEL h0 (Int32.ofNat f) (Int32.ofNat t) (by rw [own_ltN (by omega) (by omega)]; omega)) dCB_2 (hw _ (List.mem_of_getElem? (i := 202) rfl)) (hw _ (List.mem_of_getElem? (i := 203) rfl)) (hw _ (List.mem_of_getElem? (i := 197) rfl)) (hw _ (List.mem_of_getElem? (i := 204) rfl)) (by decide) (fun _ q => nomatch q) (by decide) (by decide) rfl rfl (by decide) (by decide) rfl rfl (lenOf own_pd12 rfl) rfl (Nat.le_of_eq rfl) rfl (fun v32 vm32 h32 q32 r32 => ?_)
  obtain ⟨rfl, rfl⟩ := q32
  refine WP.iloadN (n := 6) dCB_5 rfl rfl ?_
  refine WP.iloadN (n := 7) dCB_6 rfl rfl ?_
  refine WP.isub (n := 8) dCB_7  rfl ?_
  rw [own_subN (by omega) hft]
  refine WP.istoreN (n := 9) (Ls' := #[.val (.ref b), .val (.int (Int32.ofNat f)), .val (.int (Int32.ofNat t)), .val (.int (Int32.ofNat (t - f))), .unset]) dCB_8 rfl rfl ?_
  refine WP.iloadN (n := 10) dCB_9 rfl rfl ?_
  refine WP.newP (n := 12) (ce' := 1) (sl' := 16) (cap := 16) (ty := .byte) dCB_10 (hw _ (List.mem_of_getElem? (i := 19) rfl)) rfl (own_nn (by omega)) (by rw [own_clamp (by omega)]; exact hcap) (by decide) rfl rfl (by decide) (by decide) rfl (fun a33 h33 k33 g33 E33 V33 S33 N33 r33 => ?_)
  have V33_ : Arv Z h33 a33 k33 .byte (Int32.ofNat (t - f)) (List.replicate (t - f) (.int 0)) (.int 0) := V33.pad (pad_rep [] (.int 0) (t - f))
  refine WP.astore (n := 14) (Ls' := #[.val (.ref b), .val (.int (Int32.ofNat f)), .val (.int (Int32.ofNat t)), .val (.int (Int32.ofNat (t - f))), .val (.ref a33)]) dCB_12 rfl rfl rfl ?_
  refine WP.aloadN (n := 15) dCB_14 rfl rfl rfl ?_
  refine WP.iloadN (n := 16) dCB_15 rfl rfl ?_
  refine WP.aload (n := 18) dCB_16 rfl rfl rfl ?_
  refine WP.iconst (n := 19) (z := (0 : Int32)) dCB_18 rfl rfl ?_
  refine WP.aloadN (n := 20) dCB_19 rfl rfl rfl ?_
  refine WP.alen (n := 21) dCB_20 (B.ext E33) rfl ?_
  refine WP.iloadN (n := 22) dCB_21 rfl rfl ?_
  refine WP.isub (n := 23) dCB_22  rfl ?_
  rw [show z - Int32.ofNat f = Int32.ofNat (vs.length - f) by rw [hzb.1, own_subN hzb.2 (by omega)]]
  refine WP.iloadN (n := 24) dCB_23 rfl rfl ?_
  refine WP.callS (n := 27) (ce' := 1) (sl' := 16) (Wd := 4) (argsL := [(.int (Int32.ofNat (vs.length - f))), (.int (Int32.ofNat (t - f)))]) (rest := [(.int (0 : Int32)), (.ref a33), (.int (Int32.ofNat f)), (.ref b)]) (own_min l Z a0 hw EL hEL h33 (Int32.ofNat (vs.length - f)) (Int32.ofNat (t - f))) dCB_24 (hw _ (List.mem_of_getElem? (i := 205) rfl)) (hw _ (List.mem_of_getElem? (i := 206) rfl)) (hw _ (List.mem_of_getElem? (i := 207) rfl)) (hw _ (List.mem_of_getElem? (i := 208) rfl)) (by decide) (fun _ q => nomatch q) (by decide) (by decide) rfl rfl (by decide) (by decide) rfl rfl (lenOf own_pd13 rfl) rfl (Nat.le_of_eq rfl) rfl (fun v34 vm34 h34 q34 r34 => ?_)
  obtain ⟨rfl, rfl⟩ := q34
  rw [own_mnN (k := vs.length - f) (m := t - f) (by omega) (by omega)]
  refine WP.inv fun hZc hEc hCc => ?_
  have S33_ : Safe Z EL vm34 h33 a33 := by first | exact S33 | exact r34.safe V33.lt S33
  refine WP.copyB (n := 30) (Wd := 0) (vr := (vs.drop f).take (t - f)) dCB_27 (hw _ (List.mem_of_getElem? (i := 209) rfl)) (hw _ (List.mem_of_getElem? (i := 164) rfl)) (hw _ (List.mem_of_getElem? (i := 162) rfl)) (hw _ (List.mem_of_getElem? (i := 163) rfl)) (B.ext E33) V33_ (own_nn (by omega)) (by decide) (own_nn (by omega)) (by rw [own_clamp (by omega), own_clamp (by omega), hz]; omega) (by rw [own_clamp (by omega)]; show 0 + _ ≤ _; omega) (us := (vs.drop f).take (t - f)) (by rw [own_clamp (by omega), own_clamp (by omega), own_rangeDrop _ _ _ _ (by omega)]) (by rw [own_clamp (by omega), List.length_replicate]; show 0 + _ ≤ _; omega) (by rw [own_clamp (by omega)]; show List.take 0 _ ++ _ ++ List.drop (0 + _) _ = _; simp) N33 S33_ rfl (by decide) (Nat.le_of_eq rfl) (by decide) rfl (fun h7 K7 V7 r7 => ?_)
  refine WP.aload (n := 32) dCB_30 rfl rfl rfl ?_
  exact WP.retA dCB_32 rfl rfl rfl rfl (by decide) (by decide) ⟨_, _, rfl, Nat.le_of_eq g33.symm, ext_keep1 E33 K7 (Nat.le_of_eq g33.symm), V7⟩
theorem dCR_0 : decode jdk_65_method_132_code 0 = .ok (.iload_n 1, 1) := by decide +kernel
theorem dCR_1 : decode jdk_65_method_132_code 1 = .ok (.ifCond .ne 9, 3) := by decide +kernel
theorem dCR_4 : decode jdk_65_method_132_code 4 = .ok (.iload_n 2, 1) := by decide +kernel
theorem dCR_5 : decode jdk_65_method_132_code 5 = .ok (.aload_n 0, 1) := by decide +kernel
theorem dCR_6 : decode jdk_65_method_132_code 6 = .ok (.arraylength, 1) := by decide +kernel
theorem dCR_7 : decode jdk_65_method_132_code 7 = .ok (.if_icmp .eq 10, 3) := by decide +kernel
theorem dCR_10 : decode jdk_65_method_132_code 10 = .ok (.aload_n 0, 1) := by decide +kernel
theorem dCR_11 : decode jdk_65_method_132_code 11 = .ok (.iload_n 1, 1) := by decide +kernel
theorem dCR_12 : decode jdk_65_method_132_code 12 = .ok (.iload_n 2, 1) := by decide +kernel
theorem dCR_13 : decode jdk_65_method_132_code 13 = .ok (.invokestatic 339, 3) := by decide +kernel
theorem dCR_16 : decode jdk_65_method_132_code 16 = .ok (.areturn, 1) := by decide +kernel
theorem dCR_17 : decode jdk_65_method_132_code 17 = .ok (.aload_n 0, 1) := by decide +kernel
theorem dCR_18 : decode jdk_65_method_132_code 18 = .ok (.invokevirtual 310, 3) := by decide +kernel
theorem dCR_21 : decode jdk_65_method_132_code 21 = .ok (.checkcast 311, 3) := by decide +kernel
theorem dCR_24 : decode jdk_65_method_132_code 24 = .ok (.areturn, 1) := by decide +kernel
set_option maxRecDepth 65536 in
set_option maxHeartbeats 40000000 in
theorem own_cor (l : Launch) (Z : State) (a0 : Array Value) (hw : ∀ d ∈ tables_1, d.before a0 Z = true) (EL : List (String × Nat)) (hEL : EW Z a0 EL) (h0 : Heap) (b : Addr) (kb : ClassId) (z : Int32) (vs : List Value) (f t : Nat) (B : Arv Z h0 b kb .byte z vs (.int 0)) (hz : z.toNatClampNeg = vs.length) (hft : f ≤ t) (ht : t ≤ vs.length) (hcap : t - f ≤ 16) (hw' : ¬ (f = 0 ∧ t = vs.length)) :
    Con l Z EL false [] (⟨"java/util/Arrays", "copyOfRange", "([BII)[B"⟩ : MethodName) jdk_65_method_132_code 3 (some (.array .byte)) ({ frames := 2, cells := 1, slots := 16, locals := 65 } : Room) #[(.ref b), (.int (Int32.ofNat f)), (.int (Int32.ofNat t))] h0 (fun v h' => ∃ c kc, v = some (.ref c) ∧ h0.size ≤ c ∧ Ext h0 h' ∧ Arv Z h' c kc .byte (Int32.ofNat (t - f)) ((vs.drop f).take (t - f)) (.int 0)) := by
  refine Con.of (Ls := #[.val (.ref b), .val (.int (Int32.ofNat f)), .val (.int (Int32.ofNat t))]) (plainFor_of_name own_pn5) hEL (fun m => by first | (simp [entryFrame, mkF, argsToLocals, Value.category]; done) | rfl) ?_
  intro vm0 hZ0 hE0 hC0 hS0
  have hz0 : ¬ z < 0 := by obtain ⟨_, _, _, _, q, _⟩ := B; exact q
  have hzb := own_z hz0
  rw [hz] at hzb
  refine WP.iloadN (n := 1) dCR_0 rfl rfl ?_
  refine WP.if_ne (n := 10) (n' := 4) dCR_1 (by decide) (by decide) rfl (fun b35 => ?_) (fun b35 => ?_)
  · refine WP.aloadN (n := 11) dCR_10 rfl rfl rfl ?_
    refine WP.iloadN (n := 12) dCR_11 rfl rfl ?_
    refine WP.iloadN (n := 13) dCR_12 rfl rfl ?_
    refine WP.callS (n := 16) (ce' := 1) (sl' := 16) (Wd := 0) (argsL := [(.ref b), (.int (Int32.ofNat f)), (.int (Int32.ofNat t))]) (rest := []) (own_crb l Z a0 hw EL hEL h0 b kb z vs f t B hz hft ht hcap) dCR_13 (hw _ (List.mem_of_getElem? (i := 199) rfl)) (hw _ (List.mem_of_getElem? (i := 200) rfl)) (hw _ (List.mem_of_getElem? (i := 197) rfl)) (hw _ (List.mem_of_getElem? (i := 201) rfl)) (by decide) (fun _ q => nomatch q) (by decide) (by decide) rfl rfl (by decide) (by decide) rfl rfl (lenOf own_pd14 rfl) rfl (Nat.le_of_eq rfl) rfl (fun v36 vm36 h36 q36 r36 => ?_)
    obtain ⟨c36, kc36, rfl, N36, E36, V36⟩ := q36
    exact WP.retA dCR_16 rfl rfl rfl rfl (by decide) (by decide) ⟨_, _, rfl, N36, E36, V36⟩
  · refine WP.iloadN (n := 5) dCR_4 rfl rfl ?_
    refine WP.aloadN (n := 6) dCR_5 rfl rfl rfl ?_
    refine WP.alen (n := 7) dCR_6 B rfl ?_
    refine WP.icmpN (n' := 10) dCR_7 (feq (fun e => hw' ⟨(by have e1 := congrArg Int32.toNatClampNeg b35; rw [own_clamp (by omega)] at e1; exact e1), (by have e1 := congrArg Int32.toNatClampNeg e; rw [own_clamp (by omega), hz] at e1; exact e1)⟩)).1 rfl ?_
    refine WP.aloadN (n := 11) dCR_10 rfl rfl rfl ?_
    refine WP.iloadN (n := 12) dCR_11 rfl rfl ?_
    refine WP.iloadN (n := 13) dCR_12 rfl rfl ?_
    refine WP.callS (n := 16) (ce' := 1) (sl' := 16) (Wd := 0) (argsL := [(.ref b), (.int (Int32.ofNat f)), (.int (Int32.ofNat t))]) (rest := []) (own_crb l Z a0 hw EL hEL h0 b kb z vs f t B hz hft ht hcap) dCR_13 (hw _ (List.mem_of_getElem? (i := 199) rfl)) (hw _ (List.mem_of_getElem? (i := 200) rfl)) (hw _ (List.mem_of_getElem? (i := 197) rfl)) (hw _ (List.mem_of_getElem? (i := 201) rfl)) (by decide) (fun _ q => nomatch q) (by decide) (by decide) rfl rfl (by decide) (by decide) rfl rfl (lenOf own_pd14 rfl) rfl (Nat.le_of_eq rfl) rfl (fun v37 vm37 h37 q37 r37 => ?_)
    obtain ⟨c37, kc37, rfl, N37, E37, V37⟩ := q37
    exact WP.retA dCR_16 rfl rfl rfl rfl (by decide) (by decide) ⟨_, _, rfl, N37, E37, V37⟩
theorem dGV_0 : decode jdk_68_method_64_code 0 = .ok (.aload_n 0, 1) := by decide +kernel
theorem dGV_1 : decode jdk_68_method_64_code 1 = .ok (.getfield 15, 3) := by decide +kernel
theorem dGV_4 : decode jdk_68_method_64_code 4 = .ok (.areturn, 1) := by decide +kernel
set_option maxRecDepth 65536 in
set_option maxHeartbeats 40000000 in
theorem own_gv (l : Launch) (Z : State) (a0 : Array Value) (hw : ∀ d ∈ tables_1, d.before a0 Z = true) (EL : List (String × Nat)) (hEL : EW Z a0 EL) (h0 : Heap) (a b : Addr) (bs : List Int32) (F : SBf Z h0 a b bs)  :
    Con l Z EL false [] (⟨"java/lang/AbstractStringBuilder", "getValue", "()[B"⟩ : MethodName) jdk_68_method_64_code 1 (some (.array .byte)) ({ frames := 0, cells := 0, slots := 0, locals := 0 } : Room) #[(.ref a)] h0 (fun v h' => v = some (.ref b) ∧ h0 = h') := by
  refine Con.of (Ls := #[.val (.ref a)]) (plainFor_of_name own_pn3) hEL (fun m => by first | (simp [entryFrame, mkF, argsToLocals, Value.category]; done) | rfl) ?_
  intro vm0 hZ0 hE0 hC0 hS0
  refine WP.aloadN (n := 1) dGV_0 rfl rfl rfl ?_
  refine WP.getF (n := 4) (host := "") dGV_1 (Or.inl (hw _ (List.mem_of_getElem? (i := 113) rfl))) Via.refl F.2.1 rfl ?_
  exact WP.retA dGV_4 rfl rfl rfl rfl (by decide) (by decide) ⟨rfl, rfl⟩
theorem dAL_0 : decode jdk_68_method_6_code 0 = .ok (.aload_n 0, 1) := by decide +kernel
theorem dAL_1 : decode jdk_68_method_6_code 1 = .ok (.getfield 79, 3) := by decide +kernel
theorem dAL_4 : decode jdk_68_method_6_code 4 = .ok (.ireturn, 1) := by decide +kernel
set_option maxRecDepth 65536 in
set_option maxHeartbeats 40000000 in
theorem own_al (l : Launch) (Z : State) (a0 : Array Value) (hw : ∀ d ∈ tables_1, d.before a0 Z = true) (EL : List (String × Nat)) (hEL : EW Z a0 EL) (h0 : Heap) (a b : Addr) (bs : List Int32) (F : SBf Z h0 a b bs)  :
    Con l Z EL false [] (⟨"java/lang/AbstractStringBuilder", "length", "()I"⟩ : MethodName) jdk_68_method_6_code 1 (some .int) ({ frames := 0, cells := 0, slots := 0, locals := 0 } : Room) #[(.ref a)] h0 (fun v h' => v = some (.int (Int32.ofNat bs.length)) ∧ h0 = h') := by
  refine Con.of (Ls := #[.val (.ref a)]) (plainFor_of_name own_pn3) hEL (fun m => by first | (simp [entryFrame, mkF, argsToLocals, Value.category]; done) | rfl) ?_
  intro vm0 hZ0 hE0 hC0 hS0
  refine WP.aloadN (n := 1) dAL_0 rfl rfl rfl ?_
  refine WP.getF (n := 4) (host := "") dAL_1 (Or.inl (hw _ (List.mem_of_getElem? (i := 138) rfl))) Via.refl F.2.2.2.1 rfl ?_
  exact WP.retI dAL_4 rfl (by decide) (by decide) ⟨rfl, rfl⟩
theorem dBL_0 : decode jdk_67_method_93_code 0 = .ok (.aload_n 0, 1) := by decide +kernel
theorem dBL_1 : decode jdk_67_method_93_code 1 = .ok (.invokespecial 343, 3) := by decide +kernel
theorem dBL_4 : decode jdk_67_method_93_code 4 = .ok (.ireturn, 1) := by decide +kernel
set_option maxRecDepth 65536 in
set_option maxHeartbeats 40000000 in
theorem own_bl (l : Launch) (Z : State) (a0 : Array Value) (hw : ∀ d ∈ tables_1, d.before a0 Z = true) (EL : List (String × Nat)) (hEL : EW Z a0 EL) (h0 : Heap) (a b : Addr) (bs : List Int32) (F : SBf Z h0 a b bs)  :
    Con l Z EL false [] (⟨"java/lang/StringBuilder", "length", "()I"⟩ : MethodName) jdk_67_method_93_code 1 (some .int) ({ frames := 1, cells := 0, slots := 0, locals := 12 } : Room) #[(.ref a)] h0 (fun v h' => v = some (.int (Int32.ofNat bs.length)) ∧ h0 = h') := by
  refine Con.of (Ls := #[.val (.ref a)]) (plainFor_of_name own_pn4) hEL (fun m => by first | (simp [entryFrame, mkF, argsToLocals, Value.category]; done) | rfl) ?_
  intro vm0 hZ0 hE0 hC0 hS0
  refine WP.aloadN (n := 1) dBL_0 rfl rfl rfl ?_
  refine WP.callSu (n := 4) (ce' := 0) (sl' := 0) (Wd := 0) (a := a) (argsL := []) (rest := []) (own_al l Z a0 hw EL hEL h0 a b bs F) (Ins.self F.1) dBL_1 (by decide) (hw _ (List.mem_of_getElem? (i := 188) rfl)) (own_sameM (hw _ (List.mem_of_getElem? (i := 183) rfl)) (own_nfAB (y := (⟨"java/lang/AbstractStringBuilder", "getValue", "()[B"⟩ : MethodName)) (notFace_of_selects (args := a0) (hw _ (List.mem_of_getElem? (i := 180) rfl))) rfl (by obtain ⟨r, _, e, _⟩ := Cond.declares_spec (hw _ (List.mem_of_getElem? (i := 178) rfl)); exact ⟨r, e⟩)) (by decide)) (hw _ (List.mem_of_getElem? (i := 184) rfl)) (hw _ (List.mem_of_getElem? (i := 125) rfl)) (hw _ (List.mem_of_getElem? (i := 109) rfl)) (hw _ (List.mem_of_getElem? (i := 189) rfl)) (fun _ q => nomatch q) (by decide) (by decide) rfl rfl (by decide) (by decide) rfl rfl (lenOf own_pd9 rfl) rfl (Nat.le_of_eq rfl) rfl (fun v38 vm38 h38 q38 r38 => ?_)
  obtain ⟨rfl, rfl⟩ := q38
  exact WP.retI dBL_4 rfl (by decide) (by decide) ⟨rfl, rfl⟩
theorem dIL_0 : decode jdk_68_method_68_code 0 = .ok (.getstatic 18, 3) := by decide +kernel
theorem dIL_3 : decode jdk_68_method_68_code 3 = .ok (.ifCond .eq 14, 3) := by decide +kernel
theorem dIL_6 : decode jdk_68_method_68_code 6 = .ok (.aload_n 0, 1) := by decide +kernel
theorem dIL_7 : decode jdk_68_method_68_code 7 = .ok (.getfield 22, 3) := by decide +kernel
theorem dIL_10 : decode jdk_68_method_68_code 10 = .ok (.ifCond .ne 7, 3) := by decide +kernel
theorem dIL_13 : decode jdk_68_method_68_code 13 = .ok (.iconst 1, 1) := by decide +kernel
theorem dIL_14 : decode jdk_68_method_68_code 14 = .ok (.goto 4, 3) := by decide +kernel
theorem dIL_17 : decode jdk_68_method_68_code 17 = .ok (.iconst 0, 1) := by decide +kernel
theorem dIL_18 : decode jdk_68_method_68_code 18 = .ok (.ireturn, 1) := by decide +kernel
set_option maxRecDepth 65536 in
set_option maxHeartbeats 40000000 in
theorem own_isl (l : Launch) (Z : State) (a0 : Array Value) (hw : ∀ d ∈ tables_1, d.before a0 Z = true) (EL : List (String × Nat)) (hEL : EW Z a0 EL) (h0 : Heap) (a b : Addr) (bs : List Int32) (F : SBf Z h0 a b bs) (cz : Int32) (O : Sta Z Z.heap "java/lang/String" "COMPACT_STRINGS" "Z" (.int cz)) (hO : ¬ cz = 0) :
    Con l Z EL false [] (⟨"java/lang/AbstractStringBuilder", "isLatin1", "()Z"⟩ : MethodName) jdk_68_method_68_code 1 (some .boolean) ({ frames := 0, cells := 0, slots := 0, locals := 0 } : Room) #[(.ref a)] h0 (fun v h' => v = some (.int 1) ∧ h0 = h') := by
  refine Con.of (Ls := #[.val (.ref a)]) (plainFor_of_name own_pn3) hEL (fun m => by first | (simp [entryFrame, mkF, argsToLocals, Value.category]; done) | rfl) ?_
  intro vm0 hZ0 hE0 hC0 hS0
  refine WP.getSZ (n := 3) dIL_0 (hw _ (List.mem_of_getElem? (i := 112) rfl)) Via.refl O rfl ?_
  refine WP.ifcN (n' := 6) dIL_3 ((if0 _ _).trans (feq hO).1) rfl ?_
  refine WP.aloadN (n := 7) dIL_6 rfl rfl rfl ?_
  refine WP.getF (n := 10) (host := "") dIL_7 (Or.inl (hw _ (List.mem_of_getElem? (i := 115) rfl))) Via.refl F.2.2.1 rfl ?_
  refine WP.ifcN (n' := 13) dIL_10 (by decide) rfl ?_
  refine WP.iconst (n := 14) (z := (1 : Int32)) dIL_13 rfl rfl ?_
  refine WP.goto (n := 18) dIL_14 (by decide) (by decide) ?_
  exact WP.retN dIL_18 rfl (Or.inl rfl) (by decide : nar .boolean 1 = 1) (by decide) (by decide) ⟨rfl, rfl⟩
theorem dX2_0 : decode jdk_42_method_150_code 0 = .ok (.aload_n 0, 1) := by decide +kernel
theorem dX2_1 : decode jdk_42_method_150_code 1 = .ok (.invokespecial 1, 3) := by decide +kernel
theorem dX2_4 : decode jdk_42_method_150_code 4 = .ok (.aload_n 1, 1) := by decide +kernel
theorem dX2_5 : decode jdk_42_method_150_code 5 = .ok (.invokevirtual 552, 3) := by decide +kernel
theorem dX2_8 : decode jdk_42_method_150_code 8 = .ok (.astore_n 3, 1) := by decide +kernel
theorem dX2_9 : decode jdk_42_method_150_code 9 = .ok (.aload_n 1, 1) := by decide +kernel
theorem dX2_10 : decode jdk_42_method_150_code 10 = .ok (.invokevirtual 549, 3) := by decide +kernel
theorem dX2_13 : decode jdk_42_method_150_code 13 = .ok (.istore 4, 2) := by decide +kernel
theorem dX2_15 : decode jdk_42_method_150_code 15 = .ok (.aload_n 1, 1) := by decide +kernel
theorem dX2_16 : decode jdk_42_method_150_code 16 = .ok (.invokevirtual 1047, 3) := by decide +kernel
theorem dX2_19 : decode jdk_42_method_150_code 19 = .ok (.ifCond .eq 22, 3) := by decide +kernel
theorem dX2_22 : decode jdk_42_method_150_code 22 = .ok (.aload_n 0, 1) := by decide +kernel
theorem dX2_23 : decode jdk_42_method_150_code 23 = .ok (.iconst 0, 1) := by decide +kernel
theorem dX2_24 : decode jdk_42_method_150_code 24 = .ok (.putfield 15, 3) := by decide +kernel
theorem dX2_27 : decode jdk_42_method_150_code 27 = .ok (.aload_n 0, 1) := by decide +kernel
theorem dX2_28 : decode jdk_42_method_150_code 28 = .ok (.aload_n 3, 1) := by decide +kernel
theorem dX2_29 : decode jdk_42_method_150_code 29 = .ok (.iconst 0, 1) := by decide +kernel
theorem dX2_30 : decode jdk_42_method_150_code 30 = .ok (.iload 4, 2) := by decide +kernel
theorem dX2_32 : decode jdk_42_method_150_code 32 = .ok (.invokestatic 54, 3) := by decide +kernel
theorem dX2_35 : decode jdk_42_method_150_code 35 = .ok (.putfield 9, 3) := by decide +kernel
theorem dX2_38 : decode jdk_42_method_150_code 38 = .ok (.goto 59, 3) := by decide +kernel
theorem dX2_41 : decode jdk_42_method_150_code 41 = .ok (.getstatic 38, 3) := by decide +kernel
theorem dX2_44 : decode jdk_42_method_150_code 44 = .ok (.ifCond .eq 35, 3) := by decide +kernel
theorem dX2_47 : decode jdk_42_method_150_code 47 = .ok (.aload_n 1, 1) := by decide +kernel
theorem dX2_48 : decode jdk_42_method_150_code 48 = .ok (.getfield 1048, 3) := by decide +kernel
theorem dX2_51 : decode jdk_42_method_150_code 51 = .ok (.ifCond .eq 28, 3) := by decide +kernel
theorem dX2_54 : decode jdk_42_method_150_code 54 = .ok (.aload_n 0, 1) := by decide +kernel
theorem dX2_55 : decode jdk_42_method_150_code 55 = .ok (.aload_n 3, 1) := by decide +kernel
theorem dX2_56 : decode jdk_42_method_150_code 56 = .ok (.iconst 0, 1) := by decide +kernel
theorem dX2_57 : decode jdk_42_method_150_code 57 = .ok (.iload 4, 2) := by decide +kernel
theorem dX2_59 : decode jdk_42_method_150_code 59 = .ok (.invokestatic 1051, 3) := by decide +kernel
theorem dX2_62 : decode jdk_42_method_150_code 62 = .ok (.putfield 9, 3) := by decide +kernel
theorem dX2_65 : decode jdk_42_method_150_code 65 = .ok (.aload_n 0, 1) := by decide +kernel
theorem dX2_66 : decode jdk_42_method_150_code 66 = .ok (.aload_n 0, 1) := by decide +kernel
theorem dX2_67 : decode jdk_42_method_150_code 67 = .ok (.getfield 9, 3) := by decide +kernel
theorem dX2_70 : decode jdk_42_method_150_code 70 = .ok (.iload 4, 2) := by decide +kernel
theorem dX2_72 : decode jdk_42_method_150_code 72 = .ok (.invokestatic 47, 3) := by decide +kernel
theorem dX2_75 : decode jdk_42_method_150_code 75 = .ok (.putfield 15, 3) := by decide +kernel
theorem dX2_78 : decode jdk_42_method_150_code 78 = .ok (.return_, 1) := by decide +kernel
theorem dX2_79 : decode jdk_42_method_150_code 79 = .ok (.aload_n 0, 1) := by decide +kernel
theorem dX2_80 : decode jdk_42_method_150_code 80 = .ok (.iconst 1, 1) := by decide +kernel
theorem dX2_81 : decode jdk_42_method_150_code 81 = .ok (.putfield 15, 3) := by decide +kernel
theorem dX2_84 : decode jdk_42_method_150_code 84 = .ok (.aload_n 0, 1) := by decide +kernel
theorem dX2_85 : decode jdk_42_method_150_code 85 = .ok (.aload_n 3, 1) := by decide +kernel
theorem dX2_86 : decode jdk_42_method_150_code 86 = .ok (.iconst 0, 1) := by decide +kernel
theorem dX2_87 : decode jdk_42_method_150_code 87 = .ok (.iload 4, 2) := by decide +kernel
theorem dX2_89 : decode jdk_42_method_150_code 89 = .ok (.iconst 1, 1) := by decide +kernel
theorem dX2_90 : decode jdk_42_method_150_code 90 = .ok (.ishl, 1) := by decide +kernel
theorem dX2_91 : decode jdk_42_method_150_code 91 = .ok (.invokestatic 54, 3) := by decide +kernel
theorem dX2_94 : decode jdk_42_method_150_code 94 = .ok (.putfield 9, 3) := by decide +kernel
theorem dX2_97 : decode jdk_42_method_150_code 97 = .ok (.return_, 1) := by decide +kernel
set_option maxRecDepth 65536 in
set_option maxHeartbeats 40000000 in
theorem own_s2 (l : Launch) (Z : State) (a0 : Array Value) (hw : ∀ d ∈ tables_1, d.before a0 Z = true) (EL : List (String × Nat)) (hEL : EW Z a0 EL) (h0 : Heap) (x : Addr) (v0 c0 : Value) (hN : Z.heap.size ≤ x) (hA : Exa Z h0 x "java/lang/String") (hV : Fld Z h0 x "java/lang/String" "value" "[B" v0) (hK : Fld Z h0 x "java/lang/String" "coder" "B" c0) (a b : Addr) (bs : List Int32) (F : SBf Z h0 a b bs) (hlt : bs.length < 16) (cz : Int32) (O : Sta Z Z.heap "java/lang/String" "COMPACT_STRINGS" "Z" (.int cz)) (hO : ¬ cz = 0) :
    Con l Z EL false [x] (⟨"java/lang/String", "<init>", "(Ljava/lang/AbstractStringBuilder;Ljava/lang/Void;)V"⟩ : MethodName) jdk_42_method_150_code 5 none ({ frames := 3, cells := 1, slots := 16, locals := 82 } : Room) #[(.ref x), (.ref a), .null] h0 (fun v h' => v = none ∧ Keep h0 h' [x] ∧ Str Z h' x bs) := by
  refine Con.of (Ls := #[.val (.ref x), .val (.ref a), .val .null, .unset, .unset]) (plainFor_of_name own_pn1) hEL (fun m => by first | (simp [entryFrame, mkF, argsToLocals, Value.category]; done) | rfl) ?_
  intro vm0 hZ0 hE0 hC0 hS0
  obtain ⟨f1, f2, f3, f4, f5, f6, kb, vs, f7, f8, f9⟩ := id F
  have nxb : b ≠ x := fun e => Exa.neArv hA f7 (hw _ (List.mem_of_getElem? (i := 5) rfl)) e.symm
  refine WP.aloadN (n := 1) dX2_0 rfl rfl rfl ?_
  refine WP.initO (n := 4) (Wd := 0) dX2_1 (hw _ (List.mem_of_getElem? (i := 15) rfl)) (hw _ (List.mem_of_getElem? (i := 16) rfl)) (hw _ (List.mem_of_getElem? (i := 17) rfl)) rfl (by decide) (Nat.le_of_eq rfl) (by decide) rfl ?_
  refine WP.aloadN (n := 5) dX2_4 rfl rfl rfl ?_
  refine WP.callV (n := 8) (ce' := 0) (sl' := 0) (Wd := 0) (a := a) (argsL := []) (rest := []) (own_gv l Z a0 hw EL hEL h0 a b bs F) f1 dX2_5 (hw _ (List.mem_of_getElem? (i := 177) rfl)) (hw _ (List.mem_of_getElem? (i := 178) rfl)) (hw _ (List.mem_of_getElem? (i := 180) rfl)) (hw _ (List.mem_of_getElem? (i := 179) rfl)) (hw _ (List.mem_of_getElem? (i := 109) rfl)) (hw _ (List.mem_of_getElem? (i := 181) rfl)) (by decide) (fun _ hz => notFace_of_selects (args := #[]) (mvT hz (hw _ (List.mem_of_getElem? (i := 180) rfl)))) (fun _ q => nomatch q) (by decide) (by decide) rfl rfl (by decide) (by decide) rfl rfl (lenOf own_pd15 rfl) rfl (Nat.le_of_eq rfl) rfl (fun v39 vm39 h39 q39 r39 => ?_)
  obtain ⟨rfl, rfl⟩ := q39
  refine WP.astoreN (n := 9) (Ls' := #[.val (.ref x), .val (.ref a), .val .null, .val (.ref b), .unset]) dX2_8 rfl rfl rfl ?_
  refine WP.aloadN (n := 10) dX2_9 rfl rfl rfl ?_
  refine WP.callV (n := 13) (ce' := 0) (sl' := 0) (Wd := 0) (a := a) (argsL := []) (rest := []) (own_bl l Z a0 hw EL hEL h0 a b bs F) f1 dX2_10 (hw _ (List.mem_of_getElem? (i := 182) rfl)) (hw _ (List.mem_of_getElem? (i := 183) rfl)) (hw _ (List.mem_of_getElem? (i := 185) rfl)) (hw _ (List.mem_of_getElem? (i := 186) rfl)) (hw _ (List.mem_of_getElem? (i := 101) rfl)) (hw _ (List.mem_of_getElem? (i := 187) rfl)) (by decide) (fun _ hz => own_nfAB (y := (⟨"java/lang/AbstractStringBuilder", "getValue", "()[B"⟩ : MethodName)) (notFace_of_selects (args := #[]) (mvT hz (hw _ (List.mem_of_getElem? (i := 180) rfl)))) rfl (by obtain ⟨r, _, e, _⟩ := Cond.declares_spec (args := #[]) (mvT hz (hw _ (List.mem_of_getElem? (i := 178) rfl))); exact ⟨r, e⟩)) (fun _ q => nomatch q) (by decide) (by decide) rfl rfl (by decide) (by decide) rfl rfl (lenOf own_pd9 rfl) rfl (Nat.le_of_eq rfl) rfl (fun v40 vm40 h40 q40 r40 => ?_)
  obtain ⟨rfl, rfl⟩ := q40
  refine WP.istore (n := 15) (Ls' := #[.val (.ref x), .val (.ref a), .val .null, .val (.ref b), .val (.int (Int32.ofNat bs.length))]) dX2_13 rfl rfl ?_
  refine WP.aloadN (n := 16) dX2_15 rfl rfl rfl ?_
  refine WP.callV (n := 19) (ce' := 0) (sl' := 0) (Wd := 0) (a := a) (argsL := []) (rest := []) (own_isl l Z a0 hw EL hEL h0 a b bs F cz O hO) f1 dX2_16 (hw _ (List.mem_of_getElem? (i := 190) rfl)) (hw _ (List.mem_of_getElem? (i := 191) rfl)) (hw _ (List.mem_of_getElem? (i := 193) rfl)) (hw _ (List.mem_of_getElem? (i := 192) rfl)) (hw _ (List.mem_of_getElem? (i := 109) rfl)) (hw _ (List.mem_of_getElem? (i := 194) rfl)) (by decide) (fun _ hz => notFace_of_selects (args := #[]) (mvT hz (hw _ (List.mem_of_getElem? (i := 193) rfl)))) (fun _ q => nomatch q) (by decide) (by decide) rfl rfl (by decide) (by decide) rfl rfl (lenOf own_pd16 rfl) rfl (Nat.le_of_eq rfl) rfl (fun v41 vm41 h41 q41 r41 => ?_)
  obtain ⟨rfl, rfl⟩ := q41
  refine WP.ifcN (n' := 22) dX2_19 (by decide) rfl ?_
  refine WP.aloadN (n := 23) dX2_22 rfl rfl rfl ?_
  refine WP.iconst (n := 24) (z := (0 : Int32)) dX2_23 rfl rfl ?_
  refine WP.inv fun hZp hEp hCp => ?_
  have SX : Safe Z EL vm41 h0 x := (r41.safe hA.lt (r40.safe hA.lt (r39.safe hA.lt (hS0 x (List.mem_cons_self ..)))))
  refine WP.putF (n := 27) (host := "") (ty := .byte) dX2_24 (Or.inl (hw _ (List.mem_of_getElem? (i := 25) rfl))) Via.refl hK hA (Or.inr ⟨(hw _ (List.mem_of_getElem? (i := 21) rfl)), rfl, rfl⟩) (hw _ (List.mem_of_getElem? (i := 5) rfl)) (by decide) rfl (by decide) hN SX rfl (fun h42 W42 r42 => ?_)
  have A42 := hA.wr W42
  have K42 := (Keep.refl h0 [x]).wr W42 (Or.inl (List.mem_cons_self ..))
  have F42_coder := hK.same W42
  have F42_value := hV.other W42 (Or.inr (slot_ne (t := (.array .byte)) (t' := .byte) (Or.inr (hw _ (List.mem_of_getElem? (i := 20) rfl))) (Or.inr (hw _ (List.mem_of_getElem? (i := 21) rfl))) (by decide) (by decide) (by decide)))
  have S42 := r42.safe hA.lt SX
  have B42 := f7.other W42 nxb
  refine WP.aloadN (n := 28) dX2_27 rfl rfl rfl ?_
  refine WP.aloadN (n := 29) dX2_28 rfl rfl rfl ?_
  refine WP.iconst (n := 30) (z := (0 : Int32)) dX2_29 rfl rfl ?_
  refine WP.iload (n := 32) dX2_30 rfl rfl ?_
  refine WP.callS (n := 35) (ce' := 1) (sl' := 16) (Wd := 1) (argsL := [(.ref b), (.int (0 : Int32)), (.int (Int32.ofNat bs.length))]) (rest := [(.ref x)]) (own_cor l Z a0 hw EL hEL h42 b kb 16 vs 0 bs.length B42 (by rw [f8]; rfl) (by omega) (by omega) (by omega) (by rw [f8]; omega)) dX2_32 (hw _ (List.mem_of_getElem? (i := 195) rfl)) (hw _ (List.mem_of_getElem? (i := 196) rfl)) (hw _ (List.mem_of_getElem? (i := 197) rfl)) (hw _ (List.mem_of_getElem? (i := 198) rfl)) (by decide) (fun _ q => nomatch q) (by decide) (by decide) rfl rfl (by decide) (by decide) rfl rfl (lenOf own_pd14 rfl) rfl (Nat.le_of_eq rfl) rfl (fun v43 vm43 h43 q43 r43 => ?_)
  obtain ⟨c43, kc43, rfl, N43, E43, V43⟩ := q43
  have S43 := r43.safe (Nat.lt_of_lt_of_le hA.lt r42.2.1) S42
  have XN43 : c43 ≠ x := Ne.symm (Nat.ne_of_lt (Nat.lt_of_lt_of_le (Nat.lt_of_lt_of_le hA.lt r42.2.1) N43))
  refine WP.putF (n := 38) (host := "") (ty := (.array .byte)) dX2_35 (Or.inl (hw _ (List.mem_of_getElem? (i := 24) rfl))) Via.refl (F42_value.ext E43) (A42.ext E43) (Or.inr ⟨(hw _ (List.mem_of_getElem? (i := 20) rfl)), rfl, rfl⟩) (hw _ (List.mem_of_getElem? (i := 5) rfl)) (by decide) rfl rfl hN S43 rfl (fun h44 W44 r44 => ?_)
  have A44 := (A42.ext E43).wr W44
  have K44 := (K42.ext E43).wr W44 (Or.inl (List.mem_cons_self ..))
  have F44_value := (F42_value.ext E43).same W44
  have F44_coder := (F42_coder.ext E43).other W44 (Or.inr (slot_ne (t := .byte) (t' := (.array .byte)) (Or.inr (hw _ (List.mem_of_getElem? (i := 21) rfl))) (Or.inr (hw _ (List.mem_of_getElem? (i := 20) rfl))) (by decide) (by decide) (by decide)))
  have V44 := V43.other W44 XN43
  refine WP.goto (n := 97) dX2_38 (by decide) (by decide) ?_
  refine WP.retV dX2_97 rfl (by decide) (by decide) ?_
  refine ⟨rfl, K44, A44, F44_coder, c43, kc43, Int32.ofNat bs.length, F44_value, ?_, ?_⟩
  · have e := V44
    rw [List.drop_zero, Nat.sub_zero, f9] at e
    exact e
  · rw [own_clamp (by omega)]
theorem dX1_0 : decode jdk_42_method_53_code 0 = .ok (.aload_n 0, 1) := by decide +kernel
theorem dX1_1 : decode jdk_42_method_53_code 1 = .ok (.aload_n 1, 1) := by decide +kernel
theorem dX1_2 : decode jdk_42_method_53_code 2 = .ok (.aconst_null, 1) := by decide +kernel
theorem dX1_3 : decode jdk_42_method_53_code 3 = .ok (.invokespecial 489, 3) := by decide +kernel
theorem dX1_6 : decode jdk_42_method_53_code 6 = .ok (.return_, 1) := by decide +kernel
set_option maxRecDepth 65536 in
set_option maxHeartbeats 40000000 in
theorem own_s1 (l : Launch) (Z : State) (a0 : Array Value) (hw : ∀ d ∈ tables_1, d.before a0 Z = true) (EL : List (String × Nat)) (hEL : EW Z a0 EL) (h0 : Heap) (x : Addr) (v0 c0 : Value) (hN : Z.heap.size ≤ x) (hA : Exa Z h0 x "java/lang/String") (hV : Fld Z h0 x "java/lang/String" "value" "[B" v0) (hK : Fld Z h0 x "java/lang/String" "coder" "B" c0) (a b : Addr) (bs : List Int32) (F : SBf Z h0 a b bs) (hlt : bs.length < 16) (cz : Int32) (O : Sta Z Z.heap "java/lang/String" "COMPACT_STRINGS" "Z" (.int cz)) (hO : ¬ cz = 0) :
    Con l Z EL false [x] (⟨"java/lang/String", "<init>", "(Ljava/lang/StringBuilder;)V"⟩ : MethodName) jdk_42_method_53_code 2 none ({ frames := 4, cells := 1, slots := 16, locals := 98 } : Room) #[(.ref x), (.ref a)] h0 (fun v h' => v = none ∧ Keep h0 h' [x] ∧ Str Z h' x bs) := by
  refine Con.of (Ls := #[.val (.ref x), .val (.ref a)]) (plainFor_of_name own_pn1) hEL (fun m => by first | (simp [entryFrame, mkF, argsToLocals, Value.category]; done) | rfl) ?_
  intro vm0 hZ0 hE0 hC0 hS0
  refine WP.aloadN (n := 1) dX1_0 rfl rfl rfl ?_
  refine WP.aloadN (n := 2) dX1_1 rfl rfl rfl ?_
  refine WP.aconstNull (n := 3) dX1_2  rfl ?_
  refine WP.callP (n := 6) (ce' := 1) (sl' := 16) (Wd := 0) (a := x) (argsL := [(.ref a), .null]) (rest := []) (own_s2 l Z a0 hw EL hEL h0 x v0 c0 hN hA hV hK a b bs F hlt cz O hO) dX1_3 rfl (hw _ (List.mem_of_getElem? (i := 174) rfl)) (hw _ (List.mem_of_getElem? (i := 175) rfl)) (hw _ (List.mem_of_getElem? (i := 6) rfl)) (hw _ (List.mem_of_getElem? (i := 176) rfl)) (by decide) (fun y q => by cases List.mem_singleton.mp q; exact ⟨hS0 x (List.mem_cons_self ..), hA.lt⟩) (by decide) (by decide) rfl rfl (by decide) (by decide) rfl rfl (lenOf own_pd17 rfl) rfl (Nat.le_of_eq rfl) rfl (fun v45 vm45 h45 q45 r45 => ?_)
  obtain ⟨rfl, K45, F45⟩ := q45
  refine WP.retV dX1_6 rfl (by decide) (by decide) ?_
  exact ⟨rfl, K45, F45⟩
theorem dTS_0 : decode jdk_67_method_42_code 0 = .ok (.new 18, 3) := by decide +kernel
theorem dTS_3 : decode jdk_67_method_42_code 3 = .ok (.dup, 1) := by decide +kernel
theorem dTS_4 : decode jdk_67_method_42_code 4 = .ok (.aload_n 0, 1) := by decide +kernel
theorem dTS_5 : decode jdk_67_method_42_code 5 = .ok (.invokespecial 137, 3) := by decide +kernel
theorem dTS_8 : decode jdk_67_method_42_code 8 = .ok (.areturn, 1) := by decide +kernel
set_option maxRecDepth 65536 in
set_option maxHeartbeats 40000000 in
theorem own_ts (l : Launch) (Z : State) (a0 : Array Value) (hw : ∀ d ∈ tables_1, d.before a0 Z = true) (EL : List (String × Nat)) (hEL : EW Z a0 EL) (h0 : Heap) (a b : Addr) (bs : List Int32) (F : SBf Z h0 a b bs) (hlt : bs.length < 16) (cz : Int32) (O : Sta Z Z.heap "java/lang/String" "COMPACT_STRINGS" "Z" (.int cz)) (hO : ¬ cz = 0) :
    Con l Z EL false [] (⟨"java/lang/StringBuilder", "toString", "()Ljava/lang/String;"⟩ : MethodName) jdk_67_method_42_code 1 (some (.object "java/lang/String")) ({ frames := 5, cells := 2, slots := 20, locals := 113 } : Room) #[(.ref a)] h0 (fun v h' => ∃ s, v = some (.ref s) ∧ Str Z h' s bs ∧ Ext h0 h') := by
  refine Con.of (Ls := #[.val (.ref a)]) (plainFor_of_name own_pn4) hEL (fun m => by first | (simp [entryFrame, mkF, argsToLocals, Value.category]; done) | rfl) ?_
  intro vm0 hZ0 hE0 hC0 hS0
  refine WP.new (n := 3) (ce' := 1) (sl' := 4) dTS_0 (hw _ (List.mem_of_getElem? (i := 170) rfl)) (hw _ (List.mem_of_getElem? (i := 5) rfl)) (hw _ (List.mem_of_getElem? (i := 6) rfl)) rfl rfl (by decide) (by decide) rfl (fun a46 h46 g46 E46 A46 D46 S46 N46 r46 => ?_)
  refine WP.dup (n := 4) dTS_3 rfl rfl ?_
  refine WP.aloadN (n := 5) dTS_4 rfl rfl rfl ?_
  refine WP.callP (n := 8) (ce' := 2) (sl' := 20) (Wd := 1) (a := a46) (argsL := [(.ref a)]) (rest := [(.ref a46)]) (own_s1 l Z a0 hw EL hEL h46 a46 _ _ N46 A46 (D46 (Or.inr (hw _ (List.mem_of_getElem? (i := 20) rfl))) (ty := .array .byte) (by decide)) (D46 (Or.inr (hw _ (List.mem_of_getElem? (i := 21) rfl))) (ty := .byte) (by decide)) a b bs (F.ext E46) hlt cz O hO) dTS_5 rfl (hw _ (List.mem_of_getElem? (i := 171) rfl)) (hw _ (List.mem_of_getElem? (i := 172) rfl)) (hw _ (List.mem_of_getElem? (i := 6) rfl)) (hw _ (List.mem_of_getElem? (i := 173) rfl)) (by decide) (fun y q => by cases List.mem_singleton.mp q; exact ⟨S46, A46.lt⟩) (by decide) (by decide) rfl rfl (by decide) (by decide) rfl rfl (lenOf own_pd18 rfl) rfl (Nat.le_of_eq rfl) rfl (fun v47 vm47 h47 q47 r47 => ?_)
  obtain ⟨rfl, K47, F47⟩ := q47
  exact WP.retA dTS_8 rfl rfl rfl rfl (by decide) (by decide) ⟨_, rfl, F47, ext_keep1 E46 K47 (Nat.le_of_eq g46.symm)⟩
theorem dTXT_0 : decode method_3_code 0 = .ok (.iload_n 0, 1) := by decide +kernel
theorem dTXT_1 : decode method_3_code 1 = .ok (.ifCond .ne 14, 3) := by decide +kernel
theorem dTXT_4 : decode method_3_code 4 = .ok (.new 27, 3) := by decide +kernel
theorem dTXT_7 : decode method_3_code 7 = .ok (.dup, 1) := by decide +kernel
theorem dTXT_8 : decode method_3_code 8 = .ok (.iconst 0, 1) := by decide +kernel
theorem dTXT_9 : decode method_3_code 9 = .ok (.newarray .char, 2) := by decide +kernel
theorem dTXT_11 : decode method_3_code 11 = .ok (.invokespecial 36, 3) := by decide +kernel
theorem dTXT_14 : decode method_3_code 14 = .ok (.areturn, 1) := by decide +kernel
theorem dTXT_15 : decode method_3_code 15 = .ok (.iload_n 0, 1) := by decide +kernel
theorem dTXT_16 : decode method_3_code 16 = .ok (.iconst 1, 1) := by decide +kernel
theorem dTXT_17 : decode method_3_code 17 = .ok (.if_icmp .ne 8, 3) := by decide +kernel
theorem dTXT_20 : decode method_3_code 20 = .ok (.iload_n 1, 1) := by decide +kernel
theorem dTXT_21 : decode method_3_code 21 = .ok (.invokestatic 39, 3) := by decide +kernel
theorem dTXT_24 : decode method_3_code 24 = .ok (.areturn, 1) := by decide +kernel
theorem dTXT_25 : decode method_3_code 25 = .ok (.iload_n 0, 1) := by decide +kernel
theorem dTXT_26 : decode method_3_code 26 = .ok (.iconst 2, 1) := by decide +kernel
theorem dTXT_27 : decode method_3_code 27 = .ok (.if_icmp .ne 22, 3) := by decide +kernel
theorem dTXT_30 : decode method_3_code 30 = .ok (.new 27, 3) := by decide +kernel
theorem dTXT_33 : decode method_3_code 33 = .ok (.dup, 1) := by decide +kernel
theorem dTXT_34 : decode method_3_code 34 = .ok (.iconst 2, 1) := by decide +kernel
theorem dTXT_35 : decode method_3_code 35 = .ok (.newarray .char, 2) := by decide +kernel
theorem dTXT_37 : decode method_3_code 37 = .ok (.dup, 1) := by decide +kernel
theorem dTXT_38 : decode method_3_code 38 = .ok (.iconst 0, 1) := by decide +kernel
theorem dTXT_39 : decode method_3_code 39 = .ok (.iload_n 1, 1) := by decide +kernel
theorem dTXT_40 : decode method_3_code 40 = .ok (.castore, 1) := by decide +kernel
theorem dTXT_41 : decode method_3_code 41 = .ok (.dup, 1) := by decide +kernel
theorem dTXT_42 : decode method_3_code 42 = .ok (.iconst 1, 1) := by decide +kernel
theorem dTXT_43 : decode method_3_code 43 = .ok (.iload_n 2, 1) := by decide +kernel
theorem dTXT_44 : decode method_3_code 44 = .ok (.castore, 1) := by decide +kernel
theorem dTXT_45 : decode method_3_code 45 = .ok (.invokespecial 36, 3) := by decide +kernel
theorem dTXT_48 : decode method_3_code 48 = .ok (.areturn, 1) := by decide +kernel
theorem dTXT_49 : decode method_3_code 49 = .ok (.new 27, 3) := by decide +kernel
theorem dTXT_52 : decode method_3_code 52 = .ok (.dup, 1) := by decide +kernel
theorem dTXT_53 : decode method_3_code 53 = .ok (.iconst 3, 1) := by decide +kernel
theorem dTXT_54 : decode method_3_code 54 = .ok (.newarray .char, 2) := by decide +kernel
theorem dTXT_56 : decode method_3_code 56 = .ok (.dup, 1) := by decide +kernel
theorem dTXT_57 : decode method_3_code 57 = .ok (.iconst 0, 1) := by decide +kernel
theorem dTXT_58 : decode method_3_code 58 = .ok (.iload_n 1, 1) := by decide +kernel
theorem dTXT_59 : decode method_3_code 59 = .ok (.castore, 1) := by decide +kernel
theorem dTXT_60 : decode method_3_code 60 = .ok (.dup, 1) := by decide +kernel
theorem dTXT_61 : decode method_3_code 61 = .ok (.iconst 1, 1) := by decide +kernel
theorem dTXT_62 : decode method_3_code 62 = .ok (.iload_n 2, 1) := by decide +kernel
theorem dTXT_63 : decode method_3_code 63 = .ok (.castore, 1) := by decide +kernel
theorem dTXT_64 : decode method_3_code 64 = .ok (.dup, 1) := by decide +kernel
theorem dTXT_65 : decode method_3_code 65 = .ok (.iconst 2, 1) := by decide +kernel
theorem dTXT_66 : decode method_3_code 66 = .ok (.iload_n 3, 1) := by decide +kernel
theorem dTXT_67 : decode method_3_code 67 = .ok (.castore, 1) := by decide +kernel
theorem dTXT_68 : decode method_3_code 68 = .ok (.invokespecial 36, 3) := by decide +kernel
theorem dTXT_71 : decode method_3_code 71 = .ok (.areturn, 1) := by decide +kernel
set_option maxRecDepth 65536 in
set_option maxHeartbeats 40000000 in
theorem own_txt (l : Launch) (Z : State) (a0 : Array Value) (hw : ∀ d ∈ tables_1, d.before a0 Z = true) (EL : List (String × Nat)) (hEL : EW Z a0 EL) (h0 : Heap) (n : Int32) (a : Int32) (ha : ¬ a < 0 ∧ ¬ (255 : Int32) < a) (b : Int32) (hb : ¬ b < 0 ∧ ¬ (255 : Int32) < b) (c : Int32) (hc : ¬ c < 0 ∧ ¬ (255 : Int32) < c) (hm : ("java/lang/String", 7) ∈ EL) (cz : Int32) (O : Sta Z Z.heap "java/lang/String" "COMPACT_STRINGS" "Z" (.int cz)) (hO : ¬ cz = 0) :
    Con l Z EL false [] (⟨"com/example/wallhour/wallhour/ChoiceRejectPinLaw", "text", "(ICCC)Ljava/lang/String;"⟩ : MethodName) method_3_code 4 (some (.object "java/lang/String")) ({ frames := 5, cells := 5, slots := 30, locals := 90 } : Room) #[(.int n), (.int a), (.int b), (.int c)] h0 (fun v h' => ∃ s, v = some (.ref s) ∧ Str Z h' s (own_tx n a b c) ∧ Ext h0 h') := by
  refine Con.of (Ls := #[.val (.int n), .val (.int a), .val (.int b), .val (.int c)]) (plainFor_of_name own_pn6) hEL (fun m => by first | (simp [entryFrame, mkF, argsToLocals, Value.category]; done) | rfl) ?_
  intro vm0 hZ0 hE0 hC0 hS0
  refine WP.iloadN (n := 1) dTXT_0 rfl rfl ?_
  refine WP.if_ne (n := 15) (n' := 4) dTXT_1 (by decide) (by decide) rfl (fun b48 => ?_) (fun b48 => ?_)
  · refine WP.iloadN (n := 16) dTXT_15 rfl rfl ?_
    refine WP.iconst (n := 17) (z := (1 : Int32)) dTXT_16 rfl rfl ?_
    refine WP.icmp_ne (n := 25) (n' := 20) dTXT_17 (by decide) (by decide) rfl (fun b49 => ?_) (fun b49 => ?_)
    · refine WP.iloadN (n := 26) dTXT_25 rfl rfl ?_
      refine WP.iconst (n := 27) (z := (2 : Int32)) dTXT_26 rfl rfl ?_
      refine WP.icmp_ne (n := 49) (n' := 30) dTXT_27 (by decide) (by decide) rfl (fun b50 => ?_) (fun b50 => ?_)
      · refine WP.new (n := 52) (ce' := 1) (sl' := 4) dTXT_49 (hw _ (List.mem_of_getElem? (i := 4) rfl)) (hw _ (List.mem_of_getElem? (i := 5) rfl)) (hw _ (List.mem_of_getElem? (i := 6) rfl)) rfl rfl (by decide) (by decide) rfl (fun a51 h51 g51 E51 A51 D51 S51 N51 r51 => ?_)
        refine WP.dup (n := 53) dTXT_52 rfl rfl ?_
        refine WP.iconst (n := 54) (z := (3 : Int32)) dTXT_53 rfl rfl ?_
        refine WP.newP (n := 56) (ce' := 2) (sl' := 7) (cap := 3) (ty := .char) dTXT_54 (hw _ (List.mem_of_getElem? (i := 7) rfl)) rfl (by decide) (by decide) (by decide) rfl rfl (by decide) (by decide) rfl (fun a52 h52 k52 g52 E52 V52 S52 N52 r52 => ?_)
        have V52_ : Arv Z h52 a52 k52 .char (3 : Int32) [.int 0, .int 0, .int 0] (.int 0) := V52.pad (pad_rep [] (.int 0) 3)
        have SA52 := r52.safe A51.lt S51
        have XA52 := A51.ext E52
        have XV52 := (D51 (Or.inr (hw _ (List.mem_of_getElem? (i := 20) rfl))) (ty := .array .byte) (by decide)).ext E52
        have XC52 := (D51 (Or.inr (hw _ (List.mem_of_getElem? (i := 21) rfl))) (ty := .byte) (by decide)).ext E52
        have XN52 : a51 ≠ a52 := Nat.ne_of_lt (Nat.lt_of_lt_of_le A51.lt (Nat.le_of_eq g52.symm))
        refine WP.dup (n := 57) dTXT_56 rfl rfl ?_
        refine WP.iconst (n := 58) (z := (0 : Int32)) dTXT_57 rfl rfl ?_
        refine WP.iloadN (n := 59) dTXT_58 rfl rfl ?_
        refine WP.stC (n := 60) (i := 0) (y := a) dTXT_59 V52_ (by decide) rfl (Nat.le_of_ble_eq_true rfl) (own_c16 ha) N52 S52 rfl (fun h53 W53 V53 r53 => ?_)
        have SS53 := r53.safe V52_.lt S52
        have SA53 := r53.safe XA52.lt SA52
        have XA53 := XA52.wr W53
        have XV53 := XV52.other W53 (Or.inl XN52)
        have XC53 := XC52.other W53 (Or.inl XN52)
        refine WP.dup (n := 61) dTXT_60 rfl rfl ?_
        refine WP.iconst (n := 62) (z := (1 : Int32)) dTXT_61 rfl rfl ?_
        refine WP.iloadN (n := 63) dTXT_62 rfl rfl ?_
        refine WP.stC (n := 64) (i := 1) (y := b) dTXT_63 V53 (by decide) rfl (Nat.le_of_ble_eq_true rfl) (own_c16 hb) N52 SS53 rfl (fun h54 W54 V54 r54 => ?_)
        have SS54 := r54.safe V53.lt SS53
        have SA54 := r54.safe XA53.lt SA53
        have XA54 := XA53.wr W54
        have XV54 := XV53.other W54 (Or.inl XN52)
        have XC54 := XC53.other W54 (Or.inl XN52)
        refine WP.dup (n := 65) dTXT_64 rfl rfl ?_
        refine WP.iconst (n := 66) (z := (2 : Int32)) dTXT_65 rfl rfl ?_
        refine WP.iloadN (n := 67) dTXT_66 rfl rfl ?_
        refine WP.stC (n := 68) (i := 2) (y := c) dTXT_67 V54 (by decide) rfl (Nat.le_of_ble_eq_true rfl) (own_c16 hc) N52 SS54 rfl (fun h55 W55 V55 r55 => ?_)
        have SS55 := r55.safe V54.lt SS54
        have SA55 := r55.safe XA54.lt SA54
        have XA55 := XA54.wr W55
        have XV55 := XV54.other W55 (Or.inl XN52)
        have XC55 := XC54.other W55 (Or.inl XN52)
        have hws : ∀ d ∈ StrChars.Road.words, d.before a0 Z = true := fun d hd => hw d ((by decide +kernel : ∀ d ∈ StrChars.Road.words, d ∈ tables_1) d hd)
        refine WP.inv fun hZ56 hE56 hC56 => ?_
        refine WP.backP (n := 71) (ce' := 3) (sl' := 10) (Wd := 1) (a := a51) (argsL := [(.ref a52)]) (rest := [(.ref a51)]) (Qy := StrChars.Road.QV Z a51 3 (([a, b, c] : List Int32).map (fun c => c.toInt8.toInt32)) h55 Z.heap.size)
          (fun p e below s args hz => StrChars.Road.backV (W := 1) hz hws (kI := 4) (hw _ (List.mem_of_getElem? (i := 5) rfl)) (cs := [a, b, c]) (n := 3) (n0 := Z.heap.size) N51 hE56.1 XA55 XV55 XC55 V55 (O.ext hE56) hO rfl rfl (by decide) (by decide) (own_rng_cons ha (own_rng_cons hb (own_rng_cons hc own_rng_nil))) rfl (by decide) (by decide))
          (fun v h' L hq => ⟨hq.2.1, ext_keep1 hE56 hq.2.2.1 N51, CHr.keep hq.2.2.1 (fun z hz => by cases List.mem_singleton.mp hz; exact SA55) hC56⟩)
          dTXT_68 rfl (hw _ (List.mem_of_getElem? (i := 8) rfl)) (hw _ (List.mem_of_getElem? (i := 9) rfl)) (hw _ (List.mem_of_getElem? (i := 10) rfl)) (by decide) rfl rfl (by decide) (by decide) rfl rfl (lenOf own_pd19 rfl) rfl (Nat.le_of_eq rfl) rfl (fun v56 h56 L56 q56 r56 => ?_)
        obtain ⟨rfl, -, K56, QA56, QC56, t56, kb56, -, -, -, QV56, QB56⟩ := q56
        have F56 : Str Z h56 a51 [a.toInt8.toInt32, b.toInt8.toInt32, c.toInt8.toInt32] := ⟨QA56, QC56, t56, kb56, 3, QV56, QB56, rfl⟩
        have E56 := ext_keep1 (ext_wr (ext_wr (ext_wr (ext_trans E51 E52) W53 (Nat.le_trans E51.1 (Nat.le_of_eq g52.symm))) W54 (Nat.le_trans E51.1 (Nat.le_of_eq g52.symm))) W55 (Nat.le_trans E51.1 (Nat.le_of_eq g52.symm))) K56 (Nat.le_of_eq g51.symm)
        exact WP.retA dTXT_71 rfl rfl rfl rfl (by decide) (by decide) ⟨a51, rfl, by unfold own_tx; rw [if_neg b48, if_neg b49, if_neg b50]; exact F56, E56⟩
      · refine WP.new (n := 33) (ce' := 1) (sl' := 4) dTXT_30 (hw _ (List.mem_of_getElem? (i := 4) rfl)) (hw _ (List.mem_of_getElem? (i := 5) rfl)) (hw _ (List.mem_of_getElem? (i := 6) rfl)) rfl rfl (by decide) (by decide) rfl (fun a57 h57 g57 E57 A57 D57 S57 N57 r57 => ?_)
        refine WP.dup (n := 34) dTXT_33 rfl rfl ?_
        refine WP.iconst (n := 35) (z := (2 : Int32)) dTXT_34 rfl rfl ?_
        refine WP.newP (n := 37) (ce' := 2) (sl' := 6) (cap := 2) (ty := .char) dTXT_35 (hw _ (List.mem_of_getElem? (i := 7) rfl)) rfl (by decide) (by decide) (by decide) rfl rfl (by decide) (by decide) rfl (fun a58 h58 k58 g58 E58 V58 S58 N58 r58 => ?_)
        have V58_ : Arv Z h58 a58 k58 .char (2 : Int32) [.int 0, .int 0] (.int 0) := V58.pad (pad_rep [] (.int 0) 2)
        have SA58 := r58.safe A57.lt S57
        have XA58 := A57.ext E58
        have XV58 := (D57 (Or.inr (hw _ (List.mem_of_getElem? (i := 20) rfl))) (ty := .array .byte) (by decide)).ext E58
        have XC58 := (D57 (Or.inr (hw _ (List.mem_of_getElem? (i := 21) rfl))) (ty := .byte) (by decide)).ext E58
        have XN58 : a57 ≠ a58 := Nat.ne_of_lt (Nat.lt_of_lt_of_le A57.lt (Nat.le_of_eq g58.symm))
        refine WP.dup (n := 38) dTXT_37 rfl rfl ?_
        refine WP.iconst (n := 39) (z := (0 : Int32)) dTXT_38 rfl rfl ?_
        refine WP.iloadN (n := 40) dTXT_39 rfl rfl ?_
        refine WP.stC (n := 41) (i := 0) (y := a) dTXT_40 V58_ (by decide) rfl (Nat.le_of_ble_eq_true rfl) (own_c16 ha) N58 S58 rfl (fun h59 W59 V59 r59 => ?_)
        have SS59 := r59.safe V58_.lt S58
        have SA59 := r59.safe XA58.lt SA58
        have XA59 := XA58.wr W59
        have XV59 := XV58.other W59 (Or.inl XN58)
        have XC59 := XC58.other W59 (Or.inl XN58)
        refine WP.dup (n := 42) dTXT_41 rfl rfl ?_
        refine WP.iconst (n := 43) (z := (1 : Int32)) dTXT_42 rfl rfl ?_
        refine WP.iloadN (n := 44) dTXT_43 rfl rfl ?_
        refine WP.stC (n := 45) (i := 1) (y := b) dTXT_44 V59 (by decide) rfl (Nat.le_of_ble_eq_true rfl) (own_c16 hb) N58 SS59 rfl (fun h60 W60 V60 r60 => ?_)
        have SS60 := r60.safe V59.lt SS59
        have SA60 := r60.safe XA59.lt SA59
        have XA60 := XA59.wr W60
        have XV60 := XV59.other W60 (Or.inl XN58)
        have XC60 := XC59.other W60 (Or.inl XN58)
        have hws : ∀ d ∈ StrChars.Road.words, d.before a0 Z = true := fun d hd => hw d ((by decide +kernel : ∀ d ∈ StrChars.Road.words, d ∈ tables_1) d hd)
        refine WP.inv fun hZ61 hE61 hC61 => ?_
        refine WP.backP (n := 48) (ce' := 3) (sl' := 8) (Wd := 1) (a := a57) (argsL := [(.ref a58)]) (rest := [(.ref a57)]) (Qy := StrChars.Road.QV Z a57 2 (([a, b] : List Int32).map (fun c => c.toInt8.toInt32)) h60 Z.heap.size)
          (fun p e below s args hz => StrChars.Road.backV (W := 1) hz hws (kI := 4) (hw _ (List.mem_of_getElem? (i := 5) rfl)) (cs := [a, b]) (n := 2) (n0 := Z.heap.size) N57 hE61.1 XA60 XV60 XC60 V60 (O.ext hE61) hO rfl rfl (by decide) (by decide) (own_rng_cons ha (own_rng_cons hb own_rng_nil)) rfl (by decide) (by decide))
          (fun v h' L hq => ⟨hq.2.1, ext_keep1 hE61 hq.2.2.1 N57, CHr.keep hq.2.2.1 (fun z hz => by cases List.mem_singleton.mp hz; exact SA60) hC61⟩)
          dTXT_45 rfl (hw _ (List.mem_of_getElem? (i := 8) rfl)) (hw _ (List.mem_of_getElem? (i := 9) rfl)) (hw _ (List.mem_of_getElem? (i := 10) rfl)) (by decide) rfl rfl (by decide) (by decide) rfl rfl (lenOf own_pd19 rfl) rfl (Nat.le_of_eq rfl) rfl (fun v61 h61 L61 q61 r61 => ?_)
        obtain ⟨rfl, -, K61, QA61, QC61, t61, kb61, -, -, -, QV61, QB61⟩ := q61
        have F61 : Str Z h61 a57 [a.toInt8.toInt32, b.toInt8.toInt32] := ⟨QA61, QC61, t61, kb61, 2, QV61, QB61, rfl⟩
        have E61 := ext_keep1 (ext_wr (ext_wr (ext_trans E57 E58) W59 (Nat.le_trans E57.1 (Nat.le_of_eq g58.symm))) W60 (Nat.le_trans E57.1 (Nat.le_of_eq g58.symm))) K61 (Nat.le_of_eq g57.symm)
        exact WP.retA dTXT_48 rfl rfl rfl rfl (by decide) (by decide) ⟨a57, rfl, by unfold own_tx; rw [if_neg b48, if_neg b49, if_pos b50]; exact F61, E61⟩
    · refine WP.iloadN (n := 21) dTXT_20 rfl rfl ?_
      refine WP.callS (n := 24) (ce' := 2) (sl' := 5) (Wd := 0) (argsL := [(.int a)]) (rest := []) (own_vo l Z a0 hw EL hEL h0 a ha.2 cz O hO) dTXT_21 (hw _ (List.mem_of_getElem? (i := 230) rfl)) (hw _ (List.mem_of_getElem? (i := 231) rfl)) (hw _ (List.mem_of_getElem? (i := 6) rfl)) (hw _ (List.mem_of_getElem? (i := 232) rfl)) (by decide) (fun _ q => nomatch q) (by decide) (by decide) rfl rfl (by decide) (by decide) rfl rfl (lenOf own_pd20 rfl) rfl (Nat.le_of_eq rfl) rfl (fun v62 vm62 h62 q62 r62 => ?_)
      obtain ⟨s62, rfl, F62, E62⟩ := q62
      exact WP.retA dTXT_24 rfl rfl rfl rfl (by decide) (by decide) ⟨s62, rfl, by unfold own_tx; rw [if_neg b48, if_pos b49]; exact F62, E62⟩
  · refine WP.new (n := 7) (ce' := 1) (sl' := 4) dTXT_4 (hw _ (List.mem_of_getElem? (i := 4) rfl)) (hw _ (List.mem_of_getElem? (i := 5) rfl)) (hw _ (List.mem_of_getElem? (i := 6) rfl)) rfl rfl (by decide) (by decide) rfl (fun a63 h63 g63 E63 A63 D63 S63 N63 r63 => ?_)
    refine WP.dup (n := 8) dTXT_7 rfl rfl ?_
    refine WP.iconst (n := 9) (z := (0 : Int32)) dTXT_8 rfl rfl ?_
    refine WP.newP (n := 11) (ce' := 2) (sl' := 4) (cap := 0) (ty := .char) dTXT_9 (hw _ (List.mem_of_getElem? (i := 7) rfl)) rfl (by decide) (by decide) (by decide) rfl rfl (by decide) (by decide) rfl (fun a64 h64 k64 g64 E64 V64 S64 N64 r64 => ?_)
    have V64_ : Arv Z h64 a64 k64 .char (0 : Int32) [] (.int 0) := V64.pad (pad_rep [] (.int 0) 0)
    have SA64 := r64.safe A63.lt S63
    have XA64 := A63.ext E64
    have XV64 := (D63 (Or.inr (hw _ (List.mem_of_getElem? (i := 20) rfl))) (ty := .array .byte) (by decide)).ext E64
    have XC64 := (D63 (Or.inr (hw _ (List.mem_of_getElem? (i := 21) rfl))) (ty := .byte) (by decide)).ext E64
    have XN64 : a63 ≠ a64 := Nat.ne_of_lt (Nat.lt_of_lt_of_le A63.lt (Nat.le_of_eq g64.symm))
    refine WP.callP (n := 14) (ce' := 4) (sl' := 8) (Wd := 1) (a := a63) (argsL := [(.ref a64)]) (rest := [(.ref a63)]) (own_si1 l Z a0 hw EL hEL h64 a63 a64 _ _ N63 XA64 XV64 XC64 _ _ V64 hm) dTXT_11 rfl (hw _ (List.mem_of_getElem? (i := 8) rfl)) (hw _ (List.mem_of_getElem? (i := 9) rfl)) (hw _ (List.mem_of_getElem? (i := 6) rfl)) (hw _ (List.mem_of_getElem? (i := 10) rfl)) (by decide) (fun y q => by cases List.mem_singleton.mp q; exact ⟨SA64, XA64.lt⟩) (by decide) (by decide) rfl rfl (by decide) (by decide) rfl rfl (lenOf own_pd19 rfl) rfl (Nat.le_of_eq rfl) rfl (fun v65 vm65 h65 q65 r65 => ?_)
    obtain ⟨rfl, K65, F65⟩ := q65
    have E65 := ext_keep1 (ext_trans E63 E64) K65 (Nat.le_of_eq g63.symm)
    exact WP.retA dTXT_14 rfl rfl rfl rfl (by decide) (by decide) ⟨a63, rfl, by unfold own_tx; rw [if_pos b48]; exact F65, E65⟩
theorem dSHW_0 : decode method_4_code 0 = .ok (.iload_n 0, 1) := by decide +kernel
theorem dSHW_1 : decode method_4_code 1 = .ok (.ifCond .ne 57, 3) := by decide +kernel
theorem dSHW_4 : decode method_4_code 4 = .ok (.new 27, 3) := by decide +kernel
theorem dSHW_7 : decode method_4_code 7 = .ok (.dup, 1) := by decide +kernel
theorem dSHW_8 : decode method_4_code 8 = .ok (.bipush 8, 2) := by decide +kernel
theorem dSHW_10 : decode method_4_code 10 = .ok (.newarray .char, 2) := by decide +kernel
theorem dSHW_12 : decode method_4_code 12 = .ok (.dup, 1) := by decide +kernel
theorem dSHW_13 : decode method_4_code 13 = .ok (.iconst 0, 1) := by decide +kernel
theorem dSHW_14 : decode method_4_code 14 = .ok (.bipush 114, 2) := by decide +kernel
theorem dSHW_16 : decode method_4_code 16 = .ok (.castore, 1) := by decide +kernel
theorem dSHW_17 : decode method_4_code 17 = .ok (.dup, 1) := by decide +kernel
theorem dSHW_18 : decode method_4_code 18 = .ok (.iconst 1, 1) := by decide +kernel
theorem dSHW_19 : decode method_4_code 19 = .ok (.bipush 101, 2) := by decide +kernel
theorem dSHW_21 : decode method_4_code 21 = .ok (.castore, 1) := by decide +kernel
theorem dSHW_22 : decode method_4_code 22 = .ok (.dup, 1) := by decide +kernel
theorem dSHW_23 : decode method_4_code 23 = .ok (.iconst 2, 1) := by decide +kernel
theorem dSHW_24 : decode method_4_code 24 = .ok (.bipush 106, 2) := by decide +kernel
theorem dSHW_26 : decode method_4_code 26 = .ok (.castore, 1) := by decide +kernel
theorem dSHW_27 : decode method_4_code 27 = .ok (.dup, 1) := by decide +kernel
theorem dSHW_28 : decode method_4_code 28 = .ok (.iconst 3, 1) := by decide +kernel
theorem dSHW_29 : decode method_4_code 29 = .ok (.bipush 101, 2) := by decide +kernel
theorem dSHW_31 : decode method_4_code 31 = .ok (.castore, 1) := by decide +kernel
theorem dSHW_32 : decode method_4_code 32 = .ok (.dup, 1) := by decide +kernel
theorem dSHW_33 : decode method_4_code 33 = .ok (.iconst 4, 1) := by decide +kernel
theorem dSHW_34 : decode method_4_code 34 = .ok (.bipush 99, 2) := by decide +kernel
theorem dSHW_36 : decode method_4_code 36 = .ok (.castore, 1) := by decide +kernel
theorem dSHW_37 : decode method_4_code 37 = .ok (.dup, 1) := by decide +kernel
theorem dSHW_38 : decode method_4_code 38 = .ok (.iconst 5, 1) := by decide +kernel
theorem dSHW_39 : decode method_4_code 39 = .ok (.bipush 116, 2) := by decide +kernel
theorem dSHW_41 : decode method_4_code 41 = .ok (.castore, 1) := by decide +kernel
theorem dSHW_42 : decode method_4_code 42 = .ok (.dup, 1) := by decide +kernel
theorem dSHW_43 : decode method_4_code 43 = .ok (.bipush 6, 2) := by decide +kernel
theorem dSHW_45 : decode method_4_code 45 = .ok (.bipush 58, 2) := by decide +kernel
theorem dSHW_47 : decode method_4_code 47 = .ok (.castore, 1) := by decide +kernel
theorem dSHW_48 : decode method_4_code 48 = .ok (.dup, 1) := by decide +kernel
theorem dSHW_49 : decode method_4_code 49 = .ok (.bipush 7, 2) := by decide +kernel
theorem dSHW_51 : decode method_4_code 51 = .ok (.bipush 32, 2) := by decide +kernel
theorem dSHW_53 : decode method_4_code 53 = .ok (.castore, 1) := by decide +kernel
theorem dSHW_54 : decode method_4_code 54 = .ok (.invokespecial 36, 3) := by decide +kernel
theorem dSHW_57 : decode method_4_code 57 = .ok (.areturn, 1) := by decide +kernel
theorem dSHW_58 : decode method_4_code 58 = .ok (.iload_n 0, 1) := by decide +kernel
theorem dSHW_59 : decode method_4_code 59 = .ok (.iconst 1, 1) := by decide +kernel
theorem dSHW_60 : decode method_4_code 60 = .ok (.if_icmp .ne 62, 3) := by decide +kernel
theorem dSHW_63 : decode method_4_code 63 = .ok (.new 27, 3) := by decide +kernel
theorem dSHW_66 : decode method_4_code 66 = .ok (.dup, 1) := by decide +kernel
theorem dSHW_67 : decode method_4_code 67 = .ok (.bipush 9, 2) := by decide +kernel
theorem dSHW_69 : decode method_4_code 69 = .ok (.newarray .char, 2) := by decide +kernel
theorem dSHW_71 : decode method_4_code 71 = .ok (.dup, 1) := by decide +kernel
theorem dSHW_72 : decode method_4_code 72 = .ok (.iconst 0, 1) := by decide +kernel
theorem dSHW_73 : decode method_4_code 73 = .ok (.bipush 114, 2) := by decide +kernel
theorem dSHW_75 : decode method_4_code 75 = .ok (.castore, 1) := by decide +kernel
theorem dSHW_76 : decode method_4_code 76 = .ok (.dup, 1) := by decide +kernel
theorem dSHW_77 : decode method_4_code 77 = .ok (.iconst 1, 1) := by decide +kernel
theorem dSHW_78 : decode method_4_code 78 = .ok (.bipush 101, 2) := by decide +kernel
theorem dSHW_80 : decode method_4_code 80 = .ok (.castore, 1) := by decide +kernel
theorem dSHW_81 : decode method_4_code 81 = .ok (.dup, 1) := by decide +kernel
theorem dSHW_82 : decode method_4_code 82 = .ok (.iconst 2, 1) := by decide +kernel
theorem dSHW_83 : decode method_4_code 83 = .ok (.bipush 106, 2) := by decide +kernel
theorem dSHW_85 : decode method_4_code 85 = .ok (.castore, 1) := by decide +kernel
theorem dSHW_86 : decode method_4_code 86 = .ok (.dup, 1) := by decide +kernel
theorem dSHW_87 : decode method_4_code 87 = .ok (.iconst 3, 1) := by decide +kernel
theorem dSHW_88 : decode method_4_code 88 = .ok (.bipush 101, 2) := by decide +kernel
theorem dSHW_90 : decode method_4_code 90 = .ok (.castore, 1) := by decide +kernel
theorem dSHW_91 : decode method_4_code 91 = .ok (.dup, 1) := by decide +kernel
theorem dSHW_92 : decode method_4_code 92 = .ok (.iconst 4, 1) := by decide +kernel
theorem dSHW_93 : decode method_4_code 93 = .ok (.bipush 99, 2) := by decide +kernel
theorem dSHW_95 : decode method_4_code 95 = .ok (.castore, 1) := by decide +kernel
theorem dSHW_96 : decode method_4_code 96 = .ok (.dup, 1) := by decide +kernel
theorem dSHW_97 : decode method_4_code 97 = .ok (.iconst 5, 1) := by decide +kernel
theorem dSHW_98 : decode method_4_code 98 = .ok (.bipush 116, 2) := by decide +kernel
theorem dSHW_100 : decode method_4_code 100 = .ok (.castore, 1) := by decide +kernel
theorem dSHW_101 : decode method_4_code 101 = .ok (.dup, 1) := by decide +kernel
theorem dSHW_102 : decode method_4_code 102 = .ok (.bipush 6, 2) := by decide +kernel
theorem dSHW_104 : decode method_4_code 104 = .ok (.bipush 58, 2) := by decide +kernel
theorem dSHW_106 : decode method_4_code 106 = .ok (.castore, 1) := by decide +kernel
theorem dSHW_107 : decode method_4_code 107 = .ok (.dup, 1) := by decide +kernel
theorem dSHW_108 : decode method_4_code 108 = .ok (.bipush 7, 2) := by decide +kernel
theorem dSHW_110 : decode method_4_code 110 = .ok (.bipush 32, 2) := by decide +kernel
theorem dSHW_112 : decode method_4_code 112 = .ok (.castore, 1) := by decide +kernel
theorem dSHW_113 : decode method_4_code 113 = .ok (.dup, 1) := by decide +kernel
theorem dSHW_114 : decode method_4_code 114 = .ok (.bipush 8, 2) := by decide +kernel
theorem dSHW_116 : decode method_4_code 116 = .ok (.iload_n 1, 1) := by decide +kernel
theorem dSHW_117 : decode method_4_code 117 = .ok (.castore, 1) := by decide +kernel
theorem dSHW_118 : decode method_4_code 118 = .ok (.invokespecial 36, 3) := by decide +kernel
theorem dSHW_121 : decode method_4_code 121 = .ok (.areturn, 1) := by decide +kernel
theorem dSHW_122 : decode method_4_code 122 = .ok (.iload_n 0, 1) := by decide +kernel
theorem dSHW_123 : decode method_4_code 123 = .ok (.iconst 2, 1) := by decide +kernel
theorem dSHW_124 : decode method_4_code 124 = .ok (.if_icmp .ne 67, 3) := by decide +kernel
theorem dSHW_127 : decode method_4_code 127 = .ok (.new 27, 3) := by decide +kernel
theorem dSHW_130 : decode method_4_code 130 = .ok (.dup, 1) := by decide +kernel
theorem dSHW_131 : decode method_4_code 131 = .ok (.bipush 10, 2) := by decide +kernel
theorem dSHW_133 : decode method_4_code 133 = .ok (.newarray .char, 2) := by decide +kernel
theorem dSHW_135 : decode method_4_code 135 = .ok (.dup, 1) := by decide +kernel
theorem dSHW_136 : decode method_4_code 136 = .ok (.iconst 0, 1) := by decide +kernel
theorem dSHW_137 : decode method_4_code 137 = .ok (.bipush 114, 2) := by decide +kernel
theorem dSHW_139 : decode method_4_code 139 = .ok (.castore, 1) := by decide +kernel
theorem dSHW_140 : decode method_4_code 140 = .ok (.dup, 1) := by decide +kernel
theorem dSHW_141 : decode method_4_code 141 = .ok (.iconst 1, 1) := by decide +kernel
theorem dSHW_142 : decode method_4_code 142 = .ok (.bipush 101, 2) := by decide +kernel
theorem dSHW_144 : decode method_4_code 144 = .ok (.castore, 1) := by decide +kernel
theorem dSHW_145 : decode method_4_code 145 = .ok (.dup, 1) := by decide +kernel
theorem dSHW_146 : decode method_4_code 146 = .ok (.iconst 2, 1) := by decide +kernel
theorem dSHW_147 : decode method_4_code 147 = .ok (.bipush 106, 2) := by decide +kernel
theorem dSHW_149 : decode method_4_code 149 = .ok (.castore, 1) := by decide +kernel
theorem dSHW_150 : decode method_4_code 150 = .ok (.dup, 1) := by decide +kernel
theorem dSHW_151 : decode method_4_code 151 = .ok (.iconst 3, 1) := by decide +kernel
theorem dSHW_152 : decode method_4_code 152 = .ok (.bipush 101, 2) := by decide +kernel
theorem dSHW_154 : decode method_4_code 154 = .ok (.castore, 1) := by decide +kernel
theorem dSHW_155 : decode method_4_code 155 = .ok (.dup, 1) := by decide +kernel
theorem dSHW_156 : decode method_4_code 156 = .ok (.iconst 4, 1) := by decide +kernel
theorem dSHW_157 : decode method_4_code 157 = .ok (.bipush 99, 2) := by decide +kernel
theorem dSHW_159 : decode method_4_code 159 = .ok (.castore, 1) := by decide +kernel
theorem dSHW_160 : decode method_4_code 160 = .ok (.dup, 1) := by decide +kernel
theorem dSHW_161 : decode method_4_code 161 = .ok (.iconst 5, 1) := by decide +kernel
theorem dSHW_162 : decode method_4_code 162 = .ok (.bipush 116, 2) := by decide +kernel
theorem dSHW_164 : decode method_4_code 164 = .ok (.castore, 1) := by decide +kernel
theorem dSHW_165 : decode method_4_code 165 = .ok (.dup, 1) := by decide +kernel
theorem dSHW_166 : decode method_4_code 166 = .ok (.bipush 6, 2) := by decide +kernel
theorem dSHW_168 : decode method_4_code 168 = .ok (.bipush 58, 2) := by decide +kernel
theorem dSHW_170 : decode method_4_code 170 = .ok (.castore, 1) := by decide +kernel
theorem dSHW_171 : decode method_4_code 171 = .ok (.dup, 1) := by decide +kernel
theorem dSHW_172 : decode method_4_code 172 = .ok (.bipush 7, 2) := by decide +kernel
theorem dSHW_174 : decode method_4_code 174 = .ok (.bipush 32, 2) := by decide +kernel
theorem dSHW_176 : decode method_4_code 176 = .ok (.castore, 1) := by decide +kernel
theorem dSHW_177 : decode method_4_code 177 = .ok (.dup, 1) := by decide +kernel
theorem dSHW_178 : decode method_4_code 178 = .ok (.bipush 8, 2) := by decide +kernel
theorem dSHW_180 : decode method_4_code 180 = .ok (.iload_n 1, 1) := by decide +kernel
theorem dSHW_181 : decode method_4_code 181 = .ok (.castore, 1) := by decide +kernel
theorem dSHW_182 : decode method_4_code 182 = .ok (.dup, 1) := by decide +kernel
theorem dSHW_183 : decode method_4_code 183 = .ok (.bipush 9, 2) := by decide +kernel
theorem dSHW_185 : decode method_4_code 185 = .ok (.iload_n 2, 1) := by decide +kernel
theorem dSHW_186 : decode method_4_code 186 = .ok (.castore, 1) := by decide +kernel
theorem dSHW_187 : decode method_4_code 187 = .ok (.invokespecial 36, 3) := by decide +kernel
theorem dSHW_190 : decode method_4_code 190 = .ok (.areturn, 1) := by decide +kernel
theorem dSHW_191 : decode method_4_code 191 = .ok (.new 27, 3) := by decide +kernel
theorem dSHW_194 : decode method_4_code 194 = .ok (.dup, 1) := by decide +kernel
theorem dSHW_195 : decode method_4_code 195 = .ok (.bipush 11, 2) := by decide +kernel
theorem dSHW_197 : decode method_4_code 197 = .ok (.newarray .char, 2) := by decide +kernel
theorem dSHW_199 : decode method_4_code 199 = .ok (.dup, 1) := by decide +kernel
theorem dSHW_200 : decode method_4_code 200 = .ok (.iconst 0, 1) := by decide +kernel
theorem dSHW_201 : decode method_4_code 201 = .ok (.bipush 114, 2) := by decide +kernel
theorem dSHW_203 : decode method_4_code 203 = .ok (.castore, 1) := by decide +kernel
theorem dSHW_204 : decode method_4_code 204 = .ok (.dup, 1) := by decide +kernel
theorem dSHW_205 : decode method_4_code 205 = .ok (.iconst 1, 1) := by decide +kernel
theorem dSHW_206 : decode method_4_code 206 = .ok (.bipush 101, 2) := by decide +kernel
theorem dSHW_208 : decode method_4_code 208 = .ok (.castore, 1) := by decide +kernel
theorem dSHW_209 : decode method_4_code 209 = .ok (.dup, 1) := by decide +kernel
theorem dSHW_210 : decode method_4_code 210 = .ok (.iconst 2, 1) := by decide +kernel
theorem dSHW_211 : decode method_4_code 211 = .ok (.bipush 106, 2) := by decide +kernel
theorem dSHW_213 : decode method_4_code 213 = .ok (.castore, 1) := by decide +kernel
theorem dSHW_214 : decode method_4_code 214 = .ok (.dup, 1) := by decide +kernel
theorem dSHW_215 : decode method_4_code 215 = .ok (.iconst 3, 1) := by decide +kernel
theorem dSHW_216 : decode method_4_code 216 = .ok (.bipush 101, 2) := by decide +kernel
theorem dSHW_218 : decode method_4_code 218 = .ok (.castore, 1) := by decide +kernel
theorem dSHW_219 : decode method_4_code 219 = .ok (.dup, 1) := by decide +kernel
theorem dSHW_220 : decode method_4_code 220 = .ok (.iconst 4, 1) := by decide +kernel
theorem dSHW_221 : decode method_4_code 221 = .ok (.bipush 99, 2) := by decide +kernel
theorem dSHW_223 : decode method_4_code 223 = .ok (.castore, 1) := by decide +kernel
theorem dSHW_224 : decode method_4_code 224 = .ok (.dup, 1) := by decide +kernel
theorem dSHW_225 : decode method_4_code 225 = .ok (.iconst 5, 1) := by decide +kernel
theorem dSHW_226 : decode method_4_code 226 = .ok (.bipush 116, 2) := by decide +kernel
theorem dSHW_228 : decode method_4_code 228 = .ok (.castore, 1) := by decide +kernel
theorem dSHW_229 : decode method_4_code 229 = .ok (.dup, 1) := by decide +kernel
theorem dSHW_230 : decode method_4_code 230 = .ok (.bipush 6, 2) := by decide +kernel
theorem dSHW_232 : decode method_4_code 232 = .ok (.bipush 58, 2) := by decide +kernel
theorem dSHW_234 : decode method_4_code 234 = .ok (.castore, 1) := by decide +kernel
theorem dSHW_235 : decode method_4_code 235 = .ok (.dup, 1) := by decide +kernel
theorem dSHW_236 : decode method_4_code 236 = .ok (.bipush 7, 2) := by decide +kernel
theorem dSHW_238 : decode method_4_code 238 = .ok (.bipush 32, 2) := by decide +kernel
theorem dSHW_240 : decode method_4_code 240 = .ok (.castore, 1) := by decide +kernel
theorem dSHW_241 : decode method_4_code 241 = .ok (.dup, 1) := by decide +kernel
theorem dSHW_242 : decode method_4_code 242 = .ok (.bipush 8, 2) := by decide +kernel
theorem dSHW_244 : decode method_4_code 244 = .ok (.iload_n 1, 1) := by decide +kernel
theorem dSHW_245 : decode method_4_code 245 = .ok (.castore, 1) := by decide +kernel
theorem dSHW_246 : decode method_4_code 246 = .ok (.dup, 1) := by decide +kernel
theorem dSHW_247 : decode method_4_code 247 = .ok (.bipush 9, 2) := by decide +kernel
theorem dSHW_249 : decode method_4_code 249 = .ok (.iload_n 2, 1) := by decide +kernel
theorem dSHW_250 : decode method_4_code 250 = .ok (.castore, 1) := by decide +kernel
theorem dSHW_251 : decode method_4_code 251 = .ok (.dup, 1) := by decide +kernel
theorem dSHW_252 : decode method_4_code 252 = .ok (.bipush 10, 2) := by decide +kernel
theorem dSHW_254 : decode method_4_code 254 = .ok (.iload_n 3, 1) := by decide +kernel
theorem dSHW_255 : decode method_4_code 255 = .ok (.castore, 1) := by decide +kernel
theorem dSHW_256 : decode method_4_code 256 = .ok (.invokespecial 36, 3) := by decide +kernel
theorem dSHW_259 : decode method_4_code 259 = .ok (.areturn, 1) := by decide +kernel
set_option maxRecDepth 65536 in
set_option maxHeartbeats 40000000 in
theorem own_shw (l : Launch) (Z : State) (a0 : Array Value) (hw : ∀ d ∈ tables_1, d.before a0 Z = true) (EL : List (String × Nat)) (hEL : EW Z a0 EL) (h0 : Heap) (n : Int32) (a : Int32) (ha : ¬ a < 0 ∧ ¬ (255 : Int32) < a) (b : Int32) (hb : ¬ b < 0 ∧ ¬ (255 : Int32) < b) (c : Int32) (hc : ¬ c < 0 ∧ ¬ (255 : Int32) < c) (hm : ("java/lang/String", 7) ∈ EL) (cz : Int32) (O : Sta Z Z.heap "java/lang/String" "COMPACT_STRINGS" "Z" (.int cz)) (hO : ¬ cz = 0) :
    Con l Z EL false [] (⟨"com/example/wallhour/wallhour/ChoiceRejectPinLaw", "shown", "(ICCC)Ljava/lang/String;"⟩ : MethodName) method_4_code 4 (some (.object "java/lang/String")) ({ frames := 5, cells := 5, slots := 30, locals := 90 } : Room) #[(.int n), (.int a), (.int b), (.int c)] h0 (fun v h' => ∃ s, v = some (.ref s) ∧ Str Z h' s (own_R8 ++ own_tx n a b c) ∧ Ext h0 h') := by
  refine Con.of (Ls := #[.val (.int n), .val (.int a), .val (.int b), .val (.int c)]) (plainFor_of_name own_pn6) hEL (fun m => by first | (simp [entryFrame, mkF, argsToLocals, Value.category]; done) | rfl) ?_
  intro vm0 hZ0 hE0 hC0 hS0
  refine WP.iloadN (n := 1) dSHW_0 rfl rfl ?_
  refine WP.if_ne (n := 58) (n' := 4) dSHW_1 (by decide) (by decide) rfl (fun b66 => ?_) (fun b66 => ?_)
  · refine WP.iloadN (n := 59) dSHW_58 rfl rfl ?_
    refine WP.iconst (n := 60) (z := (1 : Int32)) dSHW_59 rfl rfl ?_
    refine WP.icmp_ne (n := 122) (n' := 63) dSHW_60 (by decide) (by decide) rfl (fun b67 => ?_) (fun b67 => ?_)
    · refine WP.iloadN (n := 123) dSHW_122 rfl rfl ?_
      refine WP.iconst (n := 124) (z := (2 : Int32)) dSHW_123 rfl rfl ?_
      refine WP.icmp_ne (n := 191) (n' := 127) dSHW_124 (by decide) (by decide) rfl (fun b68 => ?_) (fun b68 => ?_)
      · refine WP.new (n := 194) (ce' := 1) (sl' := 4) dSHW_191 (hw _ (List.mem_of_getElem? (i := 4) rfl)) (hw _ (List.mem_of_getElem? (i := 5) rfl)) (hw _ (List.mem_of_getElem? (i := 6) rfl)) rfl rfl (by decide) (by decide) rfl (fun a69 h69 g69 E69 A69 D69 S69 N69 r69 => ?_)
        refine WP.dup (n := 195) dSHW_194 rfl rfl ?_
        refine WP.bipush (n := 197) (z := (11 : Int32)) dSHW_195 (by decide) rfl ?_
        refine WP.newP (n := 199) (ce' := 2) (sl' := 15) (cap := 11) (ty := .char) dSHW_197 (hw _ (List.mem_of_getElem? (i := 7) rfl)) rfl (by decide) (by decide) (by decide) rfl rfl (by decide) (by decide) rfl (fun a70 h70 k70 g70 E70 V70 S70 N70 r70 => ?_)
        have V70_ : Arv Z h70 a70 k70 .char (11 : Int32) [.int 0, .int 0, .int 0, .int 0, .int 0, .int 0, .int 0, .int 0, .int 0, .int 0, .int 0] (.int 0) := V70.pad (pad_rep [] (.int 0) 11)
        have SA70 := r70.safe A69.lt S69
        have XA70 := A69.ext E70
        have XV70 := (D69 (Or.inr (hw _ (List.mem_of_getElem? (i := 20) rfl))) (ty := .array .byte) (by decide)).ext E70
        have XC70 := (D69 (Or.inr (hw _ (List.mem_of_getElem? (i := 21) rfl))) (ty := .byte) (by decide)).ext E70
        have XN70 : a69 ≠ a70 := Nat.ne_of_lt (Nat.lt_of_lt_of_le A69.lt (Nat.le_of_eq g70.symm))
        refine WP.dup (n := 200) dSHW_199 rfl rfl ?_
        refine WP.iconst (n := 201) (z := (0 : Int32)) dSHW_200 rfl rfl ?_
        refine WP.bipush (n := 203) (z := (114 : Int32)) dSHW_201 (by decide) rfl ?_
        refine WP.stC (n := 204) (i := 0) (y := (114 : Int32)) dSHW_203 V70_ (by decide) rfl (Nat.le_of_ble_eq_true rfl) (by decide) N70 S70 rfl (fun h71 W71 V71 r71 => ?_)
        have SS71 := r71.safe V70_.lt S70
        have SA71 := r71.safe XA70.lt SA70
        have XA71 := XA70.wr W71
        have XV71 := XV70.other W71 (Or.inl XN70)
        have XC71 := XC70.other W71 (Or.inl XN70)
        refine WP.dup (n := 205) dSHW_204 rfl rfl ?_
        refine WP.iconst (n := 206) (z := (1 : Int32)) dSHW_205 rfl rfl ?_
        refine WP.bipush (n := 208) (z := (101 : Int32)) dSHW_206 (by decide) rfl ?_
        refine WP.stC (n := 209) (i := 1) (y := (101 : Int32)) dSHW_208 V71 (by decide) rfl (Nat.le_of_ble_eq_true rfl) (by decide) N70 SS71 rfl (fun h72 W72 V72 r72 => ?_)
        have SS72 := r72.safe V71.lt SS71
        have SA72 := r72.safe XA71.lt SA71
        have XA72 := XA71.wr W72
        have XV72 := XV71.other W72 (Or.inl XN70)
        have XC72 := XC71.other W72 (Or.inl XN70)
        refine WP.dup (n := 210) dSHW_209 rfl rfl ?_
        refine WP.iconst (n := 211) (z := (2 : Int32)) dSHW_210 rfl rfl ?_
        refine WP.bipush (n := 213) (z := (106 : Int32)) dSHW_211 (by decide) rfl ?_
        refine WP.stC (n := 214) (i := 2) (y := (106 : Int32)) dSHW_213 V72 (by decide) rfl (Nat.le_of_ble_eq_true rfl) (by decide) N70 SS72 rfl (fun h73 W73 V73 r73 => ?_)
        have SS73 := r73.safe V72.lt SS72
        have SA73 := r73.safe XA72.lt SA72
        have XA73 := XA72.wr W73
        have XV73 := XV72.other W73 (Or.inl XN70)
        have XC73 := XC72.other W73 (Or.inl XN70)
        refine WP.dup (n := 215) dSHW_214 rfl rfl ?_
        refine WP.iconst (n := 216) (z := (3 : Int32)) dSHW_215 rfl rfl ?_
        refine WP.bipush (n := 218) (z := (101 : Int32)) dSHW_216 (by decide) rfl ?_
        refine WP.stC (n := 219) (i := 3) (y := (101 : Int32)) dSHW_218 V73 (by decide) rfl (Nat.le_of_ble_eq_true rfl) (by decide) N70 SS73 rfl (fun h74 W74 V74 r74 => ?_)
        have SS74 := r74.safe V73.lt SS73
        have SA74 := r74.safe XA73.lt SA73
        have XA74 := XA73.wr W74
        have XV74 := XV73.other W74 (Or.inl XN70)
        have XC74 := XC73.other W74 (Or.inl XN70)
        refine WP.dup (n := 220) dSHW_219 rfl rfl ?_
        refine WP.iconst (n := 221) (z := (4 : Int32)) dSHW_220 rfl rfl ?_
        refine WP.bipush (n := 223) (z := (99 : Int32)) dSHW_221 (by decide) rfl ?_
        refine WP.stC (n := 224) (i := 4) (y := (99 : Int32)) dSHW_223 V74 (by decide) rfl (Nat.le_of_ble_eq_true rfl) (by decide) N70 SS74 rfl (fun h75 W75 V75 r75 => ?_)
        have SS75 := r75.safe V74.lt SS74
        have SA75 := r75.safe XA74.lt SA74
        have XA75 := XA74.wr W75
        have XV75 := XV74.other W75 (Or.inl XN70)
        have XC75 := XC74.other W75 (Or.inl XN70)
        refine WP.dup (n := 225) dSHW_224 rfl rfl ?_
        refine WP.iconst (n := 226) (z := (5 : Int32)) dSHW_225 rfl rfl ?_
        refine WP.bipush (n := 228) (z := (116 : Int32)) dSHW_226 (by decide) rfl ?_
        refine WP.stC (n := 229) (i := 5) (y := (116 : Int32)) dSHW_228 V75 (by decide) rfl (Nat.le_of_ble_eq_true rfl) (by decide) N70 SS75 rfl (fun h76 W76 V76 r76 => ?_)
        have SS76 := r76.safe V75.lt SS75
        have SA76 := r76.safe XA75.lt SA75
        have XA76 := XA75.wr W76
        have XV76 := XV75.other W76 (Or.inl XN70)
        have XC76 := XC75.other W76 (Or.inl XN70)
        refine WP.dup (n := 230) dSHW_229 rfl rfl ?_
        refine WP.bipush (n := 232) (z := (6 : Int32)) dSHW_230 (by decide) rfl ?_
        refine WP.bipush (n := 234) (z := (58 : Int32)) dSHW_232 (by decide) rfl ?_
        refine WP.stC (n := 235) (i := 6) (y := (58 : Int32)) dSHW_234 V76 (by decide) rfl (Nat.le_of_ble_eq_true rfl) (by decide) N70 SS76 rfl (fun h77 W77 V77 r77 => ?_)
        have SS77 := r77.safe V76.lt SS76
        have SA77 := r77.safe XA76.lt SA76
        have XA77 := XA76.wr W77
        have XV77 := XV76.other W77 (Or.inl XN70)
        have XC77 := XC76.other W77 (Or.inl XN70)
        refine WP.dup (n := 236) dSHW_235 rfl rfl ?_
        refine WP.bipush (n := 238) (z := (7 : Int32)) dSHW_236 (by decide) rfl ?_
        refine WP.bipush (n := 240) (z := (32 : Int32)) dSHW_238 (by decide) rfl ?_
        refine WP.stC (n := 241) (i := 7) (y := (32 : Int32)) dSHW_240 V77 (by decide) rfl (Nat.le_of_ble_eq_true rfl) (by decide) N70 SS77 rfl (fun h78 W78 V78 r78 => ?_)
        have SS78 := r78.safe V77.lt SS77
        have SA78 := r78.safe XA77.lt SA77
        have XA78 := XA77.wr W78
        have XV78 := XV77.other W78 (Or.inl XN70)
        have XC78 := XC77.other W78 (Or.inl XN70)
        refine WP.dup (n := 242) dSHW_241 rfl rfl ?_
        refine WP.bipush (n := 244) (z := (8 : Int32)) dSHW_242 (by decide) rfl ?_
        refine WP.iloadN (n := 245) dSHW_244 rfl rfl ?_
        refine WP.stC (n := 246) (i := 8) (y := a) dSHW_245 V78 (by decide) rfl (Nat.le_of_ble_eq_true rfl) (own_c16 ha) N70 SS78 rfl (fun h79 W79 V79 r79 => ?_)
        have SS79 := r79.safe V78.lt SS78
        have SA79 := r79.safe XA78.lt SA78
        have XA79 := XA78.wr W79
        have XV79 := XV78.other W79 (Or.inl XN70)
        have XC79 := XC78.other W79 (Or.inl XN70)
        refine WP.dup (n := 247) dSHW_246 rfl rfl ?_
        refine WP.bipush (n := 249) (z := (9 : Int32)) dSHW_247 (by decide) rfl ?_
        refine WP.iloadN (n := 250) dSHW_249 rfl rfl ?_
        refine WP.stC (n := 251) (i := 9) (y := b) dSHW_250 V79 (by decide) rfl (Nat.le_of_ble_eq_true rfl) (own_c16 hb) N70 SS79 rfl (fun h80 W80 V80 r80 => ?_)
        have SS80 := r80.safe V79.lt SS79
        have SA80 := r80.safe XA79.lt SA79
        have XA80 := XA79.wr W80
        have XV80 := XV79.other W80 (Or.inl XN70)
        have XC80 := XC79.other W80 (Or.inl XN70)
        refine WP.dup (n := 252) dSHW_251 rfl rfl ?_
        refine WP.bipush (n := 254) (z := (10 : Int32)) dSHW_252 (by decide) rfl ?_
        refine WP.iloadN (n := 255) dSHW_254 rfl rfl ?_
        refine WP.stC (n := 256) (i := 10) (y := c) dSHW_255 V80 (by decide) rfl (Nat.le_of_ble_eq_true rfl) (own_c16 hc) N70 SS80 rfl (fun h81 W81 V81 r81 => ?_)
        have SS81 := r81.safe V80.lt SS80
        have SA81 := r81.safe XA80.lt SA80
        have XA81 := XA80.wr W81
        have XV81 := XV80.other W81 (Or.inl XN70)
        have XC81 := XC80.other W81 (Or.inl XN70)
        have hws : ∀ d ∈ StrChars.Road.words, d.before a0 Z = true := fun d hd => hw d ((by decide +kernel : ∀ d ∈ StrChars.Road.words, d ∈ tables_1) d hd)
        refine WP.inv fun hZ82 hE82 hC82 => ?_
        refine WP.backP (n := 259) (ce' := 3) (sl' := 26) (Wd := 1) (a := a69) (argsL := [(.ref a70)]) (rest := [(.ref a69)]) (Qy := StrChars.Road.QV Z a69 11 (([(114 : Int32), (101 : Int32), (106 : Int32), (101 : Int32), (99 : Int32), (116 : Int32), (58 : Int32), (32 : Int32), a, b, c] : List Int32).map (fun c => c.toInt8.toInt32)) h81 Z.heap.size)
          (fun p e below s args hz => StrChars.Road.backV (W := 1) hz hws (kI := 4) (hw _ (List.mem_of_getElem? (i := 5) rfl)) (cs := [(114 : Int32), (101 : Int32), (106 : Int32), (101 : Int32), (99 : Int32), (116 : Int32), (58 : Int32), (32 : Int32), a, b, c]) (n := 11) (n0 := Z.heap.size) N69 hE82.1 XA81 XV81 XC81 V81 (O.ext hE82) hO rfl rfl (by decide) (by decide) (own_rng_cons (by decide) (own_rng_cons (by decide) (own_rng_cons (by decide) (own_rng_cons (by decide) (own_rng_cons (by decide) (own_rng_cons (by decide) (own_rng_cons (by decide) (own_rng_cons (by decide) (own_rng_cons ha (own_rng_cons hb (own_rng_cons hc own_rng_nil))))))))))) rfl (by decide) (by decide))
          (fun v h' L hq => ⟨hq.2.1, ext_keep1 hE82 hq.2.2.1 N69, CHr.keep hq.2.2.1 (fun z hz => by cases List.mem_singleton.mp hz; exact SA81) hC82⟩)
          dSHW_256 rfl (hw _ (List.mem_of_getElem? (i := 8) rfl)) (hw _ (List.mem_of_getElem? (i := 9) rfl)) (hw _ (List.mem_of_getElem? (i := 10) rfl)) (by decide) rfl rfl (by decide) (by decide) rfl rfl (lenOf own_pd19 rfl) rfl (Nat.le_of_eq rfl) rfl (fun v82 h82 L82 q82 r82 => ?_)
        obtain ⟨rfl, -, K82, QA82, QC82, t82, kb82, -, -, -, QV82, QB82⟩ := q82
        have F82 : Str Z h82 a69 [(114 : Int32).toInt8.toInt32, (101 : Int32).toInt8.toInt32, (106 : Int32).toInt8.toInt32, (101 : Int32).toInt8.toInt32, (99 : Int32).toInt8.toInt32, (116 : Int32).toInt8.toInt32, (58 : Int32).toInt8.toInt32, (32 : Int32).toInt8.toInt32, a.toInt8.toInt32, b.toInt8.toInt32, c.toInt8.toInt32] := ⟨QA82, QC82, t82, kb82, 11, QV82, QB82, rfl⟩
        have E82 := ext_keep1 (ext_wr (ext_wr (ext_wr (ext_wr (ext_wr (ext_wr (ext_wr (ext_wr (ext_wr (ext_wr (ext_wr (ext_trans E69 E70) W71 (Nat.le_trans E69.1 (Nat.le_of_eq g70.symm))) W72 (Nat.le_trans E69.1 (Nat.le_of_eq g70.symm))) W73 (Nat.le_trans E69.1 (Nat.le_of_eq g70.symm))) W74 (Nat.le_trans E69.1 (Nat.le_of_eq g70.symm))) W75 (Nat.le_trans E69.1 (Nat.le_of_eq g70.symm))) W76 (Nat.le_trans E69.1 (Nat.le_of_eq g70.symm))) W77 (Nat.le_trans E69.1 (Nat.le_of_eq g70.symm))) W78 (Nat.le_trans E69.1 (Nat.le_of_eq g70.symm))) W79 (Nat.le_trans E69.1 (Nat.le_of_eq g70.symm))) W80 (Nat.le_trans E69.1 (Nat.le_of_eq g70.symm))) W81 (Nat.le_trans E69.1 (Nat.le_of_eq g70.symm))) K82 (Nat.le_of_eq g69.symm)
        exact WP.retA dSHW_259 rfl rfl rfl rfl (by decide) (by decide) ⟨a69, rfl, by unfold own_tx; rw [if_neg b66, if_neg b67, if_neg b68]; exact F82, E82⟩
      · refine WP.new (n := 130) (ce' := 1) (sl' := 4) dSHW_127 (hw _ (List.mem_of_getElem? (i := 4) rfl)) (hw _ (List.mem_of_getElem? (i := 5) rfl)) (hw _ (List.mem_of_getElem? (i := 6) rfl)) rfl rfl (by decide) (by decide) rfl (fun a83 h83 g83 E83 A83 D83 S83 N83 r83 => ?_)
        refine WP.dup (n := 131) dSHW_130 rfl rfl ?_
        refine WP.bipush (n := 133) (z := (10 : Int32)) dSHW_131 (by decide) rfl ?_
        refine WP.newP (n := 135) (ce' := 2) (sl' := 14) (cap := 10) (ty := .char) dSHW_133 (hw _ (List.mem_of_getElem? (i := 7) rfl)) rfl (by decide) (by decide) (by decide) rfl rfl (by decide) (by decide) rfl (fun a84 h84 k84 g84 E84 V84 S84 N84 r84 => ?_)
        have V84_ : Arv Z h84 a84 k84 .char (10 : Int32) [.int 0, .int 0, .int 0, .int 0, .int 0, .int 0, .int 0, .int 0, .int 0, .int 0] (.int 0) := V84.pad (pad_rep [] (.int 0) 10)
        have SA84 := r84.safe A83.lt S83
        have XA84 := A83.ext E84
        have XV84 := (D83 (Or.inr (hw _ (List.mem_of_getElem? (i := 20) rfl))) (ty := .array .byte) (by decide)).ext E84
        have XC84 := (D83 (Or.inr (hw _ (List.mem_of_getElem? (i := 21) rfl))) (ty := .byte) (by decide)).ext E84
        have XN84 : a83 ≠ a84 := Nat.ne_of_lt (Nat.lt_of_lt_of_le A83.lt (Nat.le_of_eq g84.symm))
        refine WP.dup (n := 136) dSHW_135 rfl rfl ?_
        refine WP.iconst (n := 137) (z := (0 : Int32)) dSHW_136 rfl rfl ?_
        refine WP.bipush (n := 139) (z := (114 : Int32)) dSHW_137 (by decide) rfl ?_
        refine WP.stC (n := 140) (i := 0) (y := (114 : Int32)) dSHW_139 V84_ (by decide) rfl (Nat.le_of_ble_eq_true rfl) (by decide) N84 S84 rfl (fun h85 W85 V85 r85 => ?_)
        have SS85 := r85.safe V84_.lt S84
        have SA85 := r85.safe XA84.lt SA84
        have XA85 := XA84.wr W85
        have XV85 := XV84.other W85 (Or.inl XN84)
        have XC85 := XC84.other W85 (Or.inl XN84)
        refine WP.dup (n := 141) dSHW_140 rfl rfl ?_
        refine WP.iconst (n := 142) (z := (1 : Int32)) dSHW_141 rfl rfl ?_
        refine WP.bipush (n := 144) (z := (101 : Int32)) dSHW_142 (by decide) rfl ?_
        refine WP.stC (n := 145) (i := 1) (y := (101 : Int32)) dSHW_144 V85 (by decide) rfl (Nat.le_of_ble_eq_true rfl) (by decide) N84 SS85 rfl (fun h86 W86 V86 r86 => ?_)
        have SS86 := r86.safe V85.lt SS85
        have SA86 := r86.safe XA85.lt SA85
        have XA86 := XA85.wr W86
        have XV86 := XV85.other W86 (Or.inl XN84)
        have XC86 := XC85.other W86 (Or.inl XN84)
        refine WP.dup (n := 146) dSHW_145 rfl rfl ?_
        refine WP.iconst (n := 147) (z := (2 : Int32)) dSHW_146 rfl rfl ?_
        refine WP.bipush (n := 149) (z := (106 : Int32)) dSHW_147 (by decide) rfl ?_
        refine WP.stC (n := 150) (i := 2) (y := (106 : Int32)) dSHW_149 V86 (by decide) rfl (Nat.le_of_ble_eq_true rfl) (by decide) N84 SS86 rfl (fun h87 W87 V87 r87 => ?_)
        have SS87 := r87.safe V86.lt SS86
        have SA87 := r87.safe XA86.lt SA86
        have XA87 := XA86.wr W87
        have XV87 := XV86.other W87 (Or.inl XN84)
        have XC87 := XC86.other W87 (Or.inl XN84)
        refine WP.dup (n := 151) dSHW_150 rfl rfl ?_
        refine WP.iconst (n := 152) (z := (3 : Int32)) dSHW_151 rfl rfl ?_
        refine WP.bipush (n := 154) (z := (101 : Int32)) dSHW_152 (by decide) rfl ?_
        refine WP.stC (n := 155) (i := 3) (y := (101 : Int32)) dSHW_154 V87 (by decide) rfl (Nat.le_of_ble_eq_true rfl) (by decide) N84 SS87 rfl (fun h88 W88 V88 r88 => ?_)
        have SS88 := r88.safe V87.lt SS87
        have SA88 := r88.safe XA87.lt SA87
        have XA88 := XA87.wr W88
        have XV88 := XV87.other W88 (Or.inl XN84)
        have XC88 := XC87.other W88 (Or.inl XN84)
        refine WP.dup (n := 156) dSHW_155 rfl rfl ?_
        refine WP.iconst (n := 157) (z := (4 : Int32)) dSHW_156 rfl rfl ?_
        refine WP.bipush (n := 159) (z := (99 : Int32)) dSHW_157 (by decide) rfl ?_
        refine WP.stC (n := 160) (i := 4) (y := (99 : Int32)) dSHW_159 V88 (by decide) rfl (Nat.le_of_ble_eq_true rfl) (by decide) N84 SS88 rfl (fun h89 W89 V89 r89 => ?_)
        have SS89 := r89.safe V88.lt SS88
        have SA89 := r89.safe XA88.lt SA88
        have XA89 := XA88.wr W89
        have XV89 := XV88.other W89 (Or.inl XN84)
        have XC89 := XC88.other W89 (Or.inl XN84)
        refine WP.dup (n := 161) dSHW_160 rfl rfl ?_
        refine WP.iconst (n := 162) (z := (5 : Int32)) dSHW_161 rfl rfl ?_
        refine WP.bipush (n := 164) (z := (116 : Int32)) dSHW_162 (by decide) rfl ?_
        refine WP.stC (n := 165) (i := 5) (y := (116 : Int32)) dSHW_164 V89 (by decide) rfl (Nat.le_of_ble_eq_true rfl) (by decide) N84 SS89 rfl (fun h90 W90 V90 r90 => ?_)
        have SS90 := r90.safe V89.lt SS89
        have SA90 := r90.safe XA89.lt SA89
        have XA90 := XA89.wr W90
        have XV90 := XV89.other W90 (Or.inl XN84)
        have XC90 := XC89.other W90 (Or.inl XN84)
        refine WP.dup (n := 166) dSHW_165 rfl rfl ?_
        refine WP.bipush (n := 168) (z := (6 : Int32)) dSHW_166 (by decide) rfl ?_
        refine WP.bipush (n := 170) (z := (58 : Int32)) dSHW_168 (by decide) rfl ?_
        refine WP.stC (n := 171) (i := 6) (y := (58 : Int32)) dSHW_170 V90 (by decide) rfl (Nat.le_of_ble_eq_true rfl) (by decide) N84 SS90 rfl (fun h91 W91 V91 r91 => ?_)
        have SS91 := r91.safe V90.lt SS90
        have SA91 := r91.safe XA90.lt SA90
        have XA91 := XA90.wr W91
        have XV91 := XV90.other W91 (Or.inl XN84)
        have XC91 := XC90.other W91 (Or.inl XN84)
        refine WP.dup (n := 172) dSHW_171 rfl rfl ?_
        refine WP.bipush (n := 174) (z := (7 : Int32)) dSHW_172 (by decide) rfl ?_
        refine WP.bipush (n := 176) (z := (32 : Int32)) dSHW_174 (by decide) rfl ?_
        refine WP.stC (n := 177) (i := 7) (y := (32 : Int32)) dSHW_176 V91 (by decide) rfl (Nat.le_of_ble_eq_true rfl) (by decide) N84 SS91 rfl (fun h92 W92 V92 r92 => ?_)
        have SS92 := r92.safe V91.lt SS91
        have SA92 := r92.safe XA91.lt SA91
        have XA92 := XA91.wr W92
        have XV92 := XV91.other W92 (Or.inl XN84)
        have XC92 := XC91.other W92 (Or.inl XN84)
        refine WP.dup (n := 178) dSHW_177 rfl rfl ?_
        refine WP.bipush (n := 180) (z := (8 : Int32)) dSHW_178 (by decide) rfl ?_
        refine WP.iloadN (n := 181) dSHW_180 rfl rfl ?_
        refine WP.stC (n := 182) (i := 8) (y := a) dSHW_181 V92 (by decide) rfl (Nat.le_of_ble_eq_true rfl) (own_c16 ha) N84 SS92 rfl (fun h93 W93 V93 r93 => ?_)
        have SS93 := r93.safe V92.lt SS92
        have SA93 := r93.safe XA92.lt SA92
        have XA93 := XA92.wr W93
        have XV93 := XV92.other W93 (Or.inl XN84)
        have XC93 := XC92.other W93 (Or.inl XN84)
        refine WP.dup (n := 183) dSHW_182 rfl rfl ?_
        refine WP.bipush (n := 185) (z := (9 : Int32)) dSHW_183 (by decide) rfl ?_
        refine WP.iloadN (n := 186) dSHW_185 rfl rfl ?_
        refine WP.stC (n := 187) (i := 9) (y := b) dSHW_186 V93 (by decide) rfl (Nat.le_of_ble_eq_true rfl) (own_c16 hb) N84 SS93 rfl (fun h94 W94 V94 r94 => ?_)
        have SS94 := r94.safe V93.lt SS93
        have SA94 := r94.safe XA93.lt SA93
        have XA94 := XA93.wr W94
        have XV94 := XV93.other W94 (Or.inl XN84)
        have XC94 := XC93.other W94 (Or.inl XN84)
        have hws : ∀ d ∈ StrChars.Road.words, d.before a0 Z = true := fun d hd => hw d ((by decide +kernel : ∀ d ∈ StrChars.Road.words, d ∈ tables_1) d hd)
        refine WP.inv fun hZ95 hE95 hC95 => ?_
        refine WP.backP (n := 190) (ce' := 3) (sl' := 24) (Wd := 1) (a := a83) (argsL := [(.ref a84)]) (rest := [(.ref a83)]) (Qy := StrChars.Road.QV Z a83 10 (([(114 : Int32), (101 : Int32), (106 : Int32), (101 : Int32), (99 : Int32), (116 : Int32), (58 : Int32), (32 : Int32), a, b] : List Int32).map (fun c => c.toInt8.toInt32)) h94 Z.heap.size)
          (fun p e below s args hz => StrChars.Road.backV (W := 1) hz hws (kI := 4) (hw _ (List.mem_of_getElem? (i := 5) rfl)) (cs := [(114 : Int32), (101 : Int32), (106 : Int32), (101 : Int32), (99 : Int32), (116 : Int32), (58 : Int32), (32 : Int32), a, b]) (n := 10) (n0 := Z.heap.size) N83 hE95.1 XA94 XV94 XC94 V94 (O.ext hE95) hO rfl rfl (by decide) (by decide) (own_rng_cons (by decide) (own_rng_cons (by decide) (own_rng_cons (by decide) (own_rng_cons (by decide) (own_rng_cons (by decide) (own_rng_cons (by decide) (own_rng_cons (by decide) (own_rng_cons (by decide) (own_rng_cons ha (own_rng_cons hb own_rng_nil)))))))))) rfl (by decide) (by decide))
          (fun v h' L hq => ⟨hq.2.1, ext_keep1 hE95 hq.2.2.1 N83, CHr.keep hq.2.2.1 (fun z hz => by cases List.mem_singleton.mp hz; exact SA94) hC95⟩)
          dSHW_187 rfl (hw _ (List.mem_of_getElem? (i := 8) rfl)) (hw _ (List.mem_of_getElem? (i := 9) rfl)) (hw _ (List.mem_of_getElem? (i := 10) rfl)) (by decide) rfl rfl (by decide) (by decide) rfl rfl (lenOf own_pd19 rfl) rfl (Nat.le_of_eq rfl) rfl (fun v95 h95 L95 q95 r95 => ?_)
        obtain ⟨rfl, -, K95, QA95, QC95, t95, kb95, -, -, -, QV95, QB95⟩ := q95
        have F95 : Str Z h95 a83 [(114 : Int32).toInt8.toInt32, (101 : Int32).toInt8.toInt32, (106 : Int32).toInt8.toInt32, (101 : Int32).toInt8.toInt32, (99 : Int32).toInt8.toInt32, (116 : Int32).toInt8.toInt32, (58 : Int32).toInt8.toInt32, (32 : Int32).toInt8.toInt32, a.toInt8.toInt32, b.toInt8.toInt32] := ⟨QA95, QC95, t95, kb95, 10, QV95, QB95, rfl⟩
        have E95 := ext_keep1 (ext_wr (ext_wr (ext_wr (ext_wr (ext_wr (ext_wr (ext_wr (ext_wr (ext_wr (ext_wr (ext_trans E83 E84) W85 (Nat.le_trans E83.1 (Nat.le_of_eq g84.symm))) W86 (Nat.le_trans E83.1 (Nat.le_of_eq g84.symm))) W87 (Nat.le_trans E83.1 (Nat.le_of_eq g84.symm))) W88 (Nat.le_trans E83.1 (Nat.le_of_eq g84.symm))) W89 (Nat.le_trans E83.1 (Nat.le_of_eq g84.symm))) W90 (Nat.le_trans E83.1 (Nat.le_of_eq g84.symm))) W91 (Nat.le_trans E83.1 (Nat.le_of_eq g84.symm))) W92 (Nat.le_trans E83.1 (Nat.le_of_eq g84.symm))) W93 (Nat.le_trans E83.1 (Nat.le_of_eq g84.symm))) W94 (Nat.le_trans E83.1 (Nat.le_of_eq g84.symm))) K95 (Nat.le_of_eq g83.symm)
        exact WP.retA dSHW_190 rfl rfl rfl rfl (by decide) (by decide) ⟨a83, rfl, by unfold own_tx; rw [if_neg b66, if_neg b67, if_pos b68]; exact F95, E95⟩
    · refine WP.new (n := 66) (ce' := 1) (sl' := 4) dSHW_63 (hw _ (List.mem_of_getElem? (i := 4) rfl)) (hw _ (List.mem_of_getElem? (i := 5) rfl)) (hw _ (List.mem_of_getElem? (i := 6) rfl)) rfl rfl (by decide) (by decide) rfl (fun a96 h96 g96 E96 A96 D96 S96 N96 r96 => ?_)
      refine WP.dup (n := 67) dSHW_66 rfl rfl ?_
      refine WP.bipush (n := 69) (z := (9 : Int32)) dSHW_67 (by decide) rfl ?_
      refine WP.newP (n := 71) (ce' := 2) (sl' := 13) (cap := 9) (ty := .char) dSHW_69 (hw _ (List.mem_of_getElem? (i := 7) rfl)) rfl (by decide) (by decide) (by decide) rfl rfl (by decide) (by decide) rfl (fun a97 h97 k97 g97 E97 V97 S97 N97 r97 => ?_)
      have V97_ : Arv Z h97 a97 k97 .char (9 : Int32) [.int 0, .int 0, .int 0, .int 0, .int 0, .int 0, .int 0, .int 0, .int 0] (.int 0) := V97.pad (pad_rep [] (.int 0) 9)
      have SA97 := r97.safe A96.lt S96
      have XA97 := A96.ext E97
      have XV97 := (D96 (Or.inr (hw _ (List.mem_of_getElem? (i := 20) rfl))) (ty := .array .byte) (by decide)).ext E97
      have XC97 := (D96 (Or.inr (hw _ (List.mem_of_getElem? (i := 21) rfl))) (ty := .byte) (by decide)).ext E97
      have XN97 : a96 ≠ a97 := Nat.ne_of_lt (Nat.lt_of_lt_of_le A96.lt (Nat.le_of_eq g97.symm))
      refine WP.dup (n := 72) dSHW_71 rfl rfl ?_
      refine WP.iconst (n := 73) (z := (0 : Int32)) dSHW_72 rfl rfl ?_
      refine WP.bipush (n := 75) (z := (114 : Int32)) dSHW_73 (by decide) rfl ?_
      refine WP.stC (n := 76) (i := 0) (y := (114 : Int32)) dSHW_75 V97_ (by decide) rfl (Nat.le_of_ble_eq_true rfl) (by decide) N97 S97 rfl (fun h98 W98 V98 r98 => ?_)
      have SS98 := r98.safe V97_.lt S97
      have SA98 := r98.safe XA97.lt SA97
      have XA98 := XA97.wr W98
      have XV98 := XV97.other W98 (Or.inl XN97)
      have XC98 := XC97.other W98 (Or.inl XN97)
      refine WP.dup (n := 77) dSHW_76 rfl rfl ?_
      refine WP.iconst (n := 78) (z := (1 : Int32)) dSHW_77 rfl rfl ?_
      refine WP.bipush (n := 80) (z := (101 : Int32)) dSHW_78 (by decide) rfl ?_
      refine WP.stC (n := 81) (i := 1) (y := (101 : Int32)) dSHW_80 V98 (by decide) rfl (Nat.le_of_ble_eq_true rfl) (by decide) N97 SS98 rfl (fun h99 W99 V99 r99 => ?_)
      have SS99 := r99.safe V98.lt SS98
      have SA99 := r99.safe XA98.lt SA98
      have XA99 := XA98.wr W99
      have XV99 := XV98.other W99 (Or.inl XN97)
      have XC99 := XC98.other W99 (Or.inl XN97)
      refine WP.dup (n := 82) dSHW_81 rfl rfl ?_
      refine WP.iconst (n := 83) (z := (2 : Int32)) dSHW_82 rfl rfl ?_
      refine WP.bipush (n := 85) (z := (106 : Int32)) dSHW_83 (by decide) rfl ?_
      refine WP.stC (n := 86) (i := 2) (y := (106 : Int32)) dSHW_85 V99 (by decide) rfl (Nat.le_of_ble_eq_true rfl) (by decide) N97 SS99 rfl (fun h100 W100 V100 r100 => ?_)
      have SS100 := r100.safe V99.lt SS99
      have SA100 := r100.safe XA99.lt SA99
      have XA100 := XA99.wr W100
      have XV100 := XV99.other W100 (Or.inl XN97)
      have XC100 := XC99.other W100 (Or.inl XN97)
      refine WP.dup (n := 87) dSHW_86 rfl rfl ?_
      refine WP.iconst (n := 88) (z := (3 : Int32)) dSHW_87 rfl rfl ?_
      refine WP.bipush (n := 90) (z := (101 : Int32)) dSHW_88 (by decide) rfl ?_
      refine WP.stC (n := 91) (i := 3) (y := (101 : Int32)) dSHW_90 V100 (by decide) rfl (Nat.le_of_ble_eq_true rfl) (by decide) N97 SS100 rfl (fun h101 W101 V101 r101 => ?_)
      have SS101 := r101.safe V100.lt SS100
      have SA101 := r101.safe XA100.lt SA100
      have XA101 := XA100.wr W101
      have XV101 := XV100.other W101 (Or.inl XN97)
      have XC101 := XC100.other W101 (Or.inl XN97)
      refine WP.dup (n := 92) dSHW_91 rfl rfl ?_
      refine WP.iconst (n := 93) (z := (4 : Int32)) dSHW_92 rfl rfl ?_
      refine WP.bipush (n := 95) (z := (99 : Int32)) dSHW_93 (by decide) rfl ?_
      refine WP.stC (n := 96) (i := 4) (y := (99 : Int32)) dSHW_95 V101 (by decide) rfl (Nat.le_of_ble_eq_true rfl) (by decide) N97 SS101 rfl (fun h102 W102 V102 r102 => ?_)
      have SS102 := r102.safe V101.lt SS101
      have SA102 := r102.safe XA101.lt SA101
      have XA102 := XA101.wr W102
      have XV102 := XV101.other W102 (Or.inl XN97)
      have XC102 := XC101.other W102 (Or.inl XN97)
      refine WP.dup (n := 97) dSHW_96 rfl rfl ?_
      refine WP.iconst (n := 98) (z := (5 : Int32)) dSHW_97 rfl rfl ?_
      refine WP.bipush (n := 100) (z := (116 : Int32)) dSHW_98 (by decide) rfl ?_
      refine WP.stC (n := 101) (i := 5) (y := (116 : Int32)) dSHW_100 V102 (by decide) rfl (Nat.le_of_ble_eq_true rfl) (by decide) N97 SS102 rfl (fun h103 W103 V103 r103 => ?_)
      have SS103 := r103.safe V102.lt SS102
      have SA103 := r103.safe XA102.lt SA102
      have XA103 := XA102.wr W103
      have XV103 := XV102.other W103 (Or.inl XN97)
      have XC103 := XC102.other W103 (Or.inl XN97)
      refine WP.dup (n := 102) dSHW_101 rfl rfl ?_
      refine WP.bipush (n := 104) (z := (6 : Int32)) dSHW_102 (by decide) rfl ?_
      refine WP.bipush (n := 106) (z := (58 : Int32)) dSHW_104 (by decide) rfl ?_
      refine WP.stC (n := 107) (i := 6) (y := (58 : Int32)) dSHW_106 V103 (by decide) rfl (Nat.le_of_ble_eq_true rfl) (by decide) N97 SS103 rfl (fun h104 W104 V104 r104 => ?_)
      have SS104 := r104.safe V103.lt SS103
      have SA104 := r104.safe XA103.lt SA103
      have XA104 := XA103.wr W104
      have XV104 := XV103.other W104 (Or.inl XN97)
      have XC104 := XC103.other W104 (Or.inl XN97)
      refine WP.dup (n := 108) dSHW_107 rfl rfl ?_
      refine WP.bipush (n := 110) (z := (7 : Int32)) dSHW_108 (by decide) rfl ?_
      refine WP.bipush (n := 112) (z := (32 : Int32)) dSHW_110 (by decide) rfl ?_
      refine WP.stC (n := 113) (i := 7) (y := (32 : Int32)) dSHW_112 V104 (by decide) rfl (Nat.le_of_ble_eq_true rfl) (by decide) N97 SS104 rfl (fun h105 W105 V105 r105 => ?_)
      have SS105 := r105.safe V104.lt SS104
      have SA105 := r105.safe XA104.lt SA104
      have XA105 := XA104.wr W105
      have XV105 := XV104.other W105 (Or.inl XN97)
      have XC105 := XC104.other W105 (Or.inl XN97)
      refine WP.dup (n := 114) dSHW_113 rfl rfl ?_
      refine WP.bipush (n := 116) (z := (8 : Int32)) dSHW_114 (by decide) rfl ?_
      refine WP.iloadN (n := 117) dSHW_116 rfl rfl ?_
      refine WP.stC (n := 118) (i := 8) (y := a) dSHW_117 V105 (by decide) rfl (Nat.le_of_ble_eq_true rfl) (own_c16 ha) N97 SS105 rfl (fun h106 W106 V106 r106 => ?_)
      have SS106 := r106.safe V105.lt SS105
      have SA106 := r106.safe XA105.lt SA105
      have XA106 := XA105.wr W106
      have XV106 := XV105.other W106 (Or.inl XN97)
      have XC106 := XC105.other W106 (Or.inl XN97)
      have hws : ∀ d ∈ StrChars.Road.words, d.before a0 Z = true := fun d hd => hw d ((by decide +kernel : ∀ d ∈ StrChars.Road.words, d ∈ tables_1) d hd)
      refine WP.inv fun hZ107 hE107 hC107 => ?_
      refine WP.backP (n := 121) (ce' := 3) (sl' := 22) (Wd := 1) (a := a96) (argsL := [(.ref a97)]) (rest := [(.ref a96)]) (Qy := StrChars.Road.QV Z a96 9 (([(114 : Int32), (101 : Int32), (106 : Int32), (101 : Int32), (99 : Int32), (116 : Int32), (58 : Int32), (32 : Int32), a] : List Int32).map (fun c => c.toInt8.toInt32)) h106 Z.heap.size)
        (fun p e below s args hz => StrChars.Road.backV (W := 1) hz hws (kI := 4) (hw _ (List.mem_of_getElem? (i := 5) rfl)) (cs := [(114 : Int32), (101 : Int32), (106 : Int32), (101 : Int32), (99 : Int32), (116 : Int32), (58 : Int32), (32 : Int32), a]) (n := 9) (n0 := Z.heap.size) N96 hE107.1 XA106 XV106 XC106 V106 (O.ext hE107) hO rfl rfl (by decide) (by decide) (own_rng_cons (by decide) (own_rng_cons (by decide) (own_rng_cons (by decide) (own_rng_cons (by decide) (own_rng_cons (by decide) (own_rng_cons (by decide) (own_rng_cons (by decide) (own_rng_cons (by decide) (own_rng_cons ha own_rng_nil))))))))) rfl (by decide) (by decide))
        (fun v h' L hq => ⟨hq.2.1, ext_keep1 hE107 hq.2.2.1 N96, CHr.keep hq.2.2.1 (fun z hz => by cases List.mem_singleton.mp hz; exact SA106) hC107⟩)
        dSHW_118 rfl (hw _ (List.mem_of_getElem? (i := 8) rfl)) (hw _ (List.mem_of_getElem? (i := 9) rfl)) (hw _ (List.mem_of_getElem? (i := 10) rfl)) (by decide) rfl rfl (by decide) (by decide) rfl rfl (lenOf own_pd19 rfl) rfl (Nat.le_of_eq rfl) rfl (fun v107 h107 L107 q107 r107 => ?_)
      obtain ⟨rfl, -, K107, QA107, QC107, t107, kb107, -, -, -, QV107, QB107⟩ := q107
      have F107 : Str Z h107 a96 [(114 : Int32).toInt8.toInt32, (101 : Int32).toInt8.toInt32, (106 : Int32).toInt8.toInt32, (101 : Int32).toInt8.toInt32, (99 : Int32).toInt8.toInt32, (116 : Int32).toInt8.toInt32, (58 : Int32).toInt8.toInt32, (32 : Int32).toInt8.toInt32, a.toInt8.toInt32] := ⟨QA107, QC107, t107, kb107, 9, QV107, QB107, rfl⟩
      have E107 := ext_keep1 (ext_wr (ext_wr (ext_wr (ext_wr (ext_wr (ext_wr (ext_wr (ext_wr (ext_wr (ext_trans E96 E97) W98 (Nat.le_trans E96.1 (Nat.le_of_eq g97.symm))) W99 (Nat.le_trans E96.1 (Nat.le_of_eq g97.symm))) W100 (Nat.le_trans E96.1 (Nat.le_of_eq g97.symm))) W101 (Nat.le_trans E96.1 (Nat.le_of_eq g97.symm))) W102 (Nat.le_trans E96.1 (Nat.le_of_eq g97.symm))) W103 (Nat.le_trans E96.1 (Nat.le_of_eq g97.symm))) W104 (Nat.le_trans E96.1 (Nat.le_of_eq g97.symm))) W105 (Nat.le_trans E96.1 (Nat.le_of_eq g97.symm))) W106 (Nat.le_trans E96.1 (Nat.le_of_eq g97.symm))) K107 (Nat.le_of_eq g96.symm)
      exact WP.retA dSHW_121 rfl rfl rfl rfl (by decide) (by decide) ⟨a96, rfl, by unfold own_tx; rw [if_neg b66, if_pos b67]; exact F107, E107⟩
  · refine WP.new (n := 7) (ce' := 1) (sl' := 4) dSHW_4 (hw _ (List.mem_of_getElem? (i := 4) rfl)) (hw _ (List.mem_of_getElem? (i := 5) rfl)) (hw _ (List.mem_of_getElem? (i := 6) rfl)) rfl rfl (by decide) (by decide) rfl (fun a108 h108 g108 E108 A108 D108 S108 N108 r108 => ?_)
    refine WP.dup (n := 8) dSHW_7 rfl rfl ?_
    refine WP.bipush (n := 10) (z := (8 : Int32)) dSHW_8 (by decide) rfl ?_
    refine WP.newP (n := 12) (ce' := 2) (sl' := 12) (cap := 8) (ty := .char) dSHW_10 (hw _ (List.mem_of_getElem? (i := 7) rfl)) rfl (by decide) (by decide) (by decide) rfl rfl (by decide) (by decide) rfl (fun a109 h109 k109 g109 E109 V109 S109 N109 r109 => ?_)
    have V109_ : Arv Z h109 a109 k109 .char (8 : Int32) [.int 0, .int 0, .int 0, .int 0, .int 0, .int 0, .int 0, .int 0] (.int 0) := V109.pad (pad_rep [] (.int 0) 8)
    have SA109 := r109.safe A108.lt S108
    have XA109 := A108.ext E109
    have XV109 := (D108 (Or.inr (hw _ (List.mem_of_getElem? (i := 20) rfl))) (ty := .array .byte) (by decide)).ext E109
    have XC109 := (D108 (Or.inr (hw _ (List.mem_of_getElem? (i := 21) rfl))) (ty := .byte) (by decide)).ext E109
    have XN109 : a108 ≠ a109 := Nat.ne_of_lt (Nat.lt_of_lt_of_le A108.lt (Nat.le_of_eq g109.symm))
    refine WP.dup (n := 13) dSHW_12 rfl rfl ?_
    refine WP.iconst (n := 14) (z := (0 : Int32)) dSHW_13 rfl rfl ?_
    refine WP.bipush (n := 16) (z := (114 : Int32)) dSHW_14 (by decide) rfl ?_
    refine WP.stC (n := 17) (i := 0) (y := (114 : Int32)) dSHW_16 V109_ (by decide) rfl (Nat.le_of_ble_eq_true rfl) (by decide) N109 S109 rfl (fun h110 W110 V110 r110 => ?_)
    have SS110 := r110.safe V109_.lt S109
    have SA110 := r110.safe XA109.lt SA109
    have XA110 := XA109.wr W110
    have XV110 := XV109.other W110 (Or.inl XN109)
    have XC110 := XC109.other W110 (Or.inl XN109)
    refine WP.dup (n := 18) dSHW_17 rfl rfl ?_
    refine WP.iconst (n := 19) (z := (1 : Int32)) dSHW_18 rfl rfl ?_
    refine WP.bipush (n := 21) (z := (101 : Int32)) dSHW_19 (by decide) rfl ?_
    refine WP.stC (n := 22) (i := 1) (y := (101 : Int32)) dSHW_21 V110 (by decide) rfl (Nat.le_of_ble_eq_true rfl) (by decide) N109 SS110 rfl (fun h111 W111 V111 r111 => ?_)
    have SS111 := r111.safe V110.lt SS110
    have SA111 := r111.safe XA110.lt SA110
    have XA111 := XA110.wr W111
    have XV111 := XV110.other W111 (Or.inl XN109)
    have XC111 := XC110.other W111 (Or.inl XN109)
    refine WP.dup (n := 23) dSHW_22 rfl rfl ?_
    refine WP.iconst (n := 24) (z := (2 : Int32)) dSHW_23 rfl rfl ?_
    refine WP.bipush (n := 26) (z := (106 : Int32)) dSHW_24 (by decide) rfl ?_
    refine WP.stC (n := 27) (i := 2) (y := (106 : Int32)) dSHW_26 V111 (by decide) rfl (Nat.le_of_ble_eq_true rfl) (by decide) N109 SS111 rfl (fun h112 W112 V112 r112 => ?_)
    have SS112 := r112.safe V111.lt SS111
    have SA112 := r112.safe XA111.lt SA111
    have XA112 := XA111.wr W112
    have XV112 := XV111.other W112 (Or.inl XN109)
    have XC112 := XC111.other W112 (Or.inl XN109)
    refine WP.dup (n := 28) dSHW_27 rfl rfl ?_
    refine WP.iconst (n := 29) (z := (3 : Int32)) dSHW_28 rfl rfl ?_
    refine WP.bipush (n := 31) (z := (101 : Int32)) dSHW_29 (by decide) rfl ?_
    refine WP.stC (n := 32) (i := 3) (y := (101 : Int32)) dSHW_31 V112 (by decide) rfl (Nat.le_of_ble_eq_true rfl) (by decide) N109 SS112 rfl (fun h113 W113 V113 r113 => ?_)
    have SS113 := r113.safe V112.lt SS112
    have SA113 := r113.safe XA112.lt SA112
    have XA113 := XA112.wr W113
    have XV113 := XV112.other W113 (Or.inl XN109)
    have XC113 := XC112.other W113 (Or.inl XN109)
    refine WP.dup (n := 33) dSHW_32 rfl rfl ?_
    refine WP.iconst (n := 34) (z := (4 : Int32)) dSHW_33 rfl rfl ?_
    refine WP.bipush (n := 36) (z := (99 : Int32)) dSHW_34 (by decide) rfl ?_
    refine WP.stC (n := 37) (i := 4) (y := (99 : Int32)) dSHW_36 V113 (by decide) rfl (Nat.le_of_ble_eq_true rfl) (by decide) N109 SS113 rfl (fun h114 W114 V114 r114 => ?_)
    have SS114 := r114.safe V113.lt SS113
    have SA114 := r114.safe XA113.lt SA113
    have XA114 := XA113.wr W114
    have XV114 := XV113.other W114 (Or.inl XN109)
    have XC114 := XC113.other W114 (Or.inl XN109)
    refine WP.dup (n := 38) dSHW_37 rfl rfl ?_
    refine WP.iconst (n := 39) (z := (5 : Int32)) dSHW_38 rfl rfl ?_
    refine WP.bipush (n := 41) (z := (116 : Int32)) dSHW_39 (by decide) rfl ?_
    refine WP.stC (n := 42) (i := 5) (y := (116 : Int32)) dSHW_41 V114 (by decide) rfl (Nat.le_of_ble_eq_true rfl) (by decide) N109 SS114 rfl (fun h115 W115 V115 r115 => ?_)
    have SS115 := r115.safe V114.lt SS114
    have SA115 := r115.safe XA114.lt SA114
    have XA115 := XA114.wr W115
    have XV115 := XV114.other W115 (Or.inl XN109)
    have XC115 := XC114.other W115 (Or.inl XN109)
    refine WP.dup (n := 43) dSHW_42 rfl rfl ?_
    refine WP.bipush (n := 45) (z := (6 : Int32)) dSHW_43 (by decide) rfl ?_
    refine WP.bipush (n := 47) (z := (58 : Int32)) dSHW_45 (by decide) rfl ?_
    refine WP.stC (n := 48) (i := 6) (y := (58 : Int32)) dSHW_47 V115 (by decide) rfl (Nat.le_of_ble_eq_true rfl) (by decide) N109 SS115 rfl (fun h116 W116 V116 r116 => ?_)
    have SS116 := r116.safe V115.lt SS115
    have SA116 := r116.safe XA115.lt SA115
    have XA116 := XA115.wr W116
    have XV116 := XV115.other W116 (Or.inl XN109)
    have XC116 := XC115.other W116 (Or.inl XN109)
    refine WP.dup (n := 49) dSHW_48 rfl rfl ?_
    refine WP.bipush (n := 51) (z := (7 : Int32)) dSHW_49 (by decide) rfl ?_
    refine WP.bipush (n := 53) (z := (32 : Int32)) dSHW_51 (by decide) rfl ?_
    refine WP.stC (n := 54) (i := 7) (y := (32 : Int32)) dSHW_53 V116 (by decide) rfl (Nat.le_of_ble_eq_true rfl) (by decide) N109 SS116 rfl (fun h117 W117 V117 r117 => ?_)
    have SS117 := r117.safe V116.lt SS116
    have SA117 := r117.safe XA116.lt SA116
    have XA117 := XA116.wr W117
    have XV117 := XV116.other W117 (Or.inl XN109)
    have XC117 := XC116.other W117 (Or.inl XN109)
    have hws : ∀ d ∈ StrChars.Road.words, d.before a0 Z = true := fun d hd => hw d ((by decide +kernel : ∀ d ∈ StrChars.Road.words, d ∈ tables_1) d hd)
    refine WP.inv fun hZ118 hE118 hC118 => ?_
    refine WP.backP (n := 57) (ce' := 3) (sl' := 20) (Wd := 1) (a := a108) (argsL := [(.ref a109)]) (rest := [(.ref a108)]) (Qy := StrChars.Road.QV Z a108 8 (([(114 : Int32), (101 : Int32), (106 : Int32), (101 : Int32), (99 : Int32), (116 : Int32), (58 : Int32), (32 : Int32)] : List Int32).map (fun c => c.toInt8.toInt32)) h117 Z.heap.size)
      (fun p e below s args hz => StrChars.Road.backV (W := 1) hz hws (kI := 4) (hw _ (List.mem_of_getElem? (i := 5) rfl)) (cs := [(114 : Int32), (101 : Int32), (106 : Int32), (101 : Int32), (99 : Int32), (116 : Int32), (58 : Int32), (32 : Int32)]) (n := 8) (n0 := Z.heap.size) N108 hE118.1 XA117 XV117 XC117 V117 (O.ext hE118) hO rfl rfl (by decide) (by decide) (own_rng_cons (by decide) (own_rng_cons (by decide) (own_rng_cons (by decide) (own_rng_cons (by decide) (own_rng_cons (by decide) (own_rng_cons (by decide) (own_rng_cons (by decide) (own_rng_cons (by decide) own_rng_nil)))))))) rfl (by decide) (by decide))
      (fun v h' L hq => ⟨hq.2.1, ext_keep1 hE118 hq.2.2.1 N108, CHr.keep hq.2.2.1 (fun z hz => by cases List.mem_singleton.mp hz; exact SA117) hC118⟩)
      dSHW_54 rfl (hw _ (List.mem_of_getElem? (i := 8) rfl)) (hw _ (List.mem_of_getElem? (i := 9) rfl)) (hw _ (List.mem_of_getElem? (i := 10) rfl)) (by decide) rfl rfl (by decide) (by decide) rfl rfl (lenOf own_pd19 rfl) rfl (Nat.le_of_eq rfl) rfl (fun v118 h118 L118 q118 r118 => ?_)
    obtain ⟨rfl, -, K118, QA118, QC118, t118, kb118, -, -, -, QV118, QB118⟩ := q118
    have F118 : Str Z h118 a108 [(114 : Int32).toInt8.toInt32, (101 : Int32).toInt8.toInt32, (106 : Int32).toInt8.toInt32, (101 : Int32).toInt8.toInt32, (99 : Int32).toInt8.toInt32, (116 : Int32).toInt8.toInt32, (58 : Int32).toInt8.toInt32, (32 : Int32).toInt8.toInt32] := ⟨QA118, QC118, t118, kb118, 8, QV118, QB118, rfl⟩
    have E118 := ext_keep1 (ext_wr (ext_wr (ext_wr (ext_wr (ext_wr (ext_wr (ext_wr (ext_wr (ext_trans E108 E109) W110 (Nat.le_trans E108.1 (Nat.le_of_eq g109.symm))) W111 (Nat.le_trans E108.1 (Nat.le_of_eq g109.symm))) W112 (Nat.le_trans E108.1 (Nat.le_of_eq g109.symm))) W113 (Nat.le_trans E108.1 (Nat.le_of_eq g109.symm))) W114 (Nat.le_trans E108.1 (Nat.le_of_eq g109.symm))) W115 (Nat.le_trans E108.1 (Nat.le_of_eq g109.symm))) W116 (Nat.le_trans E108.1 (Nat.le_of_eq g109.symm))) W117 (Nat.le_trans E108.1 (Nat.le_of_eq g109.symm))) K118 (Nat.le_of_eq g108.symm)
    exact WP.retA dSHW_57 rfl rfl rfl rfl (by decide) (by decide) ⟨a108, rfl, by unfold own_tx; rw [if_pos b66]; exact F118, E118⟩
theorem dR1_0 : decode jdk_31_method_10_code 0 = .ok (.aload_n 0, 1) := by decide +kernel
theorem dR1_1 : decode jdk_31_method_10_code 1 = .ok (.ifnonnull 11, 3) := by decide +kernel
theorem dR1_4 : decode jdk_31_method_10_code 4 = .ok (.new 84, 3) := by decide +kernel
theorem dR1_7 : decode jdk_31_method_10_code 7 = .ok (.dup, 1) := by decide +kernel
theorem dR1_8 : decode jdk_31_method_10_code 8 = .ok (.invokespecial 86, 3) := by decide +kernel
theorem dR1_11 : decode jdk_31_method_10_code 11 = .ok (.athrow, 1) := by decide +kernel
theorem dR1_12 : decode jdk_31_method_10_code 12 = .ok (.aload_n 0, 1) := by decide +kernel
theorem dR1_13 : decode jdk_31_method_10_code 13 = .ok (.areturn, 1) := by decide +kernel
set_option maxRecDepth 65536 in
set_option maxHeartbeats 40000000 in
theorem own_rn1 (l : Launch) (Z : State) (a0 : Array Value) (hw : ∀ d ∈ tables_1, d.before a0 Z = true) (EL : List (String × Nat)) (hEL : EW Z a0 EL) (h0 : Heap) (a : Addr) :
    Con l Z EL false [] (⟨"java/util/Objects", "requireNonNull", "(Ljava/lang/Object;)Ljava/lang/Object;"⟩ : MethodName) jdk_31_method_10_code 1 (some (.object "java/lang/Object")) ({ frames := 0, cells := 0, slots := 0, locals := 0 } : Room) #[(.ref a)] h0 (fun v h' => v = some (.ref a) ∧ h0 = h') := by
  refine Con.of (Ls := #[.val (.ref a)]) (plainFor_of_name own_pn2) hEL (fun m => by first | (simp [entryFrame, mkF, argsToLocals, Value.category]; done) | rfl) ?_
  intro vm0 hZ0 hE0 hC0 hS0
  refine WP.aloadN (n := 1) dR1_0 rfl rfl rfl ?_
  refine WP.ifnonnullY (n := 12) dR1_1 (by decide) (by decide) ?_
  refine WP.aloadN (n := 13) dR1_12 rfl rfl rfl ?_
  exact WP.retA dR1_13 rfl rfl rfl rfl (by decide) (by decide) ⟨rfl, rfl⟩
theorem dOI_0 : decode jdk_32_method_2_code 0 = .ok (.aload_n 0, 1) := by decide +kernel
theorem dOI_1 : decode jdk_32_method_2_code 1 = .ok (.invokespecial 7, 3) := by decide +kernel
theorem dOI_4 : decode jdk_32_method_2_code 4 = .ok (.aload_n 0, 1) := by decide +kernel
theorem dOI_5 : decode jdk_32_method_2_code 5 = .ok (.aload_n 1, 1) := by decide +kernel
theorem dOI_6 : decode jdk_32_method_2_code 6 = .ok (.putfield 13, 3) := by decide +kernel
theorem dOI_9 : decode jdk_32_method_2_code 9 = .ok (.return_, 1) := by decide +kernel
set_option maxRecDepth 65536 in
set_option maxHeartbeats 40000000 in
theorem own_oi (l : Launch) (Z : State) (a0 : Array Value) (hw : ∀ d ∈ tables_1, d.before a0 Z = true) (EL : List (String × Nat)) (hEL : EW Z a0 EL) (h0 : Heap) (a s : Addr) (hN : Z.heap.size ≤ a) (hA : Exa Z h0 a "java/util/Optional") (hF : Fld Z h0 a "java/util/Optional" "value" "Ljava/lang/Object;" .null) (G : Exa Z h0 s "java/lang/String") :
    Con l Z EL false [] (⟨"java/util/Optional", "<init>", "(Ljava/lang/Object;)V"⟩ : MethodName) jdk_32_method_2_code 2 none ({ frames := 1, cells := 0, slots := 0, locals := 13 } : Room) #[(.ref a), (.ref s)] h0 (fun v h' => v = none ∧ Keep h0 h' [a] ∧ Exa Z h' a "java/util/Optional" ∧ Fld Z h' a "java/util/Optional" "value" "Ljava/lang/Object;" (.ref s)) := by
  refine Con.of (Ls := #[.val (.ref a), .val (.ref s)]) (plainFor_of_name own_pn7) hEL (fun m => by first | (simp [entryFrame, mkF, argsToLocals, Value.category]; done) | rfl) ?_
  intro vm0 hZ0 hE0 hC0 hS0
  refine WP.aloadN (n := 1) dOI_0 rfl rfl rfl ?_
  refine WP.initO (n := 4) (Wd := 0) dOI_1 (hw _ (List.mem_of_getElem? (i := 65) rfl)) (hw _ (List.mem_of_getElem? (i := 16) rfl)) (hw _ (List.mem_of_getElem? (i := 17) rfl)) rfl (by decide) (Nat.le_of_eq rfl) (by decide) rfl ?_
  refine WP.aloadN (n := 5) dOI_4 rfl rfl rfl ?_
  refine WP.aloadN (n := 6) dOI_5 rfl rfl rfl ?_
  refine WP.putFE (n := 9) (host := "") (ty := (.object "java/lang/Object")) dOI_6 (Or.inl (hw _ (List.mem_of_getElem? (i := 66) rfl))) Via.refl hF hA (Or.inr ⟨(hw _ (List.mem_of_getElem? (i := 67) rfl)), rfl, rfl⟩) (hw _ (List.mem_of_getElem? (i := 57) rfl)) (by decide) rfl rfl hN (by decide) rfl (fun h119 W119 r119 => ?_)
  have A119 := hA.wr W119
  have K119 := (Keep.refl h0 [a]).wr W119 (Or.inl (List.mem_cons_self ..))
  have F119_value := hF.same W119
  have A119_s := G.wr W119
  refine WP.retV dOI_9 rfl (by decide) (by decide) ?_
  exact ⟨rfl, K119, A119, F119_value⟩
theorem dOF_0 : decode jdk_32_method_3_code 0 = .ok (.new 2, 3) := by decide +kernel
theorem dOF_3 : decode jdk_32_method_3_code 3 = .ok (.dup, 1) := by decide +kernel
theorem dOF_4 : decode jdk_32_method_3_code 4 = .ok (.aload_n 0, 1) := by decide +kernel
theorem dOF_5 : decode jdk_32_method_3_code 5 = .ok (.invokestatic 17, 3) := by decide +kernel
theorem dOF_8 : decode jdk_32_method_3_code 8 = .ok (.invokespecial 23, 3) := by decide +kernel
theorem dOF_11 : decode jdk_32_method_3_code 11 = .ok (.areturn, 1) := by decide +kernel
set_option maxRecDepth 65536 in
set_option maxHeartbeats 40000000 in
theorem own_of (l : Launch) (Z : State) (a0 : Array Value) (hw : ∀ d ∈ tables_1, d.before a0 Z = true) (EL : List (String × Nat)) (hEL : EW Z a0 EL) (h0 : Heap) (s : Addr) (G : Exa Z h0 s "java/lang/String") :
    Con l Z EL false [] (⟨"java/util/Optional", "of", "(Ljava/lang/Object;)Ljava/util/Optional;"⟩ : MethodName) jdk_32_method_3_code 1 (some (.object "java/util/Optional")) ({ frames := 2, cells := 1, slots := 1, locals := 30 } : Room) #[(.ref s)] h0 (fun v h' => ∃ o, v = some (.ref o) ∧ Ext h0 h' ∧ Exa Z h' o "java/util/Optional" ∧ Fld Z h' o "java/util/Optional" "value" "Ljava/lang/Object;" (.ref s)) := by
  refine Con.of (Ls := #[.val (.ref s)]) (plainFor_of_name own_pn7) hEL (fun m => by first | (simp [entryFrame, mkF, argsToLocals, Value.category]; done) | rfl) ?_
  intro vm0 hZ0 hE0 hC0 hS0
  refine WP.new (n := 3) (ce' := 1) (sl' := 1) dOF_0 (hw _ (List.mem_of_getElem? (i := 56) rfl)) (hw _ (List.mem_of_getElem? (i := 57) rfl)) (hw _ (List.mem_of_getElem? (i := 54) rfl)) rfl rfl (by decide) (by decide) rfl (fun a120 h120 g120 E120 A120 D120 S120 N120 r120 => ?_)
  refine WP.dup (n := 4) dOF_3 rfl rfl ?_
  refine WP.aloadN (n := 5) dOF_4 rfl rfl rfl ?_
  refine WP.callS (n := 8) (ce' := 1) (sl' := 1) (Wd := 2) (argsL := [(.ref s)]) (rest := [(.ref a120), (.ref a120)]) (own_rn1 l Z a0 hw EL hEL h120 s) dOF_5 (hw _ (List.mem_of_getElem? (i := 58) rfl)) (hw _ (List.mem_of_getElem? (i := 59) rfl)) (hw _ (List.mem_of_getElem? (i := 49) rfl)) (hw _ (List.mem_of_getElem? (i := 60) rfl)) (by decide) (fun _ q => nomatch q) (by decide) (by decide) rfl rfl (by decide) (by decide) rfl rfl (lenOf own_pd21 rfl) rfl (Nat.le_of_eq rfl) rfl (fun v121 vm121 h121 q121 r121 => ?_)
  obtain ⟨rfl, rfl⟩ := q121
  refine WP.callP (n := 11) (ce' := 1) (sl' := 1) (Wd := 1) (a := a120) (argsL := [(.ref s)]) (rest := [(.ref a120)]) (own_oi l Z a0 hw EL hEL h120 a120 s N120 A120 (D120 (Or.inr (hw _ (List.mem_of_getElem? (i := 67) rfl))) (ty := .object "java/lang/Object") (by decide)) (G.ext E120)) dOF_8 rfl (hw _ (List.mem_of_getElem? (i := 61) rfl)) (hw _ (List.mem_of_getElem? (i := 62) rfl)) (hw _ (List.mem_of_getElem? (i := 54) rfl)) (hw _ (List.mem_of_getElem? (i := 64) rfl)) (by decide) (fun _ q => nomatch q) (by decide) (by decide) rfl rfl (by decide) (by decide) rfl rfl (lenOf own_pd22 rfl) rfl (Nat.le_of_eq rfl) rfl (fun v122 vm122 h122 q122 r122 => ?_)
  obtain ⟨rfl, K122, A122, F122⟩ := q122
  exact WP.retA dOF_11 rfl rfl rfl rfl (by decide) (by decide) ⟨_, rfl, ext_keep1 E120 K122 (Nat.le_of_eq g120.symm), A122, F122⟩
theorem dON_0 : decode jdk_32_method_4_code 0 = .ok (.aload_n 0, 1) := by decide +kernel
theorem dON_1 : decode jdk_32_method_4_code 1 = .ok (.ifnonnull 9, 3) := by decide +kernel
theorem dON_4 : decode jdk_32_method_4_code 4 = .ok (.getstatic 1, 3) := by decide +kernel
theorem dON_7 : decode jdk_32_method_4_code 7 = .ok (.goto 11, 3) := by decide +kernel
theorem dON_10 : decode jdk_32_method_4_code 10 = .ok (.new 2, 3) := by decide +kernel
theorem dON_13 : decode jdk_32_method_4_code 13 = .ok (.dup, 1) := by decide +kernel
theorem dON_14 : decode jdk_32_method_4_code 14 = .ok (.aload_n 0, 1) := by decide +kernel
theorem dON_15 : decode jdk_32_method_4_code 15 = .ok (.invokespecial 23, 3) := by decide +kernel
theorem dON_18 : decode jdk_32_method_4_code 18 = .ok (.areturn, 1) := by decide +kernel
set_option maxRecDepth 65536 in
set_option maxHeartbeats 40000000 in
theorem own_on (l : Launch) (Z : State) (a0 : Array Value) (hw : ∀ d ∈ tables_1, d.before a0 Z = true) (EL : List (String × Nat)) (hEL : EW Z a0 EL) (h0 : Heap) (s : Addr) (G : Exa Z h0 s "java/lang/String") :
    Con l Z EL false [] (⟨"java/util/Optional", "ofNullable", "(Ljava/lang/Object;)Ljava/util/Optional;"⟩ : MethodName) jdk_32_method_4_code 1 (some (.object "java/util/Optional")) ({ frames := 2, cells := 1, slots := 1, locals := 30 } : Room) #[(.ref s)] h0 (fun v h' => ∃ o, v = some (.ref o) ∧ Ext h0 h' ∧ Exa Z h' o "java/util/Optional" ∧ Fld Z h' o "java/util/Optional" "value" "Ljava/lang/Object;" (.ref s)) := by
  refine Con.of (Ls := #[.val (.ref s)]) (plainFor_of_name own_pn7) hEL (fun m => by first | (simp [entryFrame, mkF, argsToLocals, Value.category]; done) | rfl) ?_
  intro vm0 hZ0 hE0 hC0 hS0
  refine WP.aloadN (n := 1) dON_0 rfl rfl rfl ?_
  refine WP.ifnonnullY (n := 10) dON_1 (by decide) (by decide) ?_
  refine WP.new (n := 13) (ce' := 1) (sl' := 1) dON_10 (hw _ (List.mem_of_getElem? (i := 56) rfl)) (hw _ (List.mem_of_getElem? (i := 57) rfl)) (hw _ (List.mem_of_getElem? (i := 54) rfl)) rfl rfl (by decide) (by decide) rfl (fun a123 h123 g123 E123 A123 D123 S123 N123 r123 => ?_)
  refine WP.dup (n := 14) dON_13 rfl rfl ?_
  refine WP.aloadN (n := 15) dON_14 rfl rfl rfl ?_
  refine WP.callP (n := 18) (ce' := 1) (sl' := 1) (Wd := 1) (a := a123) (argsL := [(.ref s)]) (rest := [(.ref a123)]) (own_oi l Z a0 hw EL hEL h123 a123 s N123 A123 (D123 (Or.inr (hw _ (List.mem_of_getElem? (i := 67) rfl))) (ty := .object "java/lang/Object") (by decide)) (G.ext E123)) dON_15 rfl (hw _ (List.mem_of_getElem? (i := 61) rfl)) (hw _ (List.mem_of_getElem? (i := 62) rfl)) (hw _ (List.mem_of_getElem? (i := 54) rfl)) (hw _ (List.mem_of_getElem? (i := 64) rfl)) (by decide) (fun _ q => nomatch q) (by decide) (by decide) rfl rfl (by decide) (by decide) rfl rfl (lenOf own_pd22 rfl) rfl (Nat.le_of_eq rfl) rfl (fun v124 vm124 h124 q124 r124 => ?_)
  obtain ⟨rfl, K124, A124, F124⟩ := q124
  exact WP.retA dON_18 rfl rfl rfl rfl (by decide) (by decide) ⟨_, rfl, ext_keep1 E123 K124 (Nat.le_of_eq g123.symm), A124, F124⟩
theorem dOE_0 : decode jdk_32_method_7_code 0 = .ok (.aload_n 0, 1) := by decide +kernel
theorem dOE_1 : decode jdk_32_method_7_code 1 = .ok (.getfield 13, 3) := by decide +kernel
theorem dOE_4 : decode jdk_32_method_7_code 4 = .ok (.ifnonnull 7, 3) := by decide +kernel
theorem dOE_7 : decode jdk_32_method_7_code 7 = .ok (.iconst 1, 1) := by decide +kernel
theorem dOE_8 : decode jdk_32_method_7_code 8 = .ok (.goto 4, 3) := by decide +kernel
theorem dOE_11 : decode jdk_32_method_7_code 11 = .ok (.iconst 0, 1) := by decide +kernel
theorem dOE_12 : decode jdk_32_method_7_code 12 = .ok (.ireturn, 1) := by decide +kernel
set_option maxRecDepth 65536 in
set_option maxHeartbeats 40000000 in
theorem own_oe (l : Launch) (Z : State) (a0 : Array Value) (hw : ∀ d ∈ tables_1, d.before a0 Z = true) (EL : List (String × Nat)) (hEL : EW Z a0 EL) (h0 : Heap) (o s : Addr) (F : Fld Z h0 o "java/util/Optional" "value" "Ljava/lang/Object;" (.ref s))  :
    Con l Z EL false [] (⟨"java/util/Optional", "isEmpty", "()Z"⟩ : MethodName) jdk_32_method_7_code 1 (some .boolean) ({ frames := 0, cells := 0, slots := 0, locals := 0 } : Room) #[(.ref o)] h0 (fun v h' => v = some (.int 0) ∧ h0 = h') := by
  refine Con.of (Ls := #[.val (.ref o)]) (plainFor_of_name own_pn7) hEL (fun m => by first | (simp [entryFrame, mkF, argsToLocals, Value.category]; done) | rfl) ?_
  intro vm0 hZ0 hE0 hC0 hS0
  refine WP.aloadN (n := 1) dOE_0 rfl rfl rfl ?_
  refine WP.getF (n := 4) (host := "") dOE_1 (Or.inl (hw _ (List.mem_of_getElem? (i := 66) rfl))) Via.refl F rfl ?_
  refine WP.ifnonnullY (n := 11) dOE_4 (by decide) (by decide) ?_
  refine WP.iconst (n := 12) (z := (0 : Int32)) dOE_11 rfl rfl ?_
  exact WP.retN dOE_12 rfl (Or.inl rfl) (by decide : nar .boolean 0 = 0) (by decide) (by decide) ⟨rfl, rfl⟩
theorem dOO_0 : decode jdk_32_method_15_code 0 = .ok (.aload_n 0, 1) := by decide +kernel
theorem dOO_1 : decode jdk_32_method_15_code 1 = .ok (.getfield 13, 3) := by decide +kernel
theorem dOO_4 : decode jdk_32_method_15_code 4 = .ok (.ifnull 10, 3) := by decide +kernel
theorem dOO_7 : decode jdk_32_method_15_code 7 = .ok (.aload_n 0, 1) := by decide +kernel
theorem dOO_8 : decode jdk_32_method_15_code 8 = .ok (.getfield 13, 3) := by decide +kernel
theorem dOO_11 : decode jdk_32_method_15_code 11 = .ok (.goto 4, 3) := by decide +kernel
theorem dOO_14 : decode jdk_32_method_15_code 14 = .ok (.aload_n 1, 1) := by decide +kernel
theorem dOO_15 : decode jdk_32_method_15_code 15 = .ok (.areturn, 1) := by decide +kernel
set_option maxRecDepth 65536 in
set_option maxHeartbeats 40000000 in
theorem own_oo (l : Launch) (Z : State) (a0 : Array Value) (hw : ∀ d ∈ tables_1, d.before a0 Z = true) (EL : List (String × Nat)) (hEL : EW Z a0 EL) (h0 : Heap) (o s : Addr) (F : Fld Z h0 o "java/util/Optional" "value" "Ljava/lang/Object;" (.ref s)) (x : Addr) :
    Con l Z EL false [] (⟨"java/util/Optional", "orElse", "(Ljava/lang/Object;)Ljava/lang/Object;"⟩ : MethodName) jdk_32_method_15_code 2 (some (.object "java/lang/Object")) ({ frames := 0, cells := 0, slots := 0, locals := 0 } : Room) #[(.ref o), (.ref x)] h0 (fun v h' => v = some (.ref s) ∧ h0 = h') := by
  refine Con.of (Ls := #[.val (.ref o), .val (.ref x)]) (plainFor_of_name own_pn7) hEL (fun m => by first | (simp [entryFrame, mkF, argsToLocals, Value.category]; done) | rfl) ?_
  intro vm0 hZ0 hE0 hC0 hS0
  refine WP.aloadN (n := 1) dOO_0 rfl rfl rfl ?_
  refine WP.getF (n := 4) (host := "") dOO_1 (Or.inl (hw _ (List.mem_of_getElem? (i := 66) rfl))) Via.refl F rfl ?_
  refine WP.ifnullN (n' := 7) dOO_4 rfl ?_
  refine WP.aloadN (n := 8) dOO_7 rfl rfl rfl ?_
  refine WP.getF (n := 11) (host := "") dOO_8 (Or.inl (hw _ (List.mem_of_getElem? (i := 66) rfl))) Via.refl F rfl ?_
  refine WP.goto (n := 15) dOO_11 (by decide) (by decide) ?_
  exact WP.retA dOO_15 rfl rfl rfl rfl (by decide) (by decide) ⟨rfl, rfl⟩
theorem dCI_0 : decode prog_2_method_1_code 0 = .ok (.aload_n 0, 1) := by decide +kernel
theorem dCI_1 : decode prog_2_method_1_code 1 = .ok (.invokespecial 1, 3) := by decide +kernel
theorem dCI_4 : decode prog_2_method_1_code 4 = .ok (.aload_n 0, 1) := by decide +kernel
theorem dCI_5 : decode prog_2_method_1_code 5 = .ok (.aload_n 1, 1) := by decide +kernel
theorem dCI_6 : decode prog_2_method_1_code 6 = .ok (.putfield 7, 3) := by decide +kernel
theorem dCI_9 : decode prog_2_method_1_code 9 = .ok (.aload_n 0, 1) := by decide +kernel
theorem dCI_10 : decode prog_2_method_1_code 10 = .ok (.aload_n 2, 1) := by decide +kernel
theorem dCI_11 : decode prog_2_method_1_code 11 = .ok (.putfield 13, 3) := by decide +kernel
theorem dCI_14 : decode prog_2_method_1_code 14 = .ok (.return_, 1) := by decide +kernel
set_option maxRecDepth 65536 in
set_option maxHeartbeats 40000000 in
theorem own_ci (l : Launch) (Z : State) (a0 : Array Value) (hw : ∀ d ∈ tables_1, d.before a0 Z = true) (EL : List (String × Nat)) (hEL : EW Z a0 EL) (h0 : Heap) (a o : Addr) (hN : Z.heap.size ≤ a) (hA : Exa Z h0 a "com/example/wallhour/wallhour/Choice") (hI : Fld Z h0 a "com/example/wallhour/wallhour/Choice" "instant" "Ljava/time/Instant;" .null) (hR : Fld Z h0 a "com/example/wallhour/wallhour/Choice" "reason" "Ljava/util/Optional;" .null) (G : Exa Z h0 o "java/util/Optional") :
    Con l Z EL false [] (⟨"com/example/wallhour/wallhour/Choice", "<init>", "(Ljava/time/Instant;Ljava/util/Optional;)V"⟩ : MethodName) prog_2_method_1_code 3 none ({ frames := 1, cells := 0, slots := 0, locals := 14 } : Room) #[(.ref a), .null, (.ref o)] h0 (fun v h' => v = none ∧ Keep h0 h' [a] ∧ Exa Z h' a "com/example/wallhour/wallhour/Choice" ∧ Fld Z h' a "com/example/wallhour/wallhour/Choice" "instant" "Ljava/time/Instant;" .null ∧ Fld Z h' a "com/example/wallhour/wallhour/Choice" "reason" "Ljava/util/Optional;" (.ref o)) := by
  refine Con.of (Ls := #[.val (.ref a), .val .null, .val (.ref o)]) (plainFor_of_name own_pn8) hEL (fun m => by first | (simp [entryFrame, mkF, argsToLocals, Value.category]; done) | rfl) ?_
  intro vm0 hZ0 hE0 hC0 hS0
  refine WP.aloadN (n := 1) dCI_0 rfl rfl rfl ?_
  refine WP.initO (n := 4) (Wd := 0) dCI_1 (hw _ (List.mem_of_getElem? (i := 71) rfl)) (hw _ (List.mem_of_getElem? (i := 16) rfl)) (hw _ (List.mem_of_getElem? (i := 17) rfl)) rfl (by decide) (Nat.le_of_eq rfl) (by decide) rfl ?_
  refine WP.aloadN (n := 5) dCI_4 rfl rfl rfl ?_
  refine WP.aloadN (n := 6) dCI_5 rfl rfl rfl ?_
  refine WP.putFE (n := 9) (host := "") (ty := (.object "java/time/Instant")) dCI_6 (Or.inl (hw _ (List.mem_of_getElem? (i := 72) rfl))) Via.refl hI hA (Or.inr ⟨(hw _ (List.mem_of_getElem? (i := 73) rfl)), rfl, rfl⟩) (hw _ (List.mem_of_getElem? (i := 45) rfl)) (by decide) rfl rfl hN (by decide) rfl (fun h125 W125 r125 => ?_)
  have A125 := hA.wr W125
  have K125 := (Keep.refl h0 [a]).wr W125 (Or.inl (List.mem_cons_self ..))
  have F125_instant := hI.same W125
  have F125_reason := hR.other W125 (Or.inr (slot_ne (t := (.object "java/util/Optional")) (t' := (.object "java/time/Instant")) (Or.inr (hw _ (List.mem_of_getElem? (i := 75) rfl))) (Or.inr (hw _ (List.mem_of_getElem? (i := 73) rfl))) (by decide) (by decide) (by decide)))
  have A125_o := G.wr W125
  refine WP.aloadN (n := 10) dCI_9 rfl rfl rfl ?_
  refine WP.aloadN (n := 11) dCI_10 rfl rfl rfl ?_
  refine WP.putFE (n := 14) (host := "") (ty := (.object "java/util/Optional")) dCI_11 (Or.inl (hw _ (List.mem_of_getElem? (i := 74) rfl))) Via.refl F125_reason A125 (Or.inr ⟨(hw _ (List.mem_of_getElem? (i := 75) rfl)), rfl, rfl⟩) (hw _ (List.mem_of_getElem? (i := 45) rfl)) (by decide) rfl rfl hN (by decide) rfl (fun h126 W126 r126 => ?_)
  have A126 := A125.wr W126
  have K126 := K125.wr W126 (Or.inl (List.mem_cons_self ..))
  have F126_reason := F125_reason.same W126
  have F126_instant := F125_instant.other W126 (Or.inr (slot_ne (t := (.object "java/time/Instant")) (t' := (.object "java/util/Optional")) (Or.inr (hw _ (List.mem_of_getElem? (i := 73) rfl))) (Or.inr (hw _ (List.mem_of_getElem? (i := 75) rfl))) (by decide) (by decide) (by decide)))
  have A126_o := A125_o.wr W126
  refine WP.retV dCI_14 rfl (by decide) (by decide) ?_
  exact ⟨rfl, K126, A126, F126_instant, F126_reason⟩
theorem dRJ_0 : decode prog_2_method_4_code 0 = .ok (.new 8, 3) := by decide +kernel
theorem dRJ_3 : decode prog_2_method_4_code 3 = .ok (.dup, 1) := by decide +kernel
theorem dRJ_4 : decode prog_2_method_4_code 4 = .ok (.aconst_null, 1) := by decide +kernel
theorem dRJ_5 : decode prog_2_method_4_code 5 = .ok (.aload_n 0, 1) := by decide +kernel
theorem dRJ_6 : decode prog_2_method_4_code 6 = .ok (.ldc 40, 2) := by decide +kernel
theorem dRJ_8 : decode prog_2_method_4_code 8 = .ok (.invokestatic 19, 3) := by decide +kernel
theorem dRJ_11 : decode prog_2_method_4_code 11 = .ok (.checkcast 42, 3) := by decide +kernel
theorem dRJ_14 : decode prog_2_method_4_code 14 = .ok (.invokestatic 44, 3) := by decide +kernel
theorem dRJ_17 : decode prog_2_method_4_code 17 = .ok (.invokespecial 33, 3) := by decide +kernel
theorem dRJ_20 : decode prog_2_method_4_code 20 = .ok (.areturn, 1) := by decide +kernel
set_option maxRecDepth 65536 in
set_option maxHeartbeats 40000000 in
theorem own_rj (l : Launch) (Z : State) (a0 : Array Value) (hw : ∀ d ∈ tables_1, d.before a0 Z = true) (EL : List (String × Nat)) (hEL : EW Z a0 EL) (h0 : Heap) (s : Addr) (bs : List Int32) (G : Str Z h0 s bs) :
    Con l Z EL false [] (⟨"com/example/wallhour/wallhour/Choice", "reject", "(Ljava/lang/String;)Lcom/example/wallhour/wallhour/Choice;"⟩ : MethodName) prog_2_method_4_code 1 (some (.object "com/example/wallhour/wallhour/Choice")) ({ frames := 3, cells := 4, slots := 90, locals := 60 } : Room) #[(.ref s)] h0 (fun v h' => ∃ a o, v = some (.ref a) ∧ Ext h0 h' ∧ (Exa Z h' a "com/example/wallhour/wallhour/Choice" ∧ Fld Z h' a "com/example/wallhour/wallhour/Choice" "instant" "Ljava/time/Instant;" .null ∧ Fld Z h' a "com/example/wallhour/wallhour/Choice" "reason" "Ljava/util/Optional;" (.ref o)) ∧ Exa Z h' o "java/util/Optional" ∧ Fld Z h' o "java/util/Optional" "value" "Ljava/lang/Object;" (.ref s)) := by
  have wS : ∀ a ∈ Bundle.stringAtoms, a.before a0 Z = true := fun d hd => hw d ((by decide +kernel : ∀ d ∈ Bundle.stringAtoms, d ∈ tables_1) d hd)
  refine Con.of (Ls := #[.val (.ref s)]) (plainFor_of_name own_pn8) hEL (fun m => by first | (simp [entryFrame, mkF, argsToLocals, Value.category]; done) | rfl) ?_
  intro vm0 hZ0 hE0 hC0 hS0
  refine WP.new (n := 3) (ce' := 1) (sl' := 2) dRJ_0 (hw _ (List.mem_of_getElem? (i := 44) rfl)) (hw _ (List.mem_of_getElem? (i := 45) rfl)) (hw _ (List.mem_of_getElem? (i := 42) rfl)) rfl rfl (by decide) (by decide) rfl (fun a127 h127 g127 E127 A127 D127 S127 N127 r127 => ?_)
  refine WP.dup (n := 4) dRJ_3 rfl rfl ?_
  refine WP.aconstNull (n := 5) dRJ_4  rfl ?_
  refine WP.aloadN (n := 6) dRJ_5 rfl rfl rfl ?_
  refine WP.ldcO (n := 8) (nn := 56) (ce' := 3) (sl' := 62) dRJ_6 rfl (hw _ (List.mem_of_getElem? (i := 46) rfl)) wS (by decide) (by decide) rfl rfl (by decide) (by decide) hEL rfl (fun a128 vm128 h128 E128 r128 => ?_)
  refine WP.callS (n := 11) (ce' := 3) (sl' := 62) (Wd := 3) (argsL := [(.ref s), (.ref a128)]) (rest := [.null, (.ref a127), (.ref a127)]) (own_rnn l Z a0 hw EL hEL h128 s a128) dRJ_8 (hw _ (List.mem_of_getElem? (i := 47) rfl)) (hw _ (List.mem_of_getElem? (i := 48) rfl)) (hw _ (List.mem_of_getElem? (i := 49) rfl)) (hw _ (List.mem_of_getElem? (i := 50) rfl)) (by decide) (fun _ q => nomatch q) (by decide) (by decide) rfl rfl (by decide) (by decide) rfl rfl (lenOf own_pd23 rfl) rfl (Nat.le_of_eq rfl) rfl (fun v129 vm129 h129 q129 r129 => ?_)
  obtain ⟨rfl, rfl⟩ := q129
  refine WP.castY (n := 14) dRJ_11 (hw _ (List.mem_of_getElem? (i := 51) rfl)) (Ins.self (G.ext (ext_trans E127 E128)).1) rfl ?_
  refine WP.callS (n := 17) (ce' := 4) (sl' := 63) (Wd := 3) (argsL := [(.ref s)]) (rest := [.null, (.ref a127), (.ref a127)]) (own_of l Z a0 hw EL hEL h128 s (G.ext (ext_trans E127 E128)).1) dRJ_14 (hw _ (List.mem_of_getElem? (i := 52) rfl)) (hw _ (List.mem_of_getElem? (i := 53) rfl)) (hw _ (List.mem_of_getElem? (i := 54) rfl)) (hw _ (List.mem_of_getElem? (i := 55) rfl)) (by decide) (fun _ q => nomatch q) (by decide) (by decide) rfl rfl (by decide) (by decide) rfl rfl (lenOf own_pd24 rfl) rfl (Nat.le_of_eq rfl) rfl (fun v130 vm130 h130 q130 r130 => ?_)
  obtain ⟨o130, rfl, E130, A130, F130⟩ := q130
  refine WP.callP (n := 20) (ce' := 4) (sl' := 63) (Wd := 1) (a := a127) (argsL := [.null, (.ref o130)]) (rest := [(.ref a127)]) (own_ci l Z a0 hw EL hEL h130 a127 o130 N127 (A127.ext (ext_trans E128 E130)) ((D127 (Or.inr (hw _ (List.mem_of_getElem? (i := 73) rfl))) (ty := (.object "java/time/Instant")) (by decide)).ext (ext_trans E128 E130)) ((D127 (Or.inr (hw _ (List.mem_of_getElem? (i := 75) rfl))) (ty := (.object "java/util/Optional")) (by decide)).ext (ext_trans E128 E130)) A130) dRJ_17 rfl (hw _ (List.mem_of_getElem? (i := 68) rfl)) (hw _ (List.mem_of_getElem? (i := 69) rfl)) (hw _ (List.mem_of_getElem? (i := 42) rfl)) (hw _ (List.mem_of_getElem? (i := 70) rfl)) (by decide) (fun _ q => nomatch q) (by decide) (by decide) rfl rfl (by decide) (by decide) rfl rfl (lenOf own_pd25 rfl) rfl (Nat.le_of_eq rfl) rfl (fun v131 vm131 h131 q131 r131 => ?_)
  obtain ⟨rfl, K131, A131, I131, R131⟩ := q131
  have nx : o130 ∉ [a127] := fun q => ne_exa A130 (A127.ext (ext_trans E128 E130)) (by decide) (List.mem_singleton.mp q)
  exact WP.retA dRJ_20 rfl rfl rfl rfl (by decide) (by decide) ⟨_, o130, rfl, ext_keep1 (ext_trans E127 (ext_trans E128 E130)) K131 (Nat.le_of_eq g127.symm), ⟨A131, I131, R131⟩, A130.keep K131, F130.keep K131 nx⟩
theorem dLM_0 : decode prog_2_method_8_code 0 = .ok (.new 51, 3) := by decide +kernel
theorem dLM_3 : decode prog_2_method_8_code 3 = .ok (.dup, 1) := by decide +kernel
theorem dLM_4 : decode prog_2_method_8_code 4 = .ok (.invokespecial 53, 3) := by decide +kernel
theorem dLM_7 : decode prog_2_method_8_code 7 = .ok (.ldc 81, 2) := by decide +kernel
theorem dLM_9 : decode prog_2_method_8_code 9 = .ok (.invokevirtual 56, 3) := by decide +kernel
theorem dLM_12 : decode prog_2_method_8_code 12 = .ok (.aload_n 0, 1) := by decide +kernel
theorem dLM_13 : decode prog_2_method_8_code 13 = .ok (.invokevirtual 56, 3) := by decide +kernel
theorem dLM_16 : decode prog_2_method_8_code 16 = .ok (.invokevirtual 63, 3) := by decide +kernel
theorem dLM_19 : decode prog_2_method_8_code 19 = .ok (.areturn, 1) := by decide +kernel
set_option maxRecDepth 65536 in
set_option maxHeartbeats 40000000 in
theorem own_lam (l : Launch) (Z : State) (a0 : Array Value) (hw : ∀ d ∈ tables_1, d.before a0 Z = true) (EL : List (String × Nat)) (hEL : EW Z a0 EL) (h0 : Heap) (s : Addr) (bs : List Int32) (G : Str Z h0 s bs) (hb : bs.length ≤ 3) (hm : ("com/example/wallhour/wallhour/Choice", 81) ∈ EL) (hL : EWn Z a0 EL 16) (cz : Int32) (O : Sta Z Z.heap "java/lang/String" "COMPACT_STRINGS" "Z" (.int cz)) (hO : ¬ cz = 0) :
    Con l Z EL false [] (⟨"com/example/wallhour/wallhour/Choice", "lambda$toString$0", "(Ljava/lang/String;)Ljava/lang/String;"⟩ : MethodName) prog_2_method_8_code 1 (some (.object "java/lang/String")) ({ frames := 6, cells := 6, slots := 80, locals := 135 } : Room) #[(.ref s)] h0 (fun v h' => ∃ y, v = some (.ref y) ∧ Str Z h' y (own_R8 ++ bs) ∧ Ext h0 h') := by
  have wS : ∀ a ∈ Bundle.stringAtoms, a.before a0 Z = true := fun d hd => hw d ((by decide +kernel : ∀ d ∈ Bundle.stringAtoms, d ∈ tables_1) d hd)
  refine Con.of (Ls := #[.val (.ref s)]) (plainFor_of_name own_pn8) hEL (fun m => by first | (simp [entryFrame, mkF, argsToLocals, Value.category]; done) | rfl) ?_
  intro vm0 hZ0 hE0 hC0 hS0
  have hr8 : own_R8.length = 8 := rfl
  refine WP.new (n := 3) (ce' := 1) (sl' := 4) dLM_0 (hw _ (List.mem_of_getElem? (i := 99) rfl)) (hw _ (List.mem_of_getElem? (i := 100) rfl)) (hw _ (List.mem_of_getElem? (i := 101) rfl)) rfl rfl (by decide) (by decide) rfl (fun a132 h132 g132 E132 A132 D132 S132 N132 r132 => ?_)
  refine WP.dup (n := 4) dLM_3 rfl rfl ?_
  refine WP.callP (n := 7) (ce' := 2) (sl' := 20) (Wd := 1) (a := a132) (argsL := []) (rest := [(.ref a132)]) (own_sbi l Z a0 hw EL hEL h132 a132 N132 A132 (D132 (Or.inl (hw _ (List.mem_of_getElem? (i := 114) rfl))) (ty := (.array .byte)) (by decide)) (D132 (Or.inl (hw _ (List.mem_of_getElem? (i := 116) rfl))) (ty := .byte) (by decide)) (D132 (Or.inl (hw _ (List.mem_of_getElem? (i := 139) rfl))) (ty := .int) (by decide)) cz O hO) dLM_4 rfl (hw _ (List.mem_of_getElem? (i := 102) rfl)) (hw _ (List.mem_of_getElem? (i := 103) rfl)) (hw _ (List.mem_of_getElem? (i := 101) rfl)) (hw _ (List.mem_of_getElem? (i := 104) rfl)) (by decide) (fun _ q => nomatch q) (by decide) (by decide) rfl rfl (by decide) (by decide) rfl rfl (lenOf own_pd26 rfl) rfl (Nat.le_of_eq rfl) rfl (fun v133 vm133 h133 q133 r133 => ?_)
  obtain ⟨rfl, K133, x133, n133, F133⟩ := q133
  have EX133 := ext_keep1 E132 K133 (Nat.le_of_eq g132.symm)
  have m133 : Array.size h0 ≤ x133 := Nat.le_trans E132.1 n133
  refine WP.ldcC (n := 9) (nn := 32) (ce' := 4) (sl' := 56) (vs := ([114, 101, 106, 101, 99, 116, 58, 32] : List Int32).map Value.int) (z := 8) dLM_7 rfl (hw _ (List.mem_of_getElem? (i := 117) rfl)) wS hm ⟨by decide, by decide⟩ (by decide) rfl (by decide) (by decide) rfl rfl (by decide) (by decide) hEL rfl (fun a134 b134 k134 vm134 h134 E134 r134 X134 C134 V134 B134 L134 N134 => ?_)
  have F134 : Str Z h134 a134 own_R8 := by rw [own_R8e]; exact ⟨X134, C134, b134, k134, 8, V134, B134, rfl⟩
  refine WP.callV (n := 12) (ce' := 4) (sl' := 56) (Wd := 0) (a := a132) (argsL := [(.ref a134)]) (rest := []) (own_sapp l Z a0 hw EL hEL h134 a132 x133 [] (F133.ext E134) a134 own_R8 F134 (by decide) hL cz O hO) (F133.ext E134).1 dLM_9 (hw _ (List.mem_of_getElem? (i := 118) rfl)) (hw _ (List.mem_of_getElem? (i := 119) rfl)) (hw _ (List.mem_of_getElem? (i := 121) rfl)) (hw _ (List.mem_of_getElem? (i := 120) rfl)) (hw _ (List.mem_of_getElem? (i := 101) rfl)) (hw _ (List.mem_of_getElem? (i := 122) rfl)) (by decide) (fun _ hz => notFace_of_selects (args := #[]) (mvT hz (hw _ (List.mem_of_getElem? (i := 121) rfl)))) (fun _ q => nomatch q) (by decide) (by decide) rfl rfl (by decide) (by decide) rfl rfl (lenOf own_pd27 rfl) rfl (Nat.le_of_eq rfl) rfl (fun v135 vm135 h135 q135 r135 => ?_)
  obtain ⟨rfl, K135, F135⟩ := q135
  have F135_ : SBf Z h135 a132 x133 (own_R8) := F135
  have EX135 := ext_keep (ext_trans EX133 E134) K135 (own_mem2 m133 (Nat.le_of_eq g132.symm))
  refine WP.aloadN (n := 13) dLM_12 rfl rfl rfl ?_
  refine WP.callV (n := 16) (ce' := 4) (sl' := 56) (Wd := 0) (a := a132) (argsL := [(.ref s)]) (rest := []) (own_sapp l Z a0 hw EL hEL h135 a132 x133 own_R8 F135_ s bs (G.ext EX135) (by rw [hr8]; omega) hL cz O hO) F135_.1 dLM_13 (hw _ (List.mem_of_getElem? (i := 118) rfl)) (hw _ (List.mem_of_getElem? (i := 119) rfl)) (hw _ (List.mem_of_getElem? (i := 121) rfl)) (hw _ (List.mem_of_getElem? (i := 120) rfl)) (hw _ (List.mem_of_getElem? (i := 101) rfl)) (hw _ (List.mem_of_getElem? (i := 122) rfl)) (by decide) (fun _ hz => notFace_of_selects (args := #[]) (mvT hz (hw _ (List.mem_of_getElem? (i := 121) rfl)))) (fun _ q => nomatch q) (by decide) (by decide) rfl rfl (by decide) (by decide) rfl rfl (lenOf own_pd27 rfl) rfl (Nat.le_of_eq rfl) rfl (fun v136 vm136 h136 q136 r136 => ?_)
  obtain ⟨rfl, K136, F136⟩ := q136
  have F136_ : SBf Z h136 a132 x133 (own_R8 ++ bs) := F136
  have EX136 := ext_keep EX135 K136 (own_mem2 m133 (Nat.le_of_eq g132.symm))
  refine WP.callV (n := 19) (ce' := 6) (sl' := 76) (Wd := 0) (a := a132) (argsL := []) (rest := []) (own_ts l Z a0 hw EL hEL h136 a132 x133 (own_R8 ++ bs) F136_ (by rw [List.length_append, hr8]; omega) cz O hO) F136_.1 dLM_16 (hw _ (List.mem_of_getElem? (i := 165) rfl)) (hw _ (List.mem_of_getElem? (i := 166) rfl)) (hw _ (List.mem_of_getElem? (i := 168) rfl)) (hw _ (List.mem_of_getElem? (i := 167) rfl)) (hw _ (List.mem_of_getElem? (i := 101) rfl)) (hw _ (List.mem_of_getElem? (i := 169) rfl)) (by decide) (fun _ hz => notFace_of_selects (args := #[]) (mvT hz (hw _ (List.mem_of_getElem? (i := 168) rfl)))) (fun _ q => nomatch q) (by decide) (by decide) rfl rfl (by decide) (by decide) rfl rfl (lenOf own_pd28 rfl) rfl (Nat.le_of_eq rfl) rfl (fun v137 vm137 h137 q137 r137 => ?_)
  obtain ⟨y137, rfl, F137, E137⟩ := q137
  exact WP.retA dLM_19 rfl rfl rfl rfl (by decide) (by decide) ⟨_, rfl, F137, (ext_trans EX136 E137)⟩
theorem dMP_0 : decode jdk_32_method_11_code 0 = .ok (.aload_n 1, 1) := by decide +kernel
theorem dMP_1 : decode jdk_32_method_11_code 1 = .ok (.invokestatic 17, 3) := by decide +kernel
theorem dMP_4 : decode jdk_32_method_11_code 4 = .ok (.pop, 1) := by decide +kernel
theorem dMP_5 : decode jdk_32_method_11_code 5 = .ok (.aload_n 0, 1) := by decide +kernel
theorem dMP_6 : decode jdk_32_method_11_code 6 = .ok (.invokevirtual 43, 3) := by decide +kernel
theorem dMP_9 : decode jdk_32_method_11_code 9 = .ok (.ifCond .eq 7, 3) := by decide +kernel
theorem dMP_12 : decode jdk_32_method_11_code 12 = .ok (.invokestatic 53, 3) := by decide +kernel
theorem dMP_15 : decode jdk_32_method_11_code 15 = .ok (.areturn, 1) := by decide +kernel
theorem dMP_16 : decode jdk_32_method_11_code 16 = .ok (.aload_n 1, 1) := by decide +kernel
theorem dMP_17 : decode jdk_32_method_11_code 17 = .ok (.aload_n 0, 1) := by decide +kernel
theorem dMP_18 : decode jdk_32_method_11_code 18 = .ok (.getfield 13, 3) := by decide +kernel
theorem dMP_21 : decode jdk_32_method_11_code 21 = .ok (.invokeinterface 57 2, 5) := by decide +kernel
theorem dMP_26 : decode jdk_32_method_11_code 26 = .ok (.invokestatic 62, 3) := by decide +kernel
theorem dMP_29 : decode jdk_32_method_11_code 29 = .ok (.areturn, 1) := by decide +kernel
set_option maxRecDepth 65536 in
set_option maxHeartbeats 40000000 in
theorem own_map (l : Launch) (Z : State) (a0 : Array Value) (hw : ∀ d ∈ tables_1, d.before a0 Z = true) (EL : List (String × Nat)) (hEL : EW Z a0 EL) (h0 : Heap) (o f : Addr) (cK : ClassId) (A : Exa Z h0 o "java/util/Optional") (s : Addr) (bs : List Int32) (G : Str Z h0 s bs) (hb : bs.length ≤ 3) (hm : ("com/example/wallhour/wallhour/Choice", 81) ∈ EL) (hL : EWn Z a0 EL 16) (F : Fld Z h0 o "java/util/Optional" "value" "Ljava/lang/Object;" (.ref s)) (hmd : Jvm.LamKit.Made Z "com/example/wallhour/wallhour/Choice" own_sig cK) (hfn : Jvm.LamKit.FnAt Z.heap f cK) (cz : Int32) (O : Sta Z Z.heap "java/lang/String" "COMPACT_STRINGS" "Z" (.int cz)) (hO : ¬ cz = 0) :
    Con l Z EL false [] (⟨"java/util/Optional", "map", "(Ljava/util/function/Function;)Ljava/util/Optional;"⟩ : MethodName) jdk_32_method_11_code 2 (some (.object "java/util/Optional")) ({ frames := 8, cells := 7, slots := 81, locals := 170 } : Room) #[(.ref o), (.ref f)] h0 (fun v h' => ∃ o2 y, v = some (.ref o2) ∧ Ext h0 h' ∧ Str Z h' y (own_R8 ++ bs) ∧ Exa Z h' o2 "java/util/Optional" ∧ Fld Z h' o2 "java/util/Optional" "value" "Ljava/lang/Object;" (.ref y)) := by
  refine Con.of (Ls := #[.val (.ref o), .val (.ref f)]) (plainFor_of_name own_pn7) hEL (fun m => by first | (simp [entryFrame, mkF, argsToLocals, Value.category]; done) | rfl) ?_
  intro vm0 hZ0 hE0 hC0 hS0
  refine WP.aloadN (n := 1) dMP_0 rfl rfl rfl ?_
  refine WP.callS (n := 4) (ce' := 0) (sl' := 0) (Wd := 0) (argsL := [(.ref f)]) (rest := []) (own_rn1 l Z a0 hw EL hEL h0 f) dMP_1 (hw _ (List.mem_of_getElem? (i := 58) rfl)) (hw _ (List.mem_of_getElem? (i := 59) rfl)) (hw _ (List.mem_of_getElem? (i := 49) rfl)) (hw _ (List.mem_of_getElem? (i := 60) rfl)) (by decide) (fun _ q => nomatch q) (by decide) (by decide) rfl rfl (by decide) (by decide) rfl rfl (lenOf own_pd21 rfl) rfl (Nat.le_of_eq rfl) rfl (fun v138 vm138 h138 q138 r138 => ?_)
  obtain ⟨rfl, rfl⟩ := q138
  refine WP.pop (n := 5) dMP_4 rfl rfl ?_
  refine WP.aloadN (n := 6) dMP_5 rfl rfl rfl ?_
  refine WP.callV (n := 9) (ce' := 0) (sl' := 0) (Wd := 0) (a := o) (argsL := []) (rest := []) (own_oe l Z a0 hw EL hEL h0 o s F) A dMP_6 (hw _ (List.mem_of_getElem? (i := 89) rfl)) (hw _ (List.mem_of_getElem? (i := 90) rfl)) (hw _ (List.mem_of_getElem? (i := 92) rfl)) (hw _ (List.mem_of_getElem? (i := 91) rfl)) (hw _ (List.mem_of_getElem? (i := 54) rfl)) (hw _ (List.mem_of_getElem? (i := 93) rfl)) (by decide) (fun _ hz => notFace_of_selects (args := #[]) (mvT hz (hw _ (List.mem_of_getElem? (i := 92) rfl)))) (fun _ q => nomatch q) (by decide) (by decide) rfl rfl (by decide) (by decide) rfl rfl (lenOf own_pd16 rfl) rfl (Nat.le_of_eq rfl) rfl (fun v139 vm139 h139 q139 r139 => ?_)
  obtain ⟨rfl, rfl⟩ := q139
  refine WP.ifcY (n := 16) dMP_9 (by decide) (by decide) (by decide) ?_
  refine WP.aloadN (n := 17) dMP_16 rfl rfl rfl ?_
  refine WP.aloadN (n := 18) dMP_17 rfl rfl rfl ?_
  refine WP.getF (n := 21) (host := "") dMP_18 (Or.inl (hw _ (List.mem_of_getElem? (i := 66) rfl))) Via.refl F rfl ?_
  refine WP.callLam (n := 26) (ce' := 6) (sl' := 80) (Wd := 0) (K := "java/lang/String") (σ := own_sig) (host := "com/example/wallhour/wallhour/Choice") (fcode := own_fc) (idx := 20) (ci := 16) (cc := 14) (ft := .object "java/lang/Object") (own_lam l Z a0 hw EL hEL h0 s bs G hb hm hL cz O hO) dMP_21 (hw _ (List.mem_of_getElem? (i := 94) rfl)) (hw _ (List.mem_of_getElem? (i := 95) rfl)) (hw _ (List.mem_of_getElem? (i := 96) rfl)) (hw _ (List.mem_of_getElem? (i := 97) rfl)) (hw _ (List.mem_of_getElem? (i := 42) rfl)) (hw _ (List.mem_of_getElem? (i := 98) rfl)) ⟨rfl, rfl, by decide +kernel⟩ (by decide) ⟨rfl, rfl, by decide +kernel⟩ (by decide) hmd hfn own_fok rfl own_fcl G.1 own_f0 own_f1 own_f4 own_f7 (fun sig q => by rw [own_pd29] at q; cases q; rfl) (fun v h' q => by obtain ⟨y, rfl, -⟩ := q; exact ⟨_, rfl, rfl⟩) (fun sig q => by rw [own_pd21] at q; cases q; rfl) rfl (Nat.le_of_eq rfl) (by decide) (by decide) rfl rfl (by decide) (by decide) rfl (fun v140 vm140 h140 q140 r140 => ?_) rfl
  obtain ⟨y140, rfl, Y140, E140⟩ := q140
  refine WP.callS (n := 29) (ce' := 7) (sl' := 81) (Wd := 0) (argsL := [(.ref y140)]) (rest := []) (own_on l Z a0 hw EL hEL h140 y140 Y140.1) dMP_26 (hw _ (List.mem_of_getElem? (i := 210) rfl)) (hw _ (List.mem_of_getElem? (i := 211) rfl)) (hw _ (List.mem_of_getElem? (i := 54) rfl)) (hw _ (List.mem_of_getElem? (i := 212) rfl)) (by decide) (fun _ q => nomatch q) (by decide) (by decide) rfl rfl (by decide) (by decide) rfl rfl (lenOf own_pd24 rfl) rfl (Nat.le_of_eq rfl) rfl (fun v141 vm141 h141 q141 r141 => ?_)
  obtain ⟨o141, rfl, E141, A141, F141⟩ := q141
  exact WP.retA dMP_29 rfl rfl rfl rfl (by decide) (by decide) ⟨o141, y140, rfl, (ext_trans E140 E141), Y140.ext E141, A141, F141⟩
theorem dTO_0 : decode prog_2_method_7_code 0 = .ok (.aload_n 0, 1) := by decide +kernel
theorem dTO_1 : decode prog_2_method_7_code 1 = .ok (.getfield 7, 3) := by decide +kernel
theorem dTO_4 : decode prog_2_method_7_code 4 = .ok (.ifnull 26, 3) := by decide +kernel
theorem dTO_7 : decode prog_2_method_7_code 7 = .ok (.new 51, 3) := by decide +kernel
theorem dTO_10 : decode prog_2_method_7_code 10 = .ok (.dup, 1) := by decide +kernel
theorem dTO_11 : decode prog_2_method_7_code 11 = .ok (.invokespecial 53, 3) := by decide +kernel
theorem dTO_14 : decode prog_2_method_7_code 14 = .ok (.ldc 54, 2) := by decide +kernel
theorem dTO_16 : decode prog_2_method_7_code 16 = .ok (.invokevirtual 56, 3) := by decide +kernel
theorem dTO_19 : decode prog_2_method_7_code 19 = .ok (.aload_n 0, 1) := by decide +kernel
theorem dTO_20 : decode prog_2_method_7_code 20 = .ok (.getfield 7, 3) := by decide +kernel
theorem dTO_23 : decode prog_2_method_7_code 23 = .ok (.invokevirtual 60, 3) := by decide +kernel
theorem dTO_26 : decode prog_2_method_7_code 26 = .ok (.invokevirtual 63, 3) := by decide +kernel
theorem dTO_29 : decode prog_2_method_7_code 29 = .ok (.areturn, 1) := by decide +kernel
theorem dTO_30 : decode prog_2_method_7_code 30 = .ok (.aload_n 0, 1) := by decide +kernel
theorem dTO_31 : decode prog_2_method_7_code 31 = .ok (.getfield 13, 3) := by decide +kernel
theorem dTO_34 : decode prog_2_method_7_code 34 = .ok (.invokedynamic 67, 5) := by decide +kernel
theorem dTO_39 : decode prog_2_method_7_code 39 = .ok (.invokevirtual 71, 3) := by decide +kernel
theorem dTO_42 : decode prog_2_method_7_code 42 = .ok (.ldc 75, 2) := by decide +kernel
theorem dTO_44 : decode prog_2_method_7_code 44 = .ok (.invokevirtual 77, 3) := by decide +kernel
theorem dTO_47 : decode prog_2_method_7_code 47 = .ok (.checkcast 42, 3) := by decide +kernel
theorem dTO_50 : decode prog_2_method_7_code 50 = .ok (.areturn, 1) := by decide +kernel
set_option maxRecDepth 65536 in
set_option maxHeartbeats 40000000 in
theorem own_to (l : Launch) (Z : State) (a0 : Array Value) (hw : ∀ d ∈ tables_1, d.before a0 Z = true) (EL : List (String × Nat)) (hEL : EW Z a0 EL) (h0 : Heap) (a o : Addr) (Fc : Exa Z h0 a "com/example/wallhour/wallhour/Choice" ∧ Fld Z h0 a "com/example/wallhour/wallhour/Choice" "instant" "Ljava/time/Instant;" .null ∧ Fld Z h0 a "com/example/wallhour/wallhour/Choice" "reason" "Ljava/util/Optional;" (.ref o)) (A : Exa Z h0 o "java/util/Optional") (s : Addr) (bs : List Int32) (G : Str Z h0 s bs) (hb : bs.length ≤ 3) (hm : ("com/example/wallhour/wallhour/Choice", 81) ∈ EL) (hL : EWn Z a0 EL 16) (F : Fld Z h0 o "java/util/Optional" "value" "Ljava/lang/Object;" (.ref s)) (cz : Int32) (O : Sta Z Z.heap "java/lang/String" "COMPACT_STRINGS" "Z" (.int cz)) (hO : ¬ cz = 0) :
    Con l Z EL false [] (⟨"com/example/wallhour/wallhour/Choice", "toString", "()Ljava/lang/String;"⟩ : MethodName) prog_2_method_7_code 1 (some (.object "java/lang/String")) ({ frames := 9, cells := 9, slots := 120, locals := 3085 } : Room) #[(.ref a)] h0 (fun v h' => ∃ y, v = some (.ref y) ∧ Str Z h' y (own_R8 ++ bs) ∧ Ext h0 h') := by
  have wS : ∀ a ∈ Bundle.stringAtoms, a.before a0 Z = true := fun d hd => hw d ((by decide +kernel : ∀ d ∈ Bundle.stringAtoms, d ∈ tables_1) d hd)
  refine Con.of (Ls := #[.val (.ref a)]) (plainFor_of_name own_pn8) hEL (fun m => by first | (simp [entryFrame, mkF, argsToLocals, Value.category]; done) | rfl) ?_
  intro vm0 hZ0 hE0 hC0 hS0
  obtain ⟨c1, c2, c3⟩ := Fc
  refine WP.aloadN (n := 1) dTO_0 rfl rfl rfl ?_
  refine WP.getF (n := 4) (host := "") dTO_1 (Or.inl (hw _ (List.mem_of_getElem? (i := 72) rfl))) Via.refl c2 rfl ?_
  refine WP.ifnullY (n := 30) dTO_4 (by decide) (by decide) ?_
  refine WP.aloadN (n := 31) dTO_30 rfl rfl rfl ?_
  refine WP.getF (n := 34) (host := "") dTO_31 (Or.inl (hw _ (List.mem_of_getElem? (i := 74) rfl))) Via.refl c3 rfl ?_
  refine WP.indy (n := 39) (Wd := 1) (σ := own_sig) dTO_34 (hw _ (List.mem_of_getElem? (i := 81) rfl)) rfl rfl (Nat.le_of_eq rfl) (by decide) rfl (fun f cK hmd hfn => ?_)
  refine WP.callV (n := 42) (ce' := 7) (sl' := 81) (Wd := 0) (a := o) (argsL := [(.ref f)]) (rest := []) (own_map l Z a0 hw EL hEL h0 o f cK A s bs G hb hm hL F hmd hfn cz O hO) A dTO_39 (hw _ (List.mem_of_getElem? (i := 84) rfl)) (hw _ (List.mem_of_getElem? (i := 85) rfl)) (hw _ (List.mem_of_getElem? (i := 87) rfl)) (hw _ (List.mem_of_getElem? (i := 86) rfl)) (hw _ (List.mem_of_getElem? (i := 54) rfl)) (hw _ (List.mem_of_getElem? (i := 88) rfl)) (by decide) (fun _ hz => notFace_of_selects (args := #[]) (mvT hz (hw _ (List.mem_of_getElem? (i := 87) rfl)))) (fun _ q => nomatch q) (by decide) (by decide) rfl rfl (by decide) (by decide) rfl rfl (lenOf own_pd30 rfl) rfl (Nat.le_of_eq rfl) rfl (fun v142 vm142 h142 q142 r142 => ?_)
  obtain ⟨o142, y142, rfl, E142, Y142, A142, F142⟩ := q142
  refine WP.ldcO (n := 44) (nn := 24) (ce' := 9) (sl' := 109) dTO_42 rfl (hw _ (List.mem_of_getElem? (i := 213) rfl)) wS (by decide) (by decide) rfl rfl (by decide) (by decide) hEL rfl (fun a143 vm143 h143 E143 r143 => ?_)
  refine WP.callV (n := 47) (ce' := 9) (sl' := 109) (Wd := 0) (a := o142) (argsL := [(.ref a143)]) (rest := []) (own_oo l Z a0 hw EL hEL h143 o142 y142 (F142.ext E143) a143) (A142.ext E143) dTO_44 (hw _ (List.mem_of_getElem? (i := 214) rfl)) (hw _ (List.mem_of_getElem? (i := 215) rfl)) (hw _ (List.mem_of_getElem? (i := 217) rfl)) (hw _ (List.mem_of_getElem? (i := 216) rfl)) (hw _ (List.mem_of_getElem? (i := 54) rfl)) (hw _ (List.mem_of_getElem? (i := 218) rfl)) (by decide) (fun _ hz => notFace_of_selects (args := #[]) (mvT hz (hw _ (List.mem_of_getElem? (i := 217) rfl)))) (fun _ q => nomatch q) (by decide) (by decide) rfl rfl (by decide) (by decide) rfl rfl (lenOf own_pd21 rfl) rfl (Nat.le_of_eq rfl) rfl (fun v144 vm144 h144 q144 r144 => ?_)
  obtain ⟨rfl, rfl⟩ := q144
  refine WP.castY (n := 50) dTO_47 (hw _ (List.mem_of_getElem? (i := 51) rfl)) (Ins.self (Y142.ext E143).1) rfl ?_
  exact WP.retA dTO_50 rfl rfl rfl rfl (by decide) (by decide) ⟨_, rfl, (Y142.ext E143), (ext_trans E142 E143)⟩
set_option maxRecDepth 65536 in
set_option maxHeartbeats 40000000 in
theorem own_law (l : Launch) (Z : State) (a0 : Array Value) (hw : ∀ d ∈ tables_1, d.before a0 Z = true) (EL : List (String × Nat)) (hEL : EW Z a0 EL) (h0 : Heap) (i0 i1 i2 i3 : Int32) (hm7 : ("java/lang/String", 7) ∈ EL) (hm : ("com/example/wallhour/wallhour/Choice", 81) ∈ EL) (hL : EWn Z a0 EL 16) (cz : Int32) (O : Sta Z Z.heap "java/lang/String" "COMPACT_STRINGS" "Z" (.int cz)) (hO : ¬ cz = 0) :
    Con l Z EL false [] x code maxLocals ret room_1 #[(.int i0), (.int i1), (.int i2), (.int i3)] h0 (fun v h' => v = some (.int 1)) := by
  refine Con.of (Ls := #[.val (.int i0), .val (.int i1), .val (.int i2), .val (.int i3), .unset, .unset, .unset, .unset, .unset, .unset, .unset, .unset]) (plainFor_of_name own_pn6) hEL (fun m => by first | (simp [entryFrame, mkF, argsToLocals, Value.category, maxLocals]; done) | rfl) ?_
  intro vm0 hZ0 hE0 hC0 hS0
  show WP l Z EL false "com/example/wallhour/wallhour/ChoiceRejectPinLaw" "law" "(IIII)Z" code maxLocals ret room_1 _ vm0 h0 0 0 0 _ _
  refine WP.iloadN (n := 1) at_0 rfl rfl ?_
  refine WP.iconst (n := 2) (z := (3 : Int32)) at_1 rfl rfl ?_
  refine WP.iand (n := 3) at_2  rfl ?_
  refine WP.istore (n := 5) (Ls' := #[.val (.int i0), .val (.int i1), .val (.int i2), .val (.int i3), .val (.int (i0 &&& (3 : Int32))), .unset, .unset, .unset, .unset, .unset, .unset, .unset]) at_3 rfl rfl ?_
  refine WP.iloadN (n := 6) at_5 rfl rfl ?_
  refine WP.sipush (n := 9) (z := (255 : Int32)) at_6 (by decide) rfl ?_
  refine WP.iand (n := 10) at_9  rfl ?_
  refine WP.i2c (n := 11) (z := (i1 &&& (255 : Int32))) at_10 (own_c16 (own_c8r _)) rfl ?_
  refine WP.istore (n := 13) (Ls' := #[.val (.int i0), .val (.int i1), .val (.int i2), .val (.int i3), .val (.int (i0 &&& (3 : Int32))), .val (.int (i1 &&& (255 : Int32))), .unset, .unset, .unset, .unset, .unset, .unset]) at_11 rfl rfl ?_
  refine WP.iloadN (n := 14) at_13 rfl rfl ?_
  refine WP.sipush (n := 17) (z := (255 : Int32)) at_14 (by decide) rfl ?_
  refine WP.iand (n := 18) at_17  rfl ?_
  refine WP.i2c (n := 19) (z := (i2 &&& (255 : Int32))) at_18 (own_c16 (own_c8r _)) rfl ?_
  refine WP.istore (n := 21) (Ls' := #[.val (.int i0), .val (.int i1), .val (.int i2), .val (.int i3), .val (.int (i0 &&& (3 : Int32))), .val (.int (i1 &&& (255 : Int32))), .val (.int (i2 &&& (255 : Int32))), .unset, .unset, .unset, .unset, .unset]) at_19 rfl rfl ?_
  refine WP.iloadN (n := 22) at_21 rfl rfl ?_
  refine WP.sipush (n := 25) (z := (255 : Int32)) at_22 (by decide) rfl ?_
  refine WP.iand (n := 26) at_25  rfl ?_
  refine WP.i2c (n := 27) (z := (i3 &&& (255 : Int32))) at_26 (own_c16 (own_c8r _)) rfl ?_
  refine WP.istore (n := 29) (Ls' := #[.val (.int i0), .val (.int i1), .val (.int i2), .val (.int i3), .val (.int (i0 &&& (3 : Int32))), .val (.int (i1 &&& (255 : Int32))), .val (.int (i2 &&& (255 : Int32))), .val (.int (i3 &&& (255 : Int32))), .unset, .unset, .unset, .unset]) at_27 rfl rfl ?_
  refine WP.iload (n := 31) at_29 rfl rfl ?_
  refine WP.iload (n := 33) at_31 rfl rfl ?_
  refine WP.iload (n := 35) at_33 rfl rfl ?_
  refine WP.iload (n := 37) at_35 rfl rfl ?_
  refine WP.callS (n := 40) (ce' := 5) (sl' := 30) (Wd := 0) (argsL := [(.int (i0 &&& (3 : Int32))), (.int (i1 &&& (255 : Int32))), (.int (i2 &&& (255 : Int32))), (.int (i3 &&& (255 : Int32)))]) (rest := []) (own_txt l Z a0 hw EL hEL h0 (i0 &&& (3 : Int32)) (i1 &&& (255 : Int32)) (own_c8r _) (i2 &&& (255 : Int32)) (own_c8r _) (i3 &&& (255 : Int32)) (own_c8r _) hm7 cz O hO) at_37 (hw _ (List.mem_of_getElem? (i := 0) rfl)) (hw _ (List.mem_of_getElem? (i := 1) rfl)) (hw _ (List.mem_of_getElem? (i := 2) rfl)) (hw _ (List.mem_of_getElem? (i := 3) rfl)) (by decide) (fun _ q => nomatch q) (by decide) (by decide) rfl rfl (by decide) (by decide) rfl rfl (lenOf own_pd31 rfl) rfl (Nat.le_of_eq rfl) rfl (fun v145 vm145 h145 q145 r145 => ?_)
  obtain ⟨s145, rfl, F145, E145⟩ := q145
  refine WP.astore (n := 42) (Ls' := #[.val (.int i0), .val (.int i1), .val (.int i2), .val (.int i3), .val (.int (i0 &&& (3 : Int32))), .val (.int (i1 &&& (255 : Int32))), .val (.int (i2 &&& (255 : Int32))), .val (.int (i3 &&& (255 : Int32))), .val (.ref s145), .unset, .unset, .unset]) at_40 rfl rfl rfl ?_
  refine WP.iload (n := 44) at_42 rfl rfl ?_
  refine WP.iload (n := 46) at_44 rfl rfl ?_
  refine WP.iload (n := 48) at_46 rfl rfl ?_
  refine WP.iload (n := 50) at_48 rfl rfl ?_
  refine WP.callS (n := 53) (ce' := 10) (sl' := 60) (Wd := 0) (argsL := [(.int (i0 &&& (3 : Int32))), (.int (i1 &&& (255 : Int32))), (.int (i2 &&& (255 : Int32))), (.int (i3 &&& (255 : Int32)))]) (rest := []) (own_shw l Z a0 hw EL hEL h145 (i0 &&& (3 : Int32)) (i1 &&& (255 : Int32)) (own_c8r _) (i2 &&& (255 : Int32)) (own_c8r _) (i3 &&& (255 : Int32)) (own_c8r _) hm7 cz O hO) at_50 (hw _ (List.mem_of_getElem? (i := 26) rfl)) (hw _ (List.mem_of_getElem? (i := 27) rfl)) (hw _ (List.mem_of_getElem? (i := 2) rfl)) (hw _ (List.mem_of_getElem? (i := 28) rfl)) (by decide) (fun _ q => nomatch q) (by decide) (by decide) rfl rfl (by decide) (by decide) rfl rfl (lenOf own_pd31 rfl) rfl (Nat.le_of_eq rfl) rfl (fun v146 vm146 h146 q146 r146 => ?_)
  obtain ⟨s146, rfl, F146, E146⟩ := q146
  refine WP.astore (n := 55) (Ls' := #[.val (.int i0), .val (.int i1), .val (.int i2), .val (.int i3), .val (.int (i0 &&& (3 : Int32))), .val (.int (i1 &&& (255 : Int32))), .val (.int (i2 &&& (255 : Int32))), .val (.int (i3 &&& (255 : Int32))), .val (.ref s145), .val (.ref s146), .unset, .unset]) at_53 rfl rfl rfl ?_
  refine WP.aload (n := 57) at_55 rfl rfl rfl ?_
  refine WP.callS (n := 60) (ce' := 14) (sl' := 150) (Wd := 0) (argsL := [(.ref s145)]) (rest := []) (own_rj l Z a0 hw EL hEL h146 s145 (own_tx (i0 &&& (3 : Int32)) (i1 &&& (255 : Int32)) (i2 &&& (255 : Int32)) (i3 &&& (255 : Int32))) (F145.ext E146)) at_57 (hw _ (List.mem_of_getElem? (i := 40) rfl)) (hw _ (List.mem_of_getElem? (i := 41) rfl)) (hw _ (List.mem_of_getElem? (i := 42) rfl)) (hw _ (List.mem_of_getElem? (i := 43) rfl)) (by decide) (fun _ q => nomatch q) (by decide) (by decide) rfl rfl (by decide) (by decide) rfl rfl (lenOf own_pd32 rfl) rfl (Nat.le_of_eq rfl) rfl (fun v147 vm147 h147 q147 r147 => ?_)
  obtain ⟨a147, o147, rfl, E147, C147, A147, F147⟩ := q147
  refine WP.astore (n := 62) (Ls' := #[.val (.int i0), .val (.int i1), .val (.int i2), .val (.int i3), .val (.int (i0 &&& (3 : Int32))), .val (.int (i1 &&& (255 : Int32))), .val (.int (i2 &&& (255 : Int32))), .val (.int (i3 &&& (255 : Int32))), .val (.ref s145), .val (.ref s146), .val (.ref a147), .unset]) at_60 rfl rfl rfl ?_
  refine WP.aload (n := 64) at_62 rfl rfl rfl ?_
  refine WP.callV (n := 67) (ce' := 23) (sl' := 270) (Wd := 0) (a := a147) (argsL := []) (rest := []) (own_to l Z a0 hw EL hEL h147 a147 o147 C147 A147 s145 (own_tx (i0 &&& (3 : Int32)) (i1 &&& (255 : Int32)) (i2 &&& (255 : Int32)) (i3 &&& (255 : Int32))) (F145.ext (ext_trans E146 E147)) (own_txle ..) hm hL F147 cz O hO) C147.1 at_64 (hw _ (List.mem_of_getElem? (i := 76) rfl)) (hw _ (List.mem_of_getElem? (i := 77) rfl)) (hw _ (List.mem_of_getElem? (i := 79) rfl)) (hw _ (List.mem_of_getElem? (i := 78) rfl)) (hw _ (List.mem_of_getElem? (i := 42) rfl)) (hw _ (List.mem_of_getElem? (i := 80) rfl)) (by decide) (fun _ hz => notFace_of_selects (args := #[]) (mvT hz (hw _ (List.mem_of_getElem? (i := 79) rfl)))) (fun _ q => nomatch q) (by decide) (by decide) rfl rfl (by decide) (by decide) rfl rfl (lenOf own_pd28 rfl) rfl (Nat.le_of_eq rfl) rfl (fun v148 vm148 h148 q148 r148 => ?_)
  obtain ⟨y148, rfl, F148, E148⟩ := q148
  refine WP.astore (n := 69) (Ls' := #[.val (.int i0), .val (.int i1), .val (.int i2), .val (.int i3), .val (.int (i0 &&& (3 : Int32))), .val (.int (i1 &&& (255 : Int32))), .val (.int (i2 &&& (255 : Int32))), .val (.int (i3 &&& (255 : Int32))), .val (.ref s145), .val (.ref s146), .val (.ref a147), .val (.ref y148)]) at_67 rfl rfl rfl ?_
  refine WP.aload (n := 71) at_69 rfl rfl rfl ?_
  refine WP.aload (n := 73) at_71 rfl rfl rfl ?_
  refine WP.callV (n := 76) (ce' := 23) (sl' := 270) (Wd := 0) (a := y148) (argsL := [(.ref s146)]) (rest := []) (own_seq l Z a0 hw EL hEL h148 y148 s146 (own_R8 ++ (own_tx (i0 &&& (3 : Int32)) (i1 &&& (255 : Int32)) (i2 &&& (255 : Int32)) (i3 &&& (255 : Int32)))) (own_R8 ++ (own_tx (i0 &&& (3 : Int32)) (i1 &&& (255 : Int32)) (i2 &&& (255 : Int32)) (i3 &&& (255 : Int32)))) F148 (F146.ext (ext_trans E147 E148)) cz O hO) F148.1 at_73 (hw _ (List.mem_of_getElem? (i := 219) rfl)) (hw _ (List.mem_of_getElem? (i := 220) rfl)) (hw _ (List.mem_of_getElem? (i := 222) rfl)) (hw _ (List.mem_of_getElem? (i := 221) rfl)) (hw _ (List.mem_of_getElem? (i := 6) rfl)) (hw _ (List.mem_of_getElem? (i := 223) rfl)) (by decide) (fun _ hz => notFace_of_selects (args := #[]) (mvT hz (hw _ (List.mem_of_getElem? (i := 222) rfl)))) (fun _ q => nomatch q) (by decide) (by decide) rfl rfl (by decide) (by decide) rfl rfl (lenOf own_pd33 rfl) rfl (Nat.le_of_eq rfl) rfl (fun v149 vm149 h149 q149 r149 => ?_)
  obtain ⟨rfl, rfl⟩ := q149
  rw [if_pos rfl]
  refine WP.ifcN (n' := 79) at_76 (by decide) rfl ?_
  refine WP.aload (n := 81) at_79 rfl rfl rfl ?_
  refine WP.callV (n := 84) (ce' := 23) (sl' := 270) (Wd := 0) (a := s145) (argsL := []) (rest := []) (own_len l Z a0 hw EL hEL h148 s145 (own_tx (i0 &&& (3 : Int32)) (i1 &&& (255 : Int32)) (i2 &&& (255 : Int32)) (i3 &&& (255 : Int32))) (F145.ext (ext_trans E146 (ext_trans E147 E148))) cz O hO) (F145.ext (ext_trans E146 (ext_trans E147 E148))).1 at_81 (hw _ (List.mem_of_getElem? (i := 229) rfl)) (hw _ (List.mem_of_getElem? (i := 129) rfl)) (hw _ (List.mem_of_getElem? (i := 131) rfl)) (hw _ (List.mem_of_getElem? (i := 130) rfl)) (hw _ (List.mem_of_getElem? (i := 6) rfl)) (hw _ (List.mem_of_getElem? (i := 132) rfl)) (by decide) (fun _ hz => notFace_of_selects (args := #[]) (mvT hz (hw _ (List.mem_of_getElem? (i := 131) rfl)))) (fun _ q => nomatch q) (by decide) (by decide) rfl rfl (by decide) (by decide) rfl rfl (lenOf own_pd9 rfl) rfl (Nat.le_of_eq rfl) rfl (fun v150 vm150 h150 q150 r150 => ?_)
  obtain ⟨rfl, rfl⟩ := q150
  rw [own_txlen]
  refine WP.iload (n := 86) at_84 rfl rfl ?_
  refine WP.icmpN (n' := 89) at_86 (teq rfl).2 rfl ?_
  refine WP.iconst (n := 90) (z := (1 : Int32)) at_89 rfl rfl ?_
  refine WP.goto (n := 94) at_90 (by decide) (by decide) ?_
  exact WP.retN at_94 rfl (Or.inl rfl) (by decide : nar .boolean 1 = 1) (by decide) (by decide) rfl
set_option maxRecDepth 65536 in
set_option maxHeartbeats 40000000 in
theorem comes_1 {Post : Tables → Env → Array Value → State → Outcome → State → Prop} (hpost : ∀ tb e args s v u, (limb_1_1.after args s (.returned v) u = true ∧ limb_1_2.after args s (.returned v) u = true ∧ True) → FramedW s (.returned v) u (Jvm.fieldLocs frame_1_writes args s ++ Jvm.arrayLocs frame_1_arrays args s ++ Jvm.staticLocs frame_1_statics s) 48 4352 → Post tb e args s (.returned v) u) :
    ArmFor flags0 classFile x code maxLocals ret World_1 tables_1 room_1 Calls_1 rest_1 Pre_1 Post := by
  intro l hfl _ _ p e ha hc hk s m args below hf hA hF happ hP
  obtain ⟨hcalls, hrest, hpre⟩ := hP
  obtain ⟨-, -, -, hnamed, -, -, -, hat⟩ := (Spec.applies_iff hf).mp happ
  obtain ⟨hg, hn⟩ := and_e (Cond.before_iff.mp (show (Jvm.Cond.and given_1 narrow_1).before args s = true from hpre))
  obtain ⟨h1, g0'⟩ := and_e hg
  obtain ⟨w0, w1, w2, w3, rfl⟩ : ∃ w0 w1 w2 w3 : Value, args = #[w0, w1, w2, w3] := by
    have hs : args.size = 4 := by simpa [Cond.value, given_1] using h1
    obtain ⟨L⟩ := args
    match L, hs with
    | [w0, w1, w2, w3], _ => exact ⟨w0, w1, w2, w3, rfl⟩
  have hw := fun d (hd : d ∈ tables_1) => atoms_spec (ws := Jvm.Cond.code x code maxLocals ret :: tables_1) hat d (List.mem_cons_of_mem _ hd)
  obtain ⟨g0, g1'⟩ := and_e g0'
  obtain ⟨i0, e0⟩ := is_v g0
  obtain rfl : w0 = (.int i0) := Option.some.inj e0
  obtain ⟨g1, g2'⟩ := and_e g1'
  obtain ⟨i1, e1⟩ := is_v g1
  obtain rfl : w1 = (.int i1) := Option.some.inj e1
  obtain ⟨g2, g3'⟩ := and_e g2'
  obtain ⟨i2, e2⟩ := is_v g2
  obtain rfl : w2 = (.int i2) := Option.some.inj e2
  have g3 := g3'
  obtain ⟨i3, e3⟩ := is_v g3
  obtain rfl : w3 = (.int i3) := Option.some.inj e3
  obtain ⟨hsets, hown0⟩ := atoms_of _ (rest_1_c_eq ▸ (show rest_1_c.before _ s = true from hrest))
  have n3 := not_v (Cond.before_iff.mp (hsets _ (List.mem_of_getElem? (i := 2) rfl)))
  obtain ⟨i7, e7⟩ := is_v (Cond.before_iff.mp (hsets _ (List.mem_of_getElem? (i := 1) rfl)))
  have S8 : Sta s s.heap "java/lang/String" "COMPACT_STRINGS" "Z" (.int i7) := Sta.start e7 (Or.inl (hsets _ (List.mem_of_getElem? (i := 0) rfl)))
  have c13 : ¬ (i7 = (0 : Int32)) := gotF (Cond.eq_ints e7 (Term.int_eval (0))) n3
  have hEL : EW s _ consts_1 := (EW.cons (text := "reason is null") (hw _ (List.mem_of_getElem? (i := 46) rfl)) (by decide) (EW.cons (text := "reject") (hw _ (List.mem_of_getElem? (i := 213) rfl)) (by decide) (EW.cons (text := "reject: ") (hw _ (List.mem_of_getElem? (i := 117) rfl)) (by decide) (EW.cons (text := "") (hw _ (List.mem_of_getElem? (i := 18) rfl)) (by decide) EW.nil))))
  have hCH : CHv s consts_1 s.vm s.heap := CHv.start hEL (fun p hp => hcalls.1 p hp) (hsets _ (List.mem_of_getElem? (i := 2) rfl)) (hw _ (List.mem_of_getElem? (i := 19) rfl)) (hw _ (List.mem_of_getElem? (i := 5) rfl))
  have hLL : EWn s _ consts_1 16 := (EWn.cons (text := "reason is null") (hw _ (List.mem_of_getElem? (i := 46) rfl)) (by decide) (by decide) (EWn.cons (text := "reject") (hw _ (List.mem_of_getElem? (i := 213) rfl)) (by decide) (by decide) (EWn.cons (text := "reject: ") (hw _ (List.mem_of_getElem? (i := 117) rfl)) (by decide) (by decide) (EWn.cons (text := "") (hw _ (List.mem_of_getElem? (i := 18) rfl)) (by decide) (by decide) EWn.nil))))
  obtain ⟨n, o, h1, h2, h3, _, L, rfl, rfl, hE, N, hCh, hNar, hq⟩ := own_law l s _ hw consts_1 hEL s.heap i0 i1 i2 i3 (List.mem_of_getElem? (i := 3) rfl) (List.mem_of_getElem? (i := 2) rfl) hLL i7 S8 c13 tables_1 p e ha hc hk s m _ below hf ((Spec.applies_iff_loose hf).mp happ).1 ⟨rfl, State.Warmed39.refl s, rfl, ext_refl _, hCH, (fun _ q => nomatch q)⟩ trivial
  obtain ⟨q1, q2, q3, q4⟩ := hq
  refine ⟨n, _, h1, h2, h3, hpost _ _ _ _ _ _ ⟨Cond.after_iff.mpr rfl, Cond.after_iff.mpr (eq_i res_at (Term.int_eval (1)) rfl), trivial⟩ ⟨q1, q2, q3, (q4.sift fun y hy => Or.inr (N y hy)).mono (by decide) (by decide)⟩⟩
theorem main_1_1 : Claimed_1_1 := comes_1 fun _ _ _ _ _ _ h hF => ⟨h.1, hF⟩
theorem main_1_2 : Claimed_1_2 := comes_1 fun _ _ _ _ _ _ h hF => ⟨h.2.1, hF⟩
end Jvm.Pilot.@@N@@
namespace Jvm.Pilot.@@N@@
open Jvm Jvm.ClassFile Sem Op Lib Jvm.Free Jvm.Stand Jvm.Pilot.@@N@@.Jvm.D
/-! MADE BY PROGRAM (witnessworld.py) out of the Statement's table words and the real class files: 30 classes; the members and pool entries that the words name. The judged class is class 1, her method 1. -/
namespace start1
open Jvm.ClassFile
def u (s : String) : CpInfo := .utf8 (stringToUtf16 s)
/-- a pool by its gaps: so many unusable entries, then the entry; so many at the end -/
def gap : Nat → List CpInfo → List CpInfo
  | 0, r => r
  | n + 1, r => .unusable :: gap n r
def poolList (es : List (Nat × CpInfo)) (last : Nat) : List CpInfo := es.foldr (fun e r => gap e.1 (e.2 :: r)) (gap last [])
def pool (es : List (Nat × CpInfo)) (last : Nat) : Array CpInfo := ⟨poolList es last⟩
def fileOf (pool : Array CpInfo) (this : Nat) (attrs : Array Attribute := #[]) (ms : Array MethodInfo := #[]) (fl : Nat := 33) (sup : Nat := 0) (ifs : Array Nat := #[]) (fds : Array FieldInfo := #[]) : ClassFile where
  minorVersion := 0
  majorVersion := 65
  constantPool := pool
  accessFlags := fl
  thisClass := this
  superClass := sup
  interfaces := ifs
  fields := fds
  methods := ms
  attributes := attrs
def plain (name : String) (sup : Option ClassId) : Class where
  name := name
  kind := .ordinary
  loader := none
  accessFlags := 33
  super := sup
  interfaces := #[]
  cf := none
  fields := #[]
  methods := #[]
  instanceTypes := #[]
  staticTypes := #[]
  resolved := #[]
  callSites := []
  init := .initialized
  statics := none
  mirror := none

def pool0 : Array CpInfo := pool [(5, u "<init>"), (0, u "()V"), (1, .class_ 10), (1, u "java/lang/Object")] 113

def k0c0 : Code := { maxStack := 0, maxLocals := 1, code := object_method_1_code, exceptionTable := #[], attributes := #[] }
def k0m0 : Method := { name := "<init>", desc := "()V", sig := { parameters := [], returnType := none }, accessFlags := 1, code := some k0c0 }
/-- java/lang/Object -/
def k0 : Class := { plain "java/lang/Object" none with
  accessFlags := 33
  interfaces := #[]
  cf := some (fileOf pool0 8 #[] #[{ accessFlags := 1, nameIndex := 5, descriptorIndex := 6, attributes := #[] }] 33 0 #[] #[])
  fields := #[]
  methods := #[k0m0]
  instanceTypes := #[]
  staticTypes := #[]
  resolved := Array.replicate 124 none
  statics := none }

def pool1 : Array CpInfo := pool [(2, .class_ 4), (1, u "java/lang/Object"), (0, u "<init>"), (0, u "()V"), (0, .methodref 8 9), (0, .class_ 10), (0, .nameAndType 11 12), (0, u "com/example/wallhour/wallhour/ChoiceRejectPinLaw"), (0, u "text"), (0, u "(ICCC)Ljava/lang/String;"), (0, .methodref 8 14), (0, .nameAndType 15 12), (0, u "shown"), (0, .methodref 17 18), (0, .class_ 19), (0, .nameAndType 20 21), (0, u "com/example/wallhour/wallhour/Choice"), (0, u "reject"), (0, u "(Ljava/lang/String;)Lcom/example/wallhour/wallhour/Choice;"), (0, .methodref 17 23), (0, .nameAndType 24 25), (0, u "toString"), (0, u "()Ljava/lang/String;"), (0, .methodref 27 28), (0, .class_ 29), (0, .nameAndType 30 31), (0, u "java/lang/String"), (0, u "equals"), (0, u "(Ljava/lang/Object;)Z"), (0, .methodref 27 33), (0, .nameAndType 34 35), (0, u "length"), (0, u "()I"), (0, .methodref 27 37), (0, .nameAndType 5 38), (0, u "([C)V"), (0, .methodref 27 40), (0, .nameAndType 41 42), (0, u "valueOf"), (0, u "(C)Ljava/lang/String;"), (2, u "law"), (0, u "(IIII)Z")] 3

def k1m0 : Method := { name := "<init>", desc := "()V", sig := { parameters := [], returnType := none }, accessFlags := 1, code := none }
def k1c1 : Code := { maxStack := 4, maxLocals := 12, code := code, exceptionTable := #[], attributes := #[] }
def k1m1 : Method := { name := "law", desc := "(IIII)Z", sig := { parameters := [.int, .int, .int, .int], returnType := some .boolean }, accessFlags := 9, code := some k1c1 }
def k1c2 : Code := { maxStack := 6, maxLocals := 4, code := method_3_code, exceptionTable := #[], attributes := #[] }
def k1m2 : Method := { name := "text", desc := "(ICCC)Ljava/lang/String;", sig := { parameters := [.int, .char, .char, .char], returnType := some (.object "java/lang/String") }, accessFlags := 10, code := some k1c2 }
def k1c3 : Code := { maxStack := 6, maxLocals := 4, code := method_4_code, exceptionTable := #[], attributes := #[] }
def k1m3 : Method := { name := "shown", desc := "(ICCC)Ljava/lang/String;", sig := { parameters := [.int, .char, .char, .char], returnType := some (.object "java/lang/String") }, accessFlags := 10, code := some k1c3 }
/-- com/example/wallhour/wallhour/ChoiceRejectPinLaw -/
def k1 : Class := { plain "com/example/wallhour/wallhour/ChoiceRejectPinLaw" (some 0) with
  accessFlags := 49
  interfaces := #[]
  cf := some (fileOf pool1 8 #[] #[{ accessFlags := 1, nameIndex := 5, descriptorIndex := 6, attributes := #[] }, { accessFlags := 9, nameIndex := 45, descriptorIndex := 46, attributes := #[] }, { accessFlags := 10, nameIndex := 11, descriptorIndex := 12, attributes := #[] }, { accessFlags := 10, nameIndex := 15, descriptorIndex := 12, attributes := #[] }] 49 2 #[] #[])
  fields := #[]
  methods := #[k1m0, k1m1, k1m2, k1m3]
  instanceTypes := #[]
  staticTypes := #[]
  resolved := Array.replicate 50 none
  statics := none }

def pool2 : Array CpInfo := pool [(1, .class_ 2), (0, u "java/io/Serializable"), (0, .class_ 4), (0, u "java/lang/Object")] 2

/-- java/io/Serializable -/
def k2 : Class := { plain "java/io/Serializable" (some 0) with
  accessFlags := 1537
  interfaces := #[]
  cf := some (fileOf pool2 1 #[] #[] 1537 3 #[] #[])
  fields := #[]
  methods := #[]
  instanceTypes := #[]
  staticTypes := #[]
  resolved := Array.replicate 7 none
  statics := none }

def pool3 : Array CpInfo := pool [(1, .class_ 2), (0, u "java/lang/Comparable"), (0, .class_ 4), (0, u "java/lang/Object")] 7

/-- java/lang/Comparable -/
def k3 : Class := { plain "java/lang/Comparable" (some 0) with
  accessFlags := 1537
  interfaces := #[]
  cf := some (fileOf pool3 1 #[] #[] 1537 3 #[] #[])
  fields := #[]
  methods := #[]
  instanceTypes := #[]
  staticTypes := #[]
  resolved := Array.replicate 12 none
  statics := none }

def pool4 : Array CpInfo := pool [(2, .class_ 4), (1, u "java/lang/CharSequence"), (42, .class_ 48), (0, u "java/lang/CharSequence$1CodePointIterator"), (10, .class_ 60), (0, u "java/lang/CharSequence$1CharIterator"), (5, .class_ 67), (0, u "java/lang/Object")] 63

/-- java/lang/CharSequence -/
def k4 : Class := { plain "java/lang/CharSequence" (some 0) with
  accessFlags := 1537
  interfaces := #[]
  cf := some (fileOf pool4 2 #[.nestMembers #[47, 59]] #[] 1537 66 #[] #[])
  fields := #[]
  methods := #[]
  instanceTypes := #[]
  staticTypes := #[]
  resolved := Array.replicate 131 none
  statics := none }

def pool5 : Array CpInfo := pool [(1, .class_ 2), (0, u "java/lang/constant/Constable"), (0, .class_ 4), (0, u "java/lang/Object")] 6

/-- java/lang/constant/Constable -/
def k5 : Class := { plain "java/lang/constant/Constable" (some 0) with
  accessFlags := 1537
  interfaces := #[]
  cf := some (fileOf pool5 1 #[] #[] 1537 3 #[] #[])
  fields := #[]
  methods := #[]
  instanceTypes := #[]
  staticTypes := #[]
  resolved := Array.replicate 11 none
  statics := none }

def pool6 : Array CpInfo := pool [(1, .class_ 2), (0, u "java/lang/constant/ConstantDesc"), (0, .class_ 4), (0, u "java/lang/Object")] 32

/-- java/lang/constant/ConstantDesc -/
def k6 : Class := { plain "java/lang/constant/ConstantDesc" (some 0) with
  accessFlags := 1537
  interfaces := #[]
  cf := some (fileOf pool6 1 #[] #[] 1537 3 #[] #[])
  fields := #[]
  methods := #[]
  instanceTypes := #[]
  staticTypes := #[]
  resolved := Array.replicate 37 none
  statics := none }

def pool7 : Array CpInfo := pool [(1, .methodref 2 3), (0, .class_ 4), (0, .nameAndType 5 6), (0, u "java/lang/Object"), (0, u "<init>"), (0, u "()V"), (0, .string 8), (0, u ""), (0, .fieldref 10 11), (0, .class_ 12), (0, .nameAndType 13 14), (0, u "java/lang/String"), (0, u "value"), (0, u "[B"), (0, .fieldref 10 16), (0, .nameAndType 17 18), (0, u "coder"), (0, u "B"), (2, u "hash"), (0, u "I"), (2, u "hashIsZero"), (0, u "Z"), (0, .methodref 10 28), (0, .nameAndType 5 29), (0, u "([CIILjava/lang/Void;)V"), (8, .fieldref 10 39), (0, .nameAndType 40 26), (0, u "COMPACT_STRINGS"), (1, .class_ 44), (1, u "java/lang/StringUTF16"), (0, u "compress"), (1, .methodref 42 48), (0, .nameAndType 49 50), (0, u "coderFromArrayLen"), (0, u "([BI)B"), (2, u "toBytes"), (0, .methodref 55 56), (0, .class_ 57), (0, .nameAndType 58 59), (0, u "java/util/Arrays"), (0, u "copyOfRange"), (0, u "([BII)[B"), (47, .class_ 109), (1, u "java/lang/StringLatin1"), (32, u "()Z"), (34, .methodref 42 178), (0, .nameAndType 45 179), (0, u "([CII)[B"), (13, .class_ 195), (1, u "java/lang/System"), (13, .methodref 10 210), (0, .nameAndType 5 211), (0, u "([BB)V"), (0, .methodref 193 213), (0, .nameAndType 214 215), (0, u "arraycopy"), (0, u "(Ljava/lang/Object;ILjava/lang/Object;II)V"), (118, u "()I"), (0, .methodref 10 336), (0, .nameAndType 17 337), (0, u "()B"), (2, u "()[B"), (28, u "(C)Z"), (119, .methodref 10 490), (0, .nameAndType 5 491), (0, u "(Ljava/lang/AbstractStringBuilder;Ljava/lang/Void;)V"), (1, .nameAndType 494 142), (0, u "isLatin1"), (11, .nameAndType 507 334), (0, u "length"), (24, u "getBytes"), (8, .methodref 107 542), (0, .nameAndType 543 544), (0, u "equals"), (0, u "([B[B)Z"), (4, .methodref 550 506), (0, .class_ 551), (0, u "java/lang/AbstractStringBuilder"), (0, .methodref 550 553), (0, .nameAndType 554 340), (0, u "getValue"), (18, u "(Ljava/lang/Object;)Z"), (1, .class_ 576), (0, u "java/lang/CharSequence"), (22, u "CASE_INSENSITIVE_ORDER"), (0, u "Ljava/util/Comparator;"), (181, u "valueOf"), (0, u "(C)Ljava/lang/String;"), (37, u "([BIB)V"), (188, u "([C)V"), (4, .methodref 107 1016), (0, .nameAndType 1017 369), (0, u "canEncode"), (0, .methodref 107 1019), (0, .nameAndType 53 1020), (0, u "(C)[B"), (26, .methodref 550 493), (53, u "serialPersistentFields"), (0, u "[Ljava/io/ObjectStreamField;"), (0, .class_ 1104), (0, u "java/lang/String$CaseInsensitiveComparator"), (1, .class_ 1107), (0, u "java/io/Serializable"), (0, .class_ 1109), (0, u "java/lang/Comparable"), (0, .class_ 1111), (0, u "java/lang/constant/Constable"), (0, .class_ 1113), (0, u "java/lang/constant/ConstantDesc"), (2, u "serialVersionUID"), (0, u "J"), (3, u "REPL"), (0, u "C"), (2, u "LATIN1"), (1, u "UTF16"), (105, u "(Ljava/lang/StringBuilder;)V")] 217

def k7m0 : Method := { name := "<init>", desc := "()V", sig := { parameters := [], returnType := none }, accessFlags := 1, code := none }
def k7c1 : Code := { maxStack := 5, maxLocals := 2, code := jdk_42_method_3_code, exceptionTable := #[], attributes := #[] }
def k7m1 : Method := { name := "<init>", desc := "([C)V", sig := { parameters := [(.array .char)], returnType := none }, accessFlags := 1, code := some k7c1 }
def k7c2 : Code := { maxStack := 3, maxLocals := 2, code := jdk_42_method_53_code, exceptionTable := #[], attributes := #[] }
def k7m2 : Method := { name := "<init>", desc := "(Ljava/lang/StringBuilder;)V", sig := { parameters := [(.object "java/lang/StringBuilder")], returnType := none }, accessFlags := 1, code := some k7c2 }
def k7c3 : Code := { maxStack := 2, maxLocals := 1, code := jdk_42_method_54_code, exceptionTable := #[], attributes := #[] }
def k7m3 : Method := { name := "length", desc := "()I", sig := { parameters := [], returnType := some .int }, accessFlags := 1, code := some k7c3 }
def k7c4 : Code := { maxStack := 2, maxLocals := 3, code := jdk_42_method_66_code, exceptionTable := #[], attributes := #[] }
def k7m4 : Method := { name := "equals", desc := "(Ljava/lang/Object;)Z", sig := { parameters := [(.object "java/lang/Object")], returnType := some .boolean }, accessFlags := 1, code := some k7c4 }
def k7c5 : Code := { maxStack := 4, maxLocals := 1, code := jdk_42_method_139_code, exceptionTable := #[], attributes := #[] }
def k7m5 : Method := { name := "valueOf", desc := "(C)Ljava/lang/String;", sig := { parameters := [.char], returnType := some (.object "java/lang/String") }, accessFlags := 9, code := some k7c5 }
def k7c6 : Code := { maxStack := 5, maxLocals := 4, code := jdk_42_method_147_code, exceptionTable := #[], attributes := #[] }
def k7m6 : Method := { name := "getBytes", desc := "([BIB)V", sig := { parameters := [(.array .byte), .int, .byte], returnType := none }, accessFlags := 0, code := some k7c6 }
def k7c7 : Code := { maxStack := 4, maxLocals := 6, code := jdk_42_method_149_code, exceptionTable := #[], attributes := #[] }
def k7m7 : Method := { name := "<init>", desc := "([CIILjava/lang/Void;)V", sig := { parameters := [(.array .char), .int, .int, (.object "java/lang/Void")], returnType := none }, accessFlags := 2, code := some k7c7 }
def k7c8 : Code := { maxStack := 5, maxLocals := 5, code := jdk_42_method_150_code, exceptionTable := #[], attributes := #[] }
def k7m8 : Method := { name := "<init>", desc := "(Ljava/lang/AbstractStringBuilder;Ljava/lang/Void;)V", sig := { parameters := [(.object "java/lang/AbstractStringBuilder"), (.object "java/lang/Void")], returnType := none }, accessFlags := 0, code := some k7c8 }
def k7c9 : Code := { maxStack := 2, maxLocals := 3, code := jdk_42_method_151_code, exceptionTable := #[], attributes := #[] }
def k7m9 : Method := { name := "<init>", desc := "([BB)V", sig := { parameters := [(.array .byte), .byte], returnType := none }, accessFlags := 0, code := some k7c9 }
def k7c10 : Code := { maxStack := 1, maxLocals := 1, code := jdk_42_method_152_code, exceptionTable := #[], attributes := #[] }
def k7m10 : Method := { name := "coder", desc := "()B", sig := { parameters := [], returnType := some .byte }, accessFlags := 0, code := some k7c10 }
/-- java/lang/String -/
def k7 : Class := { plain "java/lang/String" (some 0) with
  accessFlags := 49
  interfaces := #[2, 3, 4, 5, 6]
  cf := some (fileOf pool7 10 #[.nestMembers #[1103]] #[{ accessFlags := 1, nameIndex := 5, descriptorIndex := 6, attributes := #[] }, { accessFlags := 1, nameIndex := 5, descriptorIndex := 1010, attributes := #[] }, { accessFlags := 1, nameIndex := 5, descriptorIndex := 1233, attributes := #[] }, { accessFlags := 1, nameIndex := 507, descriptorIndex := 334, attributes := #[] }, { accessFlags := 1, nameIndex := 543, descriptorIndex := 573, attributes := #[] }, { accessFlags := 9, nameIndex := 782, descriptorIndex := 783, attributes := #[] }, { accessFlags := 0, nameIndex := 532, descriptorIndex := 821, attributes := #[] }, { accessFlags := 2, nameIndex := 5, descriptorIndex := 29, attributes := #[] }, { accessFlags := 0, nameIndex := 5, descriptorIndex := 491, attributes := #[] }, { accessFlags := 0, nameIndex := 5, descriptorIndex := 211, attributes := #[] }, { accessFlags := 0, nameIndex := 17, descriptorIndex := 337, attributes := #[] }] 49 2 #[1106, 1108, 575, 1110, 1112] #[{ accessFlags := 18, nameIndex := 13, descriptorIndex := 14, attributes := #[] }, { accessFlags := 18, nameIndex := 17, descriptorIndex := 18, attributes := #[] }, { accessFlags := 2, nameIndex := 21, descriptorIndex := 22, attributes := #[] }, { accessFlags := 2, nameIndex := 25, descriptorIndex := 26, attributes := #[] }, { accessFlags := 26, nameIndex := 1116, descriptorIndex := 1117, attributes := #[] }, { accessFlags := 24, nameIndex := 40, descriptorIndex := 26, attributes := #[] }, { accessFlags := 26, nameIndex := 1101, descriptorIndex := 1102, attributes := #[] }, { accessFlags := 26, nameIndex := 1121, descriptorIndex := 1122, attributes := #[] }, { accessFlags := 25, nameIndex := 599, descriptorIndex := 600, attributes := #[] }, { accessFlags := 24, nameIndex := 1125, descriptorIndex := 18, attributes := #[] }, { accessFlags := 24, nameIndex := 1127, descriptorIndex := 18, attributes := #[] }])
  fields := #[{ name := "value", type := (.array .byte), accessFlags := 18, slot := 0, constantValue := 0 }, { name := "coder", type := .byte, accessFlags := 18, slot := 1, constantValue := 0 }, { name := "hash", type := .int, accessFlags := 2, slot := 2, constantValue := 0 }, { name := "hashIsZero", type := .boolean, accessFlags := 2, slot := 3, constantValue := 0 }, { name := "serialVersionUID", type := .long, accessFlags := 26, slot := 0, constantValue := 0 }, { name := "COMPACT_STRINGS", type := .boolean, accessFlags := 24, slot := 1, constantValue := 0 }, { name := "serialPersistentFields", type := (.array (.object "java/io/ObjectStreamField")), accessFlags := 26, slot := 2, constantValue := 0 }, { name := "REPL", type := .char, accessFlags := 26, slot := 3, constantValue := 0 }, { name := "CASE_INSENSITIVE_ORDER", type := (.object "java/util/Comparator"), accessFlags := 25, slot := 4, constantValue := 0 }, { name := "LATIN1", type := .byte, accessFlags := 24, slot := 5, constantValue := 0 }, { name := "UTF16", type := .byte, accessFlags := 24, slot := 6, constantValue := 0 }]
  methods := #[k7m0, k7m1, k7m2, k7m3, k7m4, k7m5, k7m6, k7m7, k7m8, k7m9, k7m10]
  instanceTypes := #[(.array .byte), .byte, .int, .boolean]
  staticTypes := #[.long, .boolean, (.array (.object "java/io/ObjectStreamField")), .char, (.object "java/util/Comparator"), .byte, .byte]
  resolved := Array.replicate 1451 none
  statics := some 0 }

def pool8 : Array CpInfo := pool [(6, .class_ 8), (1, u "java/lang/Object"), (0, u "<init>"), (0, u "()V"), (1, .class_ 14), (1, u "java/lang/StringUTF16"), (31, u "$assertionsDisabled"), (0, u "Z"), (13, u "HI_BYTE_SHIFT"), (0, u "I"), (2, u "LO_BYTE_SHIFT"), (49, .methodref 12 116), (0, .nameAndType 117 118), (0, u "compress"), (0, u "([CI[BII)I"), (3, u "([CII)[B"), (138, u "coderFromArrayLen"), (0, u "([BI)B"), (106, .class_ 371), (1, u "java/lang/StringUTF16$LinesSpliterator"), (58, u "MAX_LENGTH"), (196, .class_ 628), (0, u "java/lang/StringUTF16$CodePointsSpliterator"), (0, .class_ 630), (0, u "java/lang/StringUTF16$CharsSpliterator")] 4

def k8m0 : Method := { name := "<init>", desc := "()V", sig := { parameters := [], returnType := none }, accessFlags := 0, code := none }
def k8c1 : Code := { maxStack := 2, maxLocals := 2, code := jdk_52_method_15_code, exceptionTable := #[], attributes := #[] }
def k8m1 : Method := { name := "coderFromArrayLen", desc := "([BI)B", sig := { parameters := [(.array .byte), .int], returnType := some .byte }, accessFlags := 8, code := some k8c1 }
def k8c2 : Code := { maxStack := 5, maxLocals := 6, code := jdk_52_method_16_code, exceptionTable := #[], attributes := #[] }
def k8m2 : Method := { name := "compress", desc := "([CII)[B", sig := { parameters := [(.array .char), .int, .int], returnType := some (.array .byte) }, accessFlags := 9, code := some k8c2 }
def k8c3 : Code := { maxStack := 3, maxLocals := 7, code := jdk_52_method_21_code, exceptionTable := #[], attributes := #[] }
def k8m3 : Method := { name := "compress", desc := "([CI[BII)I", sig := { parameters := [(.array .char), .int, (.array .byte), .int, .int], returnType := some .int }, accessFlags := 9, code := some k8c3 }
/-- java/lang/StringUTF16 -/
def k8 : Class := { plain "java/lang/StringUTF16" (some 0) with
  accessFlags := 48
  interfaces := #[]
  cf := some (fileOf pool8 12 #[.nestMembers #[627, 629, 369]] #[{ accessFlags := 0, nameIndex := 9, descriptorIndex := 10, attributes := #[] }, { accessFlags := 8, nameIndex := 261, descriptorIndex := 262, attributes := #[] }, { accessFlags := 9, nameIndex := 117, descriptorIndex := 122, attributes := #[] }, { accessFlags := 9, nameIndex := 117, descriptorIndex := 118, attributes := #[] }] 48 6 #[] #[{ accessFlags := 26, nameIndex := 61, descriptorIndex := 62, attributes := #[] }, { accessFlags := 26, nameIndex := 65, descriptorIndex := 62, attributes := #[] }, { accessFlags := 24, nameIndex := 430, descriptorIndex := 62, attributes := #[] }, { accessFlags := 4120, nameIndex := 46, descriptorIndex := 47, attributes := #[] }])
  fields := #[{ name := "HI_BYTE_SHIFT", type := .int, accessFlags := 26, slot := 0, constantValue := 0 }, { name := "LO_BYTE_SHIFT", type := .int, accessFlags := 26, slot := 1, constantValue := 0 }, { name := "MAX_LENGTH", type := .int, accessFlags := 24, slot := 2, constantValue := 0 }, { name := "$assertionsDisabled", type := .boolean, accessFlags := 4120, slot := 3, constantValue := 0 }]
  methods := #[k8m0, k8m1, k8m2, k8m3]
  instanceTypes := #[]
  staticTypes := #[.int, .int, .int, .boolean]
  resolved := Array.replicate 635 none
  statics := none }

def pool9 : Array CpInfo := pool [(1, .methodref 2 3), (0, .class_ 4), (0, .nameAndType 5 6), (0, u "java/lang/Object"), (0, u "<init>"), (0, u "()V"), (0, .fieldref 8 9), (0, .class_ 10), (0, .nameAndType 11 12), (0, u "com/example/wallhour/wallhour/Choice"), (0, u "instant"), (0, u "Ljava/time/Instant;"), (0, .fieldref 8 14), (0, .nameAndType 15 16), (0, u "reason"), (0, u "Ljava/util/Optional;"), (2, .methodref 20 21), (0, .class_ 22), (0, .nameAndType 23 24), (0, u "java/util/Objects"), (0, u "requireNonNull"), (0, u "(Ljava/lang/Object;Ljava/lang/String;)Ljava/lang/Object;"), (3, .class_ 30), (1, u "java/util/Optional"), (2, .methodref 8 34), (0, .nameAndType 5 35), (0, u "(Ljava/time/Instant;Ljava/util/Optional;)V"), (2, u "REJECT"), (0, u "Lcom/example/wallhour/wallhour/Choice;"), (0, .string 41), (0, u "reason is null"), (0, .class_ 43), (0, u "java/lang/String"), (0, .methodref 28 45), (0, .nameAndType 46 47), (0, u "of"), (0, u "(Ljava/lang/Object;)Ljava/util/Optional;"), (3, .class_ 52), (0, u "java/lang/StringBuilder"), (0, .methodref 51 3), (2, .methodref 51 57), (0, .nameAndType 58 59), (0, u "append"), (0, u "(Ljava/lang/String;)Ljava/lang/StringBuilder;"), (3, .methodref 51 64), (0, .nameAndType 65 66), (0, u "toString"), (0, u "()Ljava/lang/String;"), (0, .invokeDynamic 0 68), (0, .nameAndType 69 70), (0, u "apply"), (0, u "()Ljava/util/function/Function;"), (0, .methodref 28 72), (0, .nameAndType 73 74), (0, u "map"), (0, u "(Ljava/util/function/Function;)Ljava/util/Optional;"), (0, .string 76), (0, u "reject"), (0, .methodref 28 78), (0, .nameAndType 79 80), (0, u "orElse"), (0, u "(Ljava/lang/Object;)Ljava/lang/Object;"), (0, .string 82), (0, u "reject: "), (8, u "(Ljava/lang/String;)Lcom/example/wallhour/wallhour/Choice;"), (3, u "lambda$toString$0"), (0, u "(Ljava/lang/String;)Ljava/lang/String;"), (4, .methodType 80), (0, .methodHandle 6 103), (0, .methodref 8 104), (0, .nameAndType 95 96), (0, .methodType 96), (0, .methodHandle 6 107), (0, .methodref 108 109), (0, .class_ 110), (0, .nameAndType 111 112), (0, u "java/lang/invoke/LambdaMetafactory"), (0, u "metafactory"), (0, u "(Ljava/lang/invoke/MethodHandles$Lookup;Ljava/lang/String;Ljava/lang/invoke/MethodType;Ljava/lang/invoke/MethodType;Ljava/lang/invoke/MethodHandle;Ljava/lang/invoke/MethodType;)Ljava/lang/invoke/CallSite;")] 6

def k9c0 : Code := { maxStack := 2, maxLocals := 3, code := prog_2_method_1_code, exceptionTable := #[], attributes := #[] }
def k9m0 : Method := { name := "<init>", desc := "(Ljava/time/Instant;Ljava/util/Optional;)V", sig := { parameters := [(.object "java/time/Instant"), (.object "java/util/Optional")], returnType := none }, accessFlags := 2, code := some k9c0 }
def k9c1 : Code := { maxStack := 5, maxLocals := 1, code := prog_2_method_4_code, exceptionTable := #[], attributes := #[] }
def k9m1 : Method := { name := "reject", desc := "(Ljava/lang/String;)Lcom/example/wallhour/wallhour/Choice;", sig := { parameters := [(.object "java/lang/String")], returnType := some (.object "com/example/wallhour/wallhour/Choice") }, accessFlags := 9, code := some k9c1 }
def k9c2 : Code := { maxStack := 2, maxLocals := 1, code := prog_2_method_7_code, exceptionTable := #[], attributes := #[] }
def k9m2 : Method := { name := "toString", desc := "()Ljava/lang/String;", sig := { parameters := [], returnType := some (.object "java/lang/String") }, accessFlags := 1, code := some k9c2 }
def k9c3 : Code := { maxStack := 2, maxLocals := 1, code := prog_2_method_8_code, exceptionTable := #[], attributes := #[] }
def k9m3 : Method := { name := "lambda$toString$0", desc := "(Ljava/lang/String;)Ljava/lang/String;", sig := { parameters := [(.object "java/lang/String")], returnType := some (.object "java/lang/String") }, accessFlags := 4106, code := some k9c3 }
/-- com/example/wallhour/wallhour/Choice -/
def k9 : Class := { plain "com/example/wallhour/wallhour/Choice" (some 0) with
  accessFlags := 49
  interfaces := #[]
  cf := some (fileOf pool9 8 #[.bootstrapMethods #[⟨106, #[101, 102, 105]⟩]] #[{ accessFlags := 2, nameIndex := 5, descriptorIndex := 35, attributes := #[] }, { accessFlags := 9, nameIndex := 76, descriptorIndex := 91, attributes := #[] }, { accessFlags := 1, nameIndex := 65, descriptorIndex := 66, attributes := #[] }, { accessFlags := 4106, nameIndex := 95, descriptorIndex := 96, attributes := #[] }] 49 2 #[] #[{ accessFlags := 26, nameIndex := 38, descriptorIndex := 39, attributes := #[] }, { accessFlags := 18, nameIndex := 11, descriptorIndex := 12, attributes := #[] }, { accessFlags := 18, nameIndex := 15, descriptorIndex := 16, attributes := #[] }])
  fields := #[{ name := "REJECT", type := (.object "com/example/wallhour/wallhour/Choice"), accessFlags := 26, slot := 0, constantValue := 0 }, { name := "instant", type := (.object "java/time/Instant"), accessFlags := 18, slot := 0, constantValue := 0 }, { name := "reason", type := (.object "java/util/Optional"), accessFlags := 18, slot := 1, constantValue := 0 }]
  methods := #[k9m0, k9m1, k9m2, k9m3]
  instanceTypes := #[(.object "java/time/Instant"), (.object "java/util/Optional")]
  staticTypes := #[(.object "com/example/wallhour/wallhour/Choice")]
  resolved := Array.replicate 119 none
  callSites := [(2, 34, .constant 2)]
  statics := none }

def pool10 : Array CpInfo := pool [(2, .class_ 4), (1, u "java/lang/Object"), (0, u "<init>"), (0, u "()V"), (35, .class_ 44), (1, u "java/util/Objects"), (0, u "requireNonNull"), (0, u "(Ljava/lang/Object;)Ljava/lang/Object;"), (47, u "(Ljava/lang/Object;Ljava/lang/String;)Ljava/lang/Object;")] 89

def k10m0 : Method := { name := "<init>", desc := "()V", sig := { parameters := [], returnType := none }, accessFlags := 2, code := none }
def k10c1 : Code := { maxStack := 2, maxLocals := 1, code := jdk_31_method_10_code, exceptionTable := #[], attributes := #[] }
def k10m1 : Method := { name := "requireNonNull", desc := "(Ljava/lang/Object;)Ljava/lang/Object;", sig := { parameters := [(.object "java/lang/Object")], returnType := some (.object "java/lang/Object") }, accessFlags := 9, code := some k10c1 }
def k10c2 : Code := { maxStack := 3, maxLocals := 2, code := jdk_31_method_11_code, exceptionTable := #[], attributes := #[] }
def k10m2 : Method := { name := "requireNonNull", desc := "(Ljava/lang/Object;Ljava/lang/String;)Ljava/lang/Object;", sig := { parameters := [(.object "java/lang/Object"), (.object "java/lang/String")], returnType := some (.object "java/lang/Object") }, accessFlags := 9, code := some k10c2 }
/-- java/util/Objects -/
def k10 : Class := { plain "java/util/Objects" (some 0) with
  accessFlags := 49
  interfaces := #[]
  cf := some (fileOf pool10 42 #[] #[{ accessFlags := 2, nameIndex := 5, descriptorIndex := 6, attributes := #[] }, { accessFlags := 9, nameIndex := 45, descriptorIndex := 46, attributes := #[] }, { accessFlags := 9, nameIndex := 45, descriptorIndex := 94, attributes := #[] }] 49 2 #[] #[])
  fields := #[]
  methods := #[k10m0, k10m1, k10m2]
  instanceTypes := #[]
  staticTypes := #[]
  resolved := Array.replicate 184 none
  statics := none }

def pool11 : Array CpInfo := pool [(2, .class_ 4), (1, u "java/util/Optional"), (0, u "EMPTY"), (0, u "Ljava/util/Optional;"), (0, .methodref 8 9), (0, .class_ 10), (0, .nameAndType 11 12), (0, u "java/lang/Object"), (0, u "<init>"), (0, u "()V"), (0, .fieldref 2 14), (0, .nameAndType 15 16), (0, u "value"), (0, u "Ljava/lang/Object;"), (0, .methodref 18 19), (0, .class_ 20), (0, .nameAndType 21 22), (0, u "java/util/Objects"), (0, u "requireNonNull"), (0, u "(Ljava/lang/Object;)Ljava/lang/Object;"), (0, .methodref 2 24), (0, .nameAndType 11 25), (0, u "(Ljava/lang/Object;)V"), (17, .methodref 2 44), (0, .nameAndType 45 46), (0, u "isEmpty"), (0, u "()Z"), (10, .interfaceMethodref 58 59), (0, .class_ 60), (0, .nameAndType 61 22), (0, u "java/util/function/Function"), (0, u "apply"), (0, .methodref 2 63), (0, .nameAndType 64 65), (0, u "ofNullable"), (0, u "(Ljava/lang/Object;)Ljava/util/Optional;"), (16, u "of"), (63, u "map"), (0, u "(Ljava/util/function/Function;)Ljava/util/Optional;"), (17, u "orElse")] 21

def k11c0 : Code := { maxStack := 2, maxLocals := 2, code := jdk_32_method_2_code, exceptionTable := #[], attributes := #[] }
def k11m0 : Method := { name := "<init>", desc := "(Ljava/lang/Object;)V", sig := { parameters := [(.object "java/lang/Object")], returnType := none }, accessFlags := 2, code := some k11c0 }
def k11c1 : Code := { maxStack := 3, maxLocals := 1, code := jdk_32_method_3_code, exceptionTable := #[], attributes := #[] }
def k11m1 : Method := { name := "of", desc := "(Ljava/lang/Object;)Ljava/util/Optional;", sig := { parameters := [(.object "java/lang/Object")], returnType := some (.object "java/util/Optional") }, accessFlags := 9, code := some k11c1 }
def k11c2 : Code := { maxStack := 3, maxLocals := 1, code := jdk_32_method_4_code, exceptionTable := #[], attributes := #[] }
def k11m2 : Method := { name := "ofNullable", desc := "(Ljava/lang/Object;)Ljava/util/Optional;", sig := { parameters := [(.object "java/lang/Object")], returnType := some (.object "java/util/Optional") }, accessFlags := 9, code := some k11c2 }
def k11c3 : Code := { maxStack := 1, maxLocals := 1, code := jdk_32_method_7_code, exceptionTable := #[], attributes := #[] }
def k11m3 : Method := { name := "isEmpty", desc := "()Z", sig := { parameters := [], returnType := some .boolean }, accessFlags := 1, code := some k11c3 }
def k11c4 : Code := { maxStack := 2, maxLocals := 2, code := jdk_32_method_11_code, exceptionTable := #[], attributes := #[] }
def k11m4 : Method := { name := "map", desc := "(Ljava/util/function/Function;)Ljava/util/Optional;", sig := { parameters := [(.object "java/util/function/Function")], returnType := some (.object "java/util/Optional") }, accessFlags := 1, code := some k11c4 }
def k11c5 : Code := { maxStack := 1, maxLocals := 2, code := jdk_32_method_15_code, exceptionTable := #[], attributes := #[] }
def k11m5 : Method := { name := "orElse", desc := "(Ljava/lang/Object;)Ljava/lang/Object;", sig := { parameters := [(.object "java/lang/Object")], returnType := some (.object "java/lang/Object") }, accessFlags := 1, code := some k11c5 }
/-- java/util/Optional -/
def k11 : Class := { plain "java/util/Optional" (some 0) with
  accessFlags := 49
  interfaces := #[]
  cf := some (fileOf pool11 2 #[] #[{ accessFlags := 2, nameIndex := 11, descriptorIndex := 25, attributes := #[] }, { accessFlags := 9, nameIndex := 82, descriptorIndex := 65, attributes := #[] }, { accessFlags := 9, nameIndex := 64, descriptorIndex := 65, attributes := #[] }, { accessFlags := 1, nameIndex := 45, descriptorIndex := 46, attributes := #[] }, { accessFlags := 1, nameIndex := 146, descriptorIndex := 147, attributes := #[] }, { accessFlags := 1, nameIndex := 165, descriptorIndex := 22, attributes := #[] }] 49 8 #[] #[{ accessFlags := 26, nameIndex := 5, descriptorIndex := 6, attributes := #[] }, { accessFlags := 18, nameIndex := 15, descriptorIndex := 16, attributes := #[] }])
  fields := #[{ name := "EMPTY", type := (.object "java/util/Optional"), accessFlags := 26, slot := 0, constantValue := 0 }, { name := "value", type := (.object "java/lang/Object"), accessFlags := 18, slot := 0, constantValue := 0 }]
  methods := #[k11m0, k11m1, k11m2, k11m3, k11m4, k11m5]
  instanceTypes := #[(.object "java/lang/Object")]
  staticTypes := #[(.object "java/util/Optional")]
  resolved := Array.replicate 187 none
  statics := none }

def pool12 : Array CpInfo := pool [(6, u "(Ljava/lang/Object;)Ljava/lang/Object;"), (2, u "apply"), (6, .class_ 18), (1, u "java/util/function/Function"), (0, .class_ 20), (0, u "java/lang/Object")] 56

def k12m0 : Method := { name := "apply", desc := "(Ljava/lang/Object;)Ljava/lang/Object;", sig := { parameters := [(.object "java/lang/Object")], returnType := some (.object "java/lang/Object") }, accessFlags := 1025, code := none }
/-- java/util/function/Function -/
def k12 : Class := { plain "java/util/function/Function" (some 0) with
  accessFlags := 1537
  interfaces := #[]
  cf := some (fileOf pool12 16 #[] #[{ accessFlags := 1025, nameIndex := 9, descriptorIndex := 6, attributes := #[] }] 1537 19 #[] #[])
  fields := #[]
  methods := #[k12m0]
  instanceTypes := #[]
  staticTypes := #[]
  resolved := Array.replicate 77 none
  statics := none }

def pool13 : Array CpInfo := pool [(1, .class_ 2), (0, u "java/lang/Appendable"), (0, .class_ 4), (0, u "java/lang/Object")] 9

/-- java/lang/Appendable -/
def k13 : Class := { plain "java/lang/Appendable" (some 0) with
  accessFlags := 1537
  interfaces := #[]
  cf := some (fileOf pool13 1 #[] #[] 1537 3 #[] #[])
  fields := #[]
  methods := #[]
  instanceTypes := #[]
  staticTypes := #[]
  resolved := Array.replicate 14 none
  statics := none }

def pool14 : Array CpInfo := pool [(1, .class_ 2), (0, u "java/lang/String"), (0, .methodref 4 5), (0, .class_ 6), (0, .nameAndType 7 8), (0, u "java/lang/Object"), (0, u "<init>"), (0, u "()V"), (1, .class_ 12), (1, u "java/lang/AbstractStringBuilder"), (0, u "EMPTYVALUE"), (0, u "[B"), (0, .fieldref 10 16), (0, .nameAndType 17 14), (0, u "value"), (0, .fieldref 1 19), (0, .nameAndType 20 21), (0, u "COMPACT_STRINGS"), (0, u "Z"), (0, .fieldref 10 23), (0, .nameAndType 24 25), (0, u "coder"), (0, u "B"), (6, .methodref 1 33), (0, .nameAndType 34 35), (0, u "length"), (0, u "()I"), (4, .methodref 1 41), (0, .nameAndType 24 42), (0, u "()B"), (2, u "append"), (0, u "(Ljava/lang/String;)Ljava/lang/AbstractStringBuilder;"), (1, .class_ 49), (0, u "java/lang/CharSequence"), (19, u "(Ljava/lang/String;)V"), (5, u "maybeLatin1"), (3, .fieldref 10 80), (0, .nameAndType 81 82), (0, u "count"), (0, u "I"), (2, u "isLatin1"), (0, u "()Z"), (13, .methodref 10 101), (0, .nameAndType 102 103), (0, u "ensureCapacityInternal"), (0, u "(I)V"), (104, .methodref 10 209), (0, .nameAndType 210 211), (0, u "putStringAt"), (0, u "(ILjava/lang/String;)V"), (5, u "inflateIfNeededFor"), (2, .nameAndType 221 222), (0, u "getBytes"), (0, u "([BIB)V"), (174, .methodref 10 398), (0, .nameAndType 217 69), (0, .methodref 1 220), (3, u "()[B"), (40, .class_ 445), (0, u "java/lang/Appendable"), (106, u "getValue")] 56

def k14m0 : Method := { name := "<init>", desc := "()V", sig := { parameters := [], returnType := none }, accessFlags := 0, code := none }
def k14c1 : Code := { maxStack := 2, maxLocals := 2, code := jdk_68_method_2_code, exceptionTable := #[], attributes := #[] }
def k14m1 : Method := { name := "<init>", desc := "(I)V", sig := { parameters := [.int], returnType := none }, accessFlags := 0, code := some k14c1 }
def k14c2 : Code := { maxStack := 1, maxLocals := 1, code := jdk_68_method_6_code, exceptionTable := #[], attributes := #[] }
def k14m2 : Method := { name := "length", desc := "()I", sig := { parameters := [], returnType := some .int }, accessFlags := 1, code := some k14c2 }
def k14c3 : Code := { maxStack := 4, maxLocals := 3, code := jdk_68_method_9_code, exceptionTable := #[], attributes := #[] }
def k14m3 : Method := { name := "ensureCapacityInternal", desc := "(I)V", sig := { parameters := [.int], returnType := none }, accessFlags := 2, code := some k14c3 }
def k14c4 : Code := { maxStack := 3, maxLocals := 3, code := jdk_68_method_22_code, exceptionTable := #[], attributes := #[] }
def k14m4 : Method := { name := "append", desc := "(Ljava/lang/String;)Ljava/lang/AbstractStringBuilder;", sig := { parameters := [(.object "java/lang/String")], returnType := some (.object "java/lang/AbstractStringBuilder") }, accessFlags := 1, code := some k14c4 }
def k14c5 : Code := { maxStack := 1, maxLocals := 1, code := jdk_68_method_64_code, exceptionTable := #[], attributes := #[] }
def k14m5 : Method := { name := "getValue", desc := "()[B", sig := { parameters := [], returnType := some (.array .byte) }, accessFlags := 16, code := some k14c5 }
def k14c6 : Code := { maxStack := 1, maxLocals := 1, code := jdk_68_method_68_code, exceptionTable := #[], attributes := #[] }
def k14m6 : Method := { name := "isLatin1", desc := "()Z", sig := { parameters := [], returnType := some .boolean }, accessFlags := 16, code := some k14c6 }
def k14c7 : Code := { maxStack := 2, maxLocals := 2, code := jdk_68_method_71_code, exceptionTable := #[], attributes := #[] }
def k14m7 : Method := { name := "inflateIfNeededFor", desc := "(Ljava/lang/String;)V", sig := { parameters := [(.object "java/lang/String")], returnType := none }, accessFlags := 2, code := some k14c7 }
def k14c8 : Code := { maxStack := 4, maxLocals := 3, code := jdk_68_method_73_code, exceptionTable := #[], attributes := #[] }
def k14m8 : Method := { name := "putStringAt", desc := "(ILjava/lang/String;)V", sig := { parameters := [.int, (.object "java/lang/String")], returnType := none }, accessFlags := 2, code := some k14c8 }
/-- java/lang/AbstractStringBuilder -/
def k14 : Class := { plain "java/lang/AbstractStringBuilder" (some 0) with
  accessFlags := 1056
  interfaces := #[13, 4]
  cf := some (fileOf pool14 10 #[] #[{ accessFlags := 0, nameIndex := 7, descriptorIndex := 8, attributes := #[] }, { accessFlags := 0, nameIndex := 7, descriptorIndex := 103, attributes := #[] }, { accessFlags := 1, nameIndex := 34, descriptorIndex := 35, attributes := #[] }, { accessFlags := 2, nameIndex := 102, descriptorIndex := 103, attributes := #[] }, { accessFlags := 1, nameIndex := 45, descriptorIndex := 46, attributes := #[] }, { accessFlags := 16, nameIndex := 552, descriptorIndex := 403, attributes := #[] }, { accessFlags := 16, nameIndex := 85, descriptorIndex := 86, attributes := #[] }, { accessFlags := 2, nameIndex := 217, descriptorIndex := 69, attributes := #[] }, { accessFlags := 2, nameIndex := 210, descriptorIndex := 211, attributes := #[] }] 1056 4 #[444, 48] #[{ accessFlags := 0, nameIndex := 17, descriptorIndex := 14, attributes := #[] }, { accessFlags := 0, nameIndex := 24, descriptorIndex := 25, attributes := #[] }, { accessFlags := 0, nameIndex := 75, descriptorIndex := 21, attributes := #[] }, { accessFlags := 0, nameIndex := 81, descriptorIndex := 82, attributes := #[] }, { accessFlags := 26, nameIndex := 13, descriptorIndex := 14, attributes := #[] }])
  fields := #[{ name := "value", type := (.array .byte), accessFlags := 0, slot := 0, constantValue := 0 }, { name := "coder", type := .byte, accessFlags := 0, slot := 1, constantValue := 0 }, { name := "maybeLatin1", type := .boolean, accessFlags := 0, slot := 2, constantValue := 0 }, { name := "count", type := .int, accessFlags := 0, slot := 3, constantValue := 0 }, { name := "EMPTYVALUE", type := (.array .byte), accessFlags := 26, slot := 0, constantValue := 0 }]
  methods := #[k14m0, k14m1, k14m2, k14m3, k14m4, k14m5, k14m6, k14m7, k14m8]
  instanceTypes := #[(.array .byte), .byte, .boolean, .int]
  staticTypes := #[(.array .byte)]
  resolved := Array.replicate 609 none
  statics := none }

def pool15 : Array CpInfo := pool [(1, .methodref 2 3), (0, .class_ 4), (0, .nameAndType 5 6), (0, u "java/lang/AbstractStringBuilder"), (0, u "<init>"), (0, u "(I)V"), (11, .class_ 20), (1, u "java/lang/String"), (3, .class_ 26), (1, u "java/lang/StringBuilder"), (0, u "append"), (0, u "(Ljava/lang/String;)Ljava/lang/StringBuilder;"), (0, .methodref 2 30), (0, .nameAndType 27 31), (0, u "(Ljava/lang/String;)Ljava/lang/AbstractStringBuilder;"), (105, .methodref 18 138), (0, .nameAndType 5 139), (0, u "(Ljava/lang/StringBuilder;)V"), (5, u "()V"), (10, u "()I"), (186, .methodref 2 344), (0, .nameAndType 345 156), (0, u "length"), (3, .class_ 350), (0, u "java/lang/Appendable"), (0, .class_ 352), (0, u "java/io/Serializable"), (0, .class_ 354), (0, u "java/lang/Comparable"), (0, .class_ 356), (0, u "java/lang/CharSequence"), (0, u "serialVersionUID"), (0, u "J"), (40, u "toString"), (0, u "()Ljava/lang/String;")] 21

def k15c0 : Code := { maxStack := 2, maxLocals := 1, code := jdk_67_method_1_code, exceptionTable := #[], attributes := #[] }
def k15m0 : Method := { name := "<init>", desc := "()V", sig := { parameters := [], returnType := none }, accessFlags := 1, code := some k15c0 }
def k15c1 : Code := { maxStack := 2, maxLocals := 2, code := jdk_67_method_7_code, exceptionTable := #[], attributes := #[] }
def k15m1 : Method := { name := "append", desc := "(Ljava/lang/String;)Ljava/lang/StringBuilder;", sig := { parameters := [(.object "java/lang/String")], returnType := some (.object "java/lang/StringBuilder") }, accessFlags := 1, code := some k15c1 }
def k15c2 : Code := { maxStack := 3, maxLocals := 1, code := jdk_67_method_42_code, exceptionTable := #[], attributes := #[] }
def k15m2 : Method := { name := "toString", desc := "()Ljava/lang/String;", sig := { parameters := [], returnType := some (.object "java/lang/String") }, accessFlags := 1, code := some k15c2 }
def k15c3 : Code := { maxStack := 1, maxLocals := 1, code := jdk_67_method_93_code, exceptionTable := #[], attributes := #[] }
def k15m3 : Method := { name := "length", desc := "()I", sig := { parameters := [], returnType := some .int }, accessFlags := 4161, code := some k15c3 }
/-- java/lang/StringBuilder -/
def k15 : Class := { plain "java/lang/StringBuilder" (some 14) with
  accessFlags := 49
  interfaces := #[13, 2, 3, 4]
  cf := some (fileOf pool15 24 #[] #[{ accessFlags := 1, nameIndex := 5, descriptorIndex := 145, attributes := #[] }, { accessFlags := 1, nameIndex := 27, descriptorIndex := 28, attributes := #[] }, { accessFlags := 1, nameIndex := 399, descriptorIndex := 400, attributes := #[] }, { accessFlags := 4161, nameIndex := 345, descriptorIndex := 156, attributes := #[] }] 49 2 #[349, 351, 353, 355] #[{ accessFlags := 24, nameIndex := 357, descriptorIndex := 358, attributes := #[] }])
  fields := #[{ name := "serialVersionUID", type := .long, accessFlags := 24, slot := 0, constantValue := 0 }]
  methods := #[k15m0, k15m1, k15m2, k15m3]
  instanceTypes := #[(.array .byte), .byte, .boolean, .int]
  staticTypes := #[.long]
  resolved := Array.replicate 422 none
  statics := none }

def pool16 : Array CpInfo := pool [(2, .class_ 4), (1, u "java/lang/Object"), (0, u "<init>"), (0, u "()V"), (1, .class_ 10), (1, u "java/lang/System"), (0, u "allowSecurityManager"), (0, u "I"), (16, u "cons"), (0, u "Ljava/io/Console;"), (77, .class_ 110), (1, u "java/lang/System$CallersHolder"), (43, u "initialErrStream"), (0, u "Ljava/io/PrintStream;"), (19, u "security"), (0, u "Ljava/lang/SecurityManager;"), (31, .class_ 209), (0, u "java/lang/System$1"), (7, u "props"), (0, u "Ljava/util/Properties;"), (2, u "lineSeparator"), (0, u "Ljava/lang/String;"), (96, .class_ 321), (1, u "java/lang/System$LoggerFinder"), (5, .class_ 328), (0, u "java/lang/System$Logger"), (67, u "err"), (2, u "out"), (91, u "notSupportedJnuEncoding"), (15, u "in"), (17, u "initialIn"), (0, u "Ljava/io/InputStream;"), (35, u "bootLayer"), (0, u "Ljava/lang/ModuleLayer;"), (99, .class_ 664), (0, u "java/lang/System$2"), (9, u "NEVER"), (2, u "MAYBE"), (49, u "arraycopy"), (0, u "(Ljava/lang/Object;ILjava/lang/Object;II)V"), (72, .class_ 802), (0, u "java/lang/System$Logger$Level")] 31

def k16m0 : Method := { name := "<init>", desc := "()V", sig := { parameters := [], returnType := none }, accessFlags := 2, code := none }
def k16m1 : Method := { name := "arraycopy", desc := "(Ljava/lang/Object;ILjava/lang/Object;II)V", sig := { parameters := [(.object "java/lang/Object"), .int, (.object "java/lang/Object"), .int, .int], returnType := none }, accessFlags := 265, code := none }
/-- java/lang/System -/
def k16 : Class := { plain "java/lang/System" (some 0) with
  accessFlags := 49
  interfaces := #[]
  cf := some (fileOf pool16 8 #[.nestMembers #[319, 327, 801, 108, 663, 208]] #[{ accessFlags := 2, nameIndex := 5, descriptorIndex := 6, attributes := #[] }, { accessFlags := 265, nameIndex := 727, descriptorIndex := 728, attributes := #[] }] 49 2 #[] #[{ accessFlags := 25, nameIndex := 507, descriptorIndex := 526, attributes := #[] }, { accessFlags := 25, nameIndex := 399, descriptorIndex := 155, attributes := #[] }, { accessFlags := 25, nameIndex := 396, descriptorIndex := 155, attributes := #[] }, { accessFlags := 10, nameIndex := 525, descriptorIndex := 526, attributes := #[] }, { accessFlags := 26, nameIndex := 674, descriptorIndex := 12, attributes := #[] }, { accessFlags := 26, nameIndex := 677, descriptorIndex := 12, attributes := #[] }, { accessFlags := 10, nameIndex := 11, descriptorIndex := 12, attributes := #[] }, { accessFlags := 74, nameIndex := 175, descriptorIndex := 176, attributes := #[] }, { accessFlags := 10, nameIndex := 491, descriptorIndex := 222, attributes := #[] }, { accessFlags := 74, nameIndex := 29, descriptorIndex := 30, attributes := #[] }, { accessFlags := 74, nameIndex := 154, descriptorIndex := 155, attributes := #[] }, { accessFlags := 10, nameIndex := 217, descriptorIndex := 218, attributes := #[] }, { accessFlags := 10, nameIndex := 221, descriptorIndex := 222, attributes := #[] }, { accessFlags := 8, nameIndex := 562, descriptorIndex := 563, attributes := #[] }])
  fields := #[{ name := "in", type := (.object "java/io/InputStream"), accessFlags := 25, slot := 0, constantValue := 0 }, { name := "out", type := (.object "java/io/PrintStream"), accessFlags := 25, slot := 1, constantValue := 0 }, { name := "err", type := (.object "java/io/PrintStream"), accessFlags := 25, slot := 2, constantValue := 0 }, { name := "initialIn", type := (.object "java/io/InputStream"), accessFlags := 10, slot := 3, constantValue := 0 }, { name := "NEVER", type := .int, accessFlags := 26, slot := 4, constantValue := 0 }, { name := "MAYBE", type := .int, accessFlags := 26, slot := 5, constantValue := 0 }, { name := "allowSecurityManager", type := .int, accessFlags := 10, slot := 6, constantValue := 0 }, { name := "security", type := (.object "java/lang/SecurityManager"), accessFlags := 74, slot := 7, constantValue := 0 }, { name := "notSupportedJnuEncoding", type := (.object "java/lang/String"), accessFlags := 10, slot := 8, constantValue := 0 }, { name := "cons", type := (.object "java/io/Console"), accessFlags := 74, slot := 9, constantValue := 0 }, { name := "initialErrStream", type := (.object "java/io/PrintStream"), accessFlags := 74, slot := 10, constantValue := 0 }, { name := "props", type := (.object "java/util/Properties"), accessFlags := 10, slot := 11, constantValue := 0 }, { name := "lineSeparator", type := (.object "java/lang/String"), accessFlags := 10, slot := 12, constantValue := 0 }, { name := "bootLayer", type := (.object "java/lang/ModuleLayer"), accessFlags := 8, slot := 13, constantValue := 0 }]
  methods := #[k16m0, k16m1]
  instanceTypes := #[]
  staticTypes := #[(.object "java/io/InputStream"), (.object "java/io/PrintStream"), (.object "java/io/PrintStream"), (.object "java/io/InputStream"), .int, .int, .int, (.object "java/lang/SecurityManager"), (.object "java/lang/String"), (.object "java/io/Console"), (.object "java/io/PrintStream"), (.object "java/util/Properties"), (.object "java/lang/String"), (.object "java/lang/ModuleLayer")]
  resolved := Array.replicate 834 none
  statics := none }

def pool17 : Array CpInfo := pool [(2, .class_ 4), (1, u "java/lang/Object"), (0, u "<init>"), (0, u "()V"), (7, .class_ 16), (1, u "java/util/Arrays"), (57, .class_ 76), (1, u "java/util/Arrays$NaturalOrder"), (36, .class_ 115), (1, u "java/util/Arrays$LegacyMergeSort"), (1, u "Z"), (21, u "copyOfRange"), (10, .methodref 151 152), (0, .class_ 153), (0, .nameAndType 154 155), (0, u "java/lang/System"), (0, u "arraycopy"), (0, u "(Ljava/lang/Object;ILjava/lang/Object;II)V"), (148, .methodref 305 306), (0, .class_ 307), (0, .nameAndType 308 309), (0, u "java/lang/Math"), (0, u "min"), (0, u "(II)I"), (29, .methodref 14 340), (0, .nameAndType 341 342), (0, u "copyOfRangeByte"), (0, u "([BII)[B"), (0, .methodref 14 344), (0, .nameAndType 345 346), (0, u "checkLength"), (0, u "(II)V"), (28, .class_ 376), (0, u "java/util/Arrays$ArrayList"), (68, u "$assertionsDisabled"), (269, u "MIN_ARRAY_SORT_GRAN"), (0, u "I"), (2, u "INSERTIONSORT_THRESHOLD"), (255, .class_ 976), (0, u "java/util/Arrays$ArrayItr")] 52

def k17m0 : Method := { name := "<init>", desc := "()V", sig := { parameters := [], returnType := none }, accessFlags := 2, code := none }
def k17c1 : Code := { maxStack := 4, maxLocals := 2, code := jdk_65_method_131_code, exceptionTable := #[], attributes := #[] }
def k17m1 : Method := { name := "checkLength", desc := "(II)V", sig := { parameters := [.int, .int], returnType := none }, accessFlags := 10, code := some k17c1 }
def k17c2 : Code := { maxStack := 3, maxLocals := 3, code := jdk_65_method_132_code, exceptionTable := #[], attributes := #[] }
def k17m2 : Method := { name := "copyOfRange", desc := "([BII)[B", sig := { parameters := [(.array .byte), .int, .int], returnType := some (.array .byte) }, accessFlags := 9, code := some k17c2 }
def k17c3 : Code := { maxStack := 6, maxLocals := 5, code := jdk_65_method_133_code, exceptionTable := #[], attributes := #[] }
def k17m3 : Method := { name := "copyOfRangeByte", desc := "([BII)[B", sig := { parameters := [(.array .byte), .int, .int], returnType := some (.array .byte) }, accessFlags := 10, code := some k17c3 }
/-- java/util/Arrays -/
def k17 : Class := { plain "java/util/Arrays" (some 0) with
  accessFlags := 49
  interfaces := #[]
  cf := some (fileOf pool17 14 #[.nestMembers #[975, 375, 113, 74]] #[{ accessFlags := 2, nameIndex := 5, descriptorIndex := 6, attributes := #[] }, { accessFlags := 10, nameIndex := 345, descriptorIndex := 346, attributes := #[] }, { accessFlags := 9, nameIndex := 139, descriptorIndex := 342, attributes := #[] }, { accessFlags := 10, nameIndex := 341, descriptorIndex := 342, attributes := #[] }] 49 2 #[] #[{ accessFlags := 26, nameIndex := 715, descriptorIndex := 716, attributes := #[] }, { accessFlags := 26, nameIndex := 719, descriptorIndex := 716, attributes := #[] }, { accessFlags := 4120, nameIndex := 445, descriptorIndex := 117, attributes := #[] }])
  fields := #[{ name := "MIN_ARRAY_SORT_GRAN", type := .int, accessFlags := 26, slot := 0, constantValue := 0 }, { name := "INSERTIONSORT_THRESHOLD", type := .int, accessFlags := 26, slot := 1, constantValue := 0 }, { name := "$assertionsDisabled", type := .boolean, accessFlags := 4120, slot := 2, constantValue := 0 }]
  methods := #[k17m0, k17m1, k17m2, k17m3]
  instanceTypes := #[]
  staticTypes := #[.int, .int, .boolean]
  resolved := Array.replicate 1029 none
  statics := none }

def pool18 : Array CpInfo := pool [(1, .class_ 2), (0, u "java/lang/Math"), (1, .class_ 6), (1, u "java/lang/Object"), (0, u "<init>"), (0, u "()V"), (89, .class_ 100), (1, u "java/lang/Math$RandomNumberGeneratorHolder"), (71, u "negativeZeroFloatBits"), (0, u "J"), (2, u "negativeZeroDoubleBits"), (24, u "min"), (43, u "$assertionsDisabled"), (0, u "Z"), (88, u "(II)I"), (2, u "twoToTheDoubleScaleDown"), (0, u "D"), (4, u "twoToTheDoubleScaleUp"), (9, u "E"), (3, u "PI"), (2, u "TAU"), (2, u "DEGREES_TO_RADIANS"), (0, u "RADIANS_TO_DEGREES")] 94

def k18m0 : Method := { name := "<init>", desc := "()V", sig := { parameters := [], returnType := none }, accessFlags := 2, code := none }
def k18c1 : Code := { maxStack := 2, maxLocals := 2, code := jdk_29_method_69_code, exceptionTable := #[], attributes := #[] }
def k18m1 : Method := { name := "min", desc := "(II)I", sig := { parameters := [.int, .int], returnType := some .int }, accessFlags := 9, code := some k18c1 }
/-- java/lang/Math -/
def k18 : Class := { plain "java/lang/Math" (some 0) with
  accessFlags := 49
  interfaces := #[]
  cf := some (fileOf pool18 1 #[.nestMembers #[98]] #[{ accessFlags := 2, nameIndex := 7, descriptorIndex := 8, attributes := #[] }, { accessFlags := 9, nameIndex := 201, descriptorIndex := 335, attributes := #[] }] 49 4 #[] #[{ accessFlags := 25, nameIndex := 354, descriptorIndex := 339, attributes := #[] }, { accessFlags := 25, nameIndex := 358, descriptorIndex := 339, attributes := #[] }, { accessFlags := 25, nameIndex := 361, descriptorIndex := 339, attributes := #[] }, { accessFlags := 26, nameIndex := 364, descriptorIndex := 339, attributes := #[] }, { accessFlags := 26, nameIndex := 365, descriptorIndex := 339, attributes := #[] }, { accessFlags := 26, nameIndex := 172, descriptorIndex := 173, attributes := #[] }, { accessFlags := 26, nameIndex := 176, descriptorIndex := 173, attributes := #[] }, { accessFlags := 8, nameIndex := 344, descriptorIndex := 339, attributes := #[] }, { accessFlags := 8, nameIndex := 338, descriptorIndex := 339, attributes := #[] }, { accessFlags := 4120, nameIndex := 245, descriptorIndex := 246, attributes := #[] }])
  fields := #[{ name := "E", type := .double, accessFlags := 25, slot := 0, constantValue := 0 }, { name := "PI", type := .double, accessFlags := 25, slot := 1, constantValue := 0 }, { name := "TAU", type := .double, accessFlags := 25, slot := 2, constantValue := 0 }, { name := "DEGREES_TO_RADIANS", type := .double, accessFlags := 26, slot := 3, constantValue := 0 }, { name := "RADIANS_TO_DEGREES", type := .double, accessFlags := 26, slot := 4, constantValue := 0 }, { name := "negativeZeroFloatBits", type := .long, accessFlags := 26, slot := 5, constantValue := 0 }, { name := "negativeZeroDoubleBits", type := .long, accessFlags := 26, slot := 6, constantValue := 0 }, { name := "twoToTheDoubleScaleUp", type := .double, accessFlags := 8, slot := 7, constantValue := 0 }, { name := "twoToTheDoubleScaleDown", type := .double, accessFlags := 8, slot := 8, constantValue := 0 }, { name := "$assertionsDisabled", type := .boolean, accessFlags := 4120, slot := 9, constantValue := 0 }]
  methods := #[k18m0, k18m1]
  instanceTypes := #[]
  staticTypes := #[.double, .double, .double, .double, .double, .long, .long, .double, .double, .boolean]
  resolved := Array.replicate 460 none
  statics := none }

def pool19 : Array CpInfo := pool [(4, .class_ 6), (1, u "java/lang/Object"), (0, u "<init>"), (0, u "()V"), (5, .class_ 16), (1, u "java/lang/StringLatin1"), (73, u "canEncode"), (14, u "(C)Z"), (15, u "$assertionsDisabled"), (0, u "Z"), (98, .class_ 223), (1, u "java/lang/StringLatin1$LinesSpliterator"), (57, u "equals"), (0, u "([B[B)Z"), (97, u "toBytes"), (1, u "(C)[B"), (7, .class_ 391), (0, u "java/lang/StringLatin1$CharsSpliterator")] 3

def k19m0 : Method := { name := "<init>", desc := "()V", sig := { parameters := [], returnType := none }, accessFlags := 0, code := none }
def k19c1 : Code := { maxStack := 2, maxLocals := 1, code := jdk_43_method_3_code, exceptionTable := #[], attributes := #[] }
def k19m1 : Method := { name := "canEncode", desc := "(C)Z", sig := { parameters := [.char], returnType := some .boolean }, accessFlags := 9, code := some k19c1 }
def k19c2 : Code := { maxStack := 3, maxLocals := 3, code := jdk_43_method_13_code, exceptionTable := #[], attributes := #[] }
def k19m2 : Method := { name := "equals", desc := "([B[B)Z", sig := { parameters := [(.array .byte), (.array .byte)], returnType := some .boolean }, accessFlags := 9, code := some k19c2 }
def k19c3 : Code := { maxStack := 4, maxLocals := 1, code := jdk_43_method_46_code, exceptionTable := #[], attributes := #[] }
def k19m3 : Method := { name := "toBytes", desc := "(C)[B", sig := { parameters := [.char], returnType := some (.array .byte) }, accessFlags := 9, code := some k19c3 }
/-- java/lang/StringLatin1 -/
def k19 : Class := { plain "java/lang/StringLatin1" (some 0) with
  accessFlags := 48
  interfaces := #[]
  cf := some (fileOf pool19 14 #[.nestMembers #[390, 221]] #[{ accessFlags := 0, nameIndex := 7, descriptorIndex := 8, attributes := #[] }, { accessFlags := 9, nameIndex := 90, descriptorIndex := 105, attributes := #[] }, { accessFlags := 9, nameIndex := 281, descriptorIndex := 282, attributes := #[] }, { accessFlags := 9, nameIndex := 380, descriptorIndex := 382, attributes := #[] }] 48 4 #[] #[{ accessFlags := 4120, nameIndex := 121, descriptorIndex := 122, attributes := #[] }])
  fields := #[{ name := "$assertionsDisabled", type := .boolean, accessFlags := 4120, slot := 0, constantValue := 0 }]
  methods := #[k19m0, k19m1, k19m2, k19m3]
  instanceTypes := #[]
  staticTypes := #[.boolean]
  resolved := Array.replicate 395 none
  statics := none }

def pool20 : Array CpInfo := pool [(2, .class_ 4), (1, u "java/lang/Object"), (0, u "<init>"), (0, u "()V"), (17, .class_ 26), (1, u "jdk/internal/util/Preconditions"), (28, .class_ 56), (0, u "jdk/internal/util/Preconditions$4"), (57, .class_ 115), (0, u "jdk/internal/util/Preconditions$1"), (7, u "SIOOBE_FORMATTER"), (0, u "Ljava/util/function/BiFunction;"), (0, .class_ 126), (0, u "jdk/internal/util/Preconditions$2"), (3, u "AIOOBE_FORMATTER"), (0, .class_ 132), (0, u "jdk/internal/util/Preconditions$3"), (3, u "IOOBE_FORMATTER")] 57

def k20m0 : Method := { name := "<init>", desc := "()V", sig := { parameters := [], returnType := none }, accessFlags := 1, code := none }
/-- jdk/internal/util/Preconditions -/
def k20 : Class := { plain "jdk/internal/util/Preconditions" (some 0) with
  accessFlags := 33
  interfaces := #[]
  cf := some (fileOf pool20 24 #[.nestMembers #[55, 131, 125, 114]] #[{ accessFlags := 1, nameIndex := 5, descriptorIndex := 6, attributes := #[] }] 33 2 #[] #[{ accessFlags := 25, nameIndex := 123, descriptorIndex := 124, attributes := #[] }, { accessFlags := 25, nameIndex := 130, descriptorIndex := 124, attributes := #[] }, { accessFlags := 25, nameIndex := 136, descriptorIndex := 124, attributes := #[] }])
  fields := #[{ name := "SIOOBE_FORMATTER", type := (.object "java/util/function/BiFunction"), accessFlags := 25, slot := 0, constantValue := 0 }, { name := "AIOOBE_FORMATTER", type := (.object "java/util/function/BiFunction"), accessFlags := 25, slot := 1, constantValue := 0 }, { name := "IOOBE_FORMATTER", type := (.object "java/util/function/BiFunction"), accessFlags := 25, slot := 2, constantValue := 0 }]
  methods := #[k20m0]
  instanceTypes := #[]
  staticTypes := #[(.object "java/util/function/BiFunction"), (.object "java/util/function/BiFunction"), (.object "java/util/function/BiFunction")]
  resolved := Array.replicate 194 none
  statics := some 1 }

def pool21 : Array CpInfo := pool [(9, u "<init>"), (6, .class_ 18), (1, u "java/lang/Object"), (0, u "()V"), (1, .class_ 23), (1, u "jdk/internal/util/ArraysSupport"), (0, u "LOG2_ARRAY_LONG_INDEX_SCALE"), (0, u "I"), (2, u "U"), (0, u "Ljdk/internal/misc/Unsafe;"), (8, u "BIG_ENDIAN"), (0, u "Z"), (8, u "LOG2_BYTE_BIT_SIZE"), (4, u "LOG2_ARRAY_INT_INDEX_SCALE"), (54, u "JLA"), (0, u "Ljdk/internal/access/JavaLangAccess;"), (11, u "LOG2_ARRAY_BOOLEAN_INDEX_SCALE"), (9, u "LOG2_ARRAY_BYTE_INDEX_SCALE"), (5, u "LOG2_ARRAY_CHAR_INDEX_SCALE"), (5, u "LOG2_ARRAY_SHORT_INDEX_SCALE"), (18, u "LOG2_ARRAY_FLOAT_INDEX_SCALE"), (24, u "LOG2_ARRAY_DOUBLE_INDEX_SCALE"), (89, u "T_BOOLEAN"), (2, u "T_CHAR"), (1, u "T_FLOAT"), (1, u "T_DOUBLE"), (1, u "T_BYTE"), (1, u "T_SHORT"), (1, u "T_INT"), (1, u "T_LONG"), (1, u "SOFT_MAX_ARRAY_LENGTH")] 83

def k21m0 : Method := { name := "<init>", desc := "()V", sig := { parameters := [], returnType := none }, accessFlags := 2, code := none }
/-- jdk/internal/util/ArraysSupport -/
def k21 : Class := { plain "jdk/internal/util/ArraysSupport" (some 0) with
  accessFlags := 33
  interfaces := #[]
  cf := some (fileOf pool21 21 #[] #[{ accessFlags := 2, nameIndex := 9, descriptorIndex := 19, attributes := #[] }] 33 16 #[] #[{ accessFlags := 24, nameIndex := 28, descriptorIndex := 29, attributes := #[] }, { accessFlags := 26, nameIndex := 38, descriptorIndex := 39, attributes := #[] }, { accessFlags := 25, nameIndex := 121, descriptorIndex := 25, attributes := #[] }, { accessFlags := 25, nameIndex := 131, descriptorIndex := 25, attributes := #[] }, { accessFlags := 25, nameIndex := 137, descriptorIndex := 25, attributes := #[] }, { accessFlags := 25, nameIndex := 143, descriptorIndex := 25, attributes := #[] }, { accessFlags := 25, nameIndex := 53, descriptorIndex := 25, attributes := #[] }, { accessFlags := 25, nameIndex := 24, descriptorIndex := 25, attributes := #[] }, { accessFlags := 25, nameIndex := 162, descriptorIndex := 25, attributes := #[] }, { accessFlags := 25, nameIndex := 187, descriptorIndex := 25, attributes := #[] }, { accessFlags := 26, nameIndex := 48, descriptorIndex := 25, attributes := #[] }, { accessFlags := 25, nameIndex := 277, descriptorIndex := 25, attributes := #[] }, { accessFlags := 25, nameIndex := 280, descriptorIndex := 25, attributes := #[] }, { accessFlags := 25, nameIndex := 282, descriptorIndex := 25, attributes := #[] }, { accessFlags := 25, nameIndex := 284, descriptorIndex := 25, attributes := #[] }, { accessFlags := 25, nameIndex := 286, descriptorIndex := 25, attributes := #[] }, { accessFlags := 25, nameIndex := 288, descriptorIndex := 25, attributes := #[] }, { accessFlags := 25, nameIndex := 290, descriptorIndex := 25, attributes := #[] }, { accessFlags := 25, nameIndex := 292, descriptorIndex := 25, attributes := #[] }, { accessFlags := 26, nameIndex := 108, descriptorIndex := 109, attributes := #[] }, { accessFlags := 25, nameIndex := 294, descriptorIndex := 25, attributes := #[] }])
  fields := #[{ name := "U", type := (.object "jdk/internal/misc/Unsafe"), accessFlags := 24, slot := 0, constantValue := 0 }, { name := "BIG_ENDIAN", type := .boolean, accessFlags := 26, slot := 1, constantValue := 0 }, { name := "LOG2_ARRAY_BOOLEAN_INDEX_SCALE", type := .int, accessFlags := 25, slot := 2, constantValue := 0 }, { name := "LOG2_ARRAY_BYTE_INDEX_SCALE", type := .int, accessFlags := 25, slot := 3, constantValue := 0 }, { name := "LOG2_ARRAY_CHAR_INDEX_SCALE", type := .int, accessFlags := 25, slot := 4, constantValue := 0 }, { name := "LOG2_ARRAY_SHORT_INDEX_SCALE", type := .int, accessFlags := 25, slot := 5, constantValue := 0 }, { name := "LOG2_ARRAY_INT_INDEX_SCALE", type := .int, accessFlags := 25, slot := 6, constantValue := 0 }, { name := "LOG2_ARRAY_LONG_INDEX_SCALE", type := .int, accessFlags := 25, slot := 7, constantValue := 0 }, { name := "LOG2_ARRAY_FLOAT_INDEX_SCALE", type := .int, accessFlags := 25, slot := 8, constantValue := 0 }, { name := "LOG2_ARRAY_DOUBLE_INDEX_SCALE", type := .int, accessFlags := 25, slot := 9, constantValue := 0 }, { name := "LOG2_BYTE_BIT_SIZE", type := .int, accessFlags := 26, slot := 10, constantValue := 0 }, { name := "T_BOOLEAN", type := .int, accessFlags := 25, slot := 11, constantValue := 0 }, { name := "T_CHAR", type := .int, accessFlags := 25, slot := 12, constantValue := 0 }, { name := "T_FLOAT", type := .int, accessFlags := 25, slot := 13, constantValue := 0 }, { name := "T_DOUBLE", type := .int, accessFlags := 25, slot := 14, constantValue := 0 }, { name := "T_BYTE", type := .int, accessFlags := 25, slot := 15, constantValue := 0 }, { name := "T_SHORT", type := .int, accessFlags := 25, slot := 16, constantValue := 0 }, { name := "T_INT", type := .int, accessFlags := 25, slot := 17, constantValue := 0 }, { name := "T_LONG", type := .int, accessFlags := 25, slot := 18, constantValue := 0 }, { name := "JLA", type := (.object "jdk/internal/access/JavaLangAccess"), accessFlags := 26, slot := 19, constantValue := 0 }, { name := "SOFT_MAX_ARRAY_LENGTH", type := .int, accessFlags := 25, slot := 20, constantValue := 0 }]
  methods := #[k21m0]
  instanceTypes := #[]
  staticTypes := #[(.object "jdk/internal/misc/Unsafe"), .boolean, .int, .int, .int, .int, .int, .int, .int, .int, .int, .int, .int, .int, .int, .int, .int, .int, .int, (.object "jdk/internal/access/JavaLangAccess"), .int]
  resolved := Array.replicate 378 none
  statics := none }

def pool22 : Array CpInfo := pool [(1, u "java/lang/Cloneable"), (0, .class_ 1), (0, u "java/lang/Object"), (0, .class_ 3)] 3

/-- java/lang/Cloneable -/
def k22 : Class := { plain "java/lang/Cloneable" (some 0) with
  accessFlags := 1537
  interfaces := #[]
  cf := some (fileOf pool22 2 #[] #[] 1537 4 #[] #[])
  fields := #[]
  methods := #[]
  instanceTypes := #[]
  staticTypes := #[]
  resolved := Array.replicate 8 none
  statics := none }

/-- the primitive byte -/
def k23 : Class := { plain "byte" none with kind := .primitive 'B', accessFlags := 0x411 }
/-- [B -/
def k24 : Class := { plain "[B" (some 0) with kind := .array 23 .byte, interfaces := #[22, 2], accessFlags := 1041 }

/-- the primitive char -/
def k25 : Class := { plain "char" none with kind := .primitive 'C', accessFlags := 0x411 }
/-- [C -/
def k26 : Class := { plain "[C" (some 0) with kind := .array 25 .char, interfaces := #[22, 2], accessFlags := 1041 }

/-- the primitive int -/
def k27 : Class := { plain "int" none with kind := .primitive 'I', accessFlags := 0x411 }
/-- [I -/
def k28 : Class := { plain "[I" (some 0) with kind := .array 27 .int, interfaces := #[22, 2], accessFlags := 1041 }

def classes0 : Array Class := #[k0, k1, k2, k3, k4, k5, k6, k7, k8, k9, k10, k11, k12, k13, k14, k15, k16, k17, k18, k19, k20, k21, k22, k23, k24, k25, k26, k27, k28]
/-- the class that the rule has made for the site at 34 of com/example/wallhour/wallhour/Choice.toString -/
def k29 : Class := Jvm.LamKit.madeRec { classes := classes0 } "com/example/wallhour/wallhour/Choice" (Jvm.Lambda.Shape.mk "java/util/function/Function" "apply" (Jvm.ClassFile.MethodDescriptor.mk ([(Jvm.ClassFile.FieldType.object "java/lang/Object")] : List Jvm.ClassFile.FieldType) (Option.some (Jvm.ClassFile.FieldType.object "java/lang/Object"))) ([] : List Jvm.ClassFile.FieldType) (6 : Nat) "com/example/wallhour/wallhour/Choice" "lambda$toString$0" (Jvm.ClassFile.MethodDescriptor.mk ([(Jvm.ClassFile.FieldType.object "java/lang/String")] : List Jvm.ClassFile.FieldType) (Option.some (Jvm.ClassFile.FieldType.object "java/lang/String"))) false (Jvm.ClassFile.MethodDescriptor.mk ([(Jvm.ClassFile.FieldType.object "java/lang/String")] : List Jvm.ClassFile.FieldType) (Option.some (Jvm.ClassFile.FieldType.object "java/lang/String")))) 29

def heap : Heap := #[{ cls := 7, slots := #[.long 0, .int 1, .null, .int 0, .null, .int 0, .int 0], vm := .statics 7 },
  { cls := 20, slots := #[.null, .null, .null], vm := .statics 20 },
  { cls := 29, slots := #[], vm := .none }]
def classes : Array Class := #[k0, k1, k2, k3, k4, k5, k6, k7, k8, k9, k10, k11, k12, k13, k14, k15, k16, k17, k18, k19, k20, k21, k22, k23, k24, k25, k26, k27, k28, k29]
def interned : List (Array UInt16 × Addr) := []
def slotsUsed : Nat := 10
def theMethod : MethodId := ⟨1, 1⟩
def args0 : Array Value := #[.int 5, .int 7, .int 2, .int 9]
def aboutOver (below : List Frame) : State where
  vm := { classes := classes, interned := interned.toArray }
  heap := heap
  slotsUsed := slotsUsed
  threads := #[{ frames := .invoking theMethod args0 :: below }]
def below0 : List Frame := [.native { method := ⟨0, 0⟩, args := #[] }]
def about1 : State := aboutOver below0
def p0 : Program := .bare "" "" ""
def e0 : Env := launch0.env 0 0 0
theorem w_frames : about1.frames = Frame.invoking theMethod args0 :: below0 := rfl
set_option maxRecDepth 65536 in
theorem w_args : argsFit about1.vm theMethod args0 = true := by decide +kernel
set_option maxRecDepth 65536 in
theorem w_heap : heapFits about1 = true := by decide +kernel
set_option maxRecDepth 65536 in
theorem w_runnable : about1.curStatus? = some .runnable := by decide +kernel
set_option maxRecDepth 65536 in
theorem w_alone : about1.alone = true := by decide +kernel
set_option maxRecDepth 65536 in
theorem w_named : about1.methodNamed? x = some theMethod := by decide +kernel
set_option maxRecDepth 65536 in
theorem w_hears : about1.hears theMethod below0 = true := by decide +kernel
set_option maxRecDepth 65536 in
theorem w_ripe : about1.ripe theMethod args0 below0 = true := by decide +kernel
theorem w_running : about1.status = .running := rfl
set_option maxRecDepth 65536 in
theorem w_room : about1.hasRoom e0.platform room_1 = true :=
  launch0.hasRoom_least _ room_1 (by decide +kernel) (by decide +kernel) (by decide +kernel) (by decide +kernel) (by decide +kernel) (by decide +kernel)
theorem allAtoms_all (ts : List Jvm.Cond) (a : Array Jvm.Value) (st : Jvm.State) : (allAtoms ts).before a st = ts.all (fun c => c.before a st) := by
  induction ts with
  | nil => rfl
  | cons c t ih =>
    show (Jvm.Cond.and c (allAtoms t)).before a st = _
    rw [Jvm.Cond.before_and, ih, List.all_cons]
def words1 : List Jvm.Cond := Jvm.Cond.code x code maxLocals ret :: tables_1
/-- a 'code' word, met by the world's own term for the bytes: nothing is compared byte by byte -/
theorem code_word {y : MethodName} {bytes : ByteArray} {mx : Nat} {rt : Option FieldType} {a : Array Value} {s : State} {m : MethodId} {meth : Method} {c : Code} (h1 : s.methodNamed? y = some m) (h2 : s.vm.method? m = some meth) (h3 : meth.code = some c) (h4 : c.code = bytes)
    (h5 : (c.maxLocals == mx && c.exceptionTable.isEmpty && decide (c.maxStack ≤ mostOperands) && decide (meth.sig.returnType = rt) && !meth.locks && decide (parseMethodDescriptor y.desc = some meth.sig)) = true) : (Jvm.Cond.code y bytes mx rt).before a s = true := by
  simp only [Bool.and_eq_true, beq_iff_eq, Bool.not_eq_true', decide_eq_true_eq] at h5
  obtain ⟨⟨⟨⟨⟨g1, g2⟩, g3⟩, g4⟩, g5⟩, g6⟩ := h5
  simp [Cond.before, Cond.holds, Cond.value, h1, h2, h3, h4, g1, g2, g3, g4, g5, g6]
def isCode : Jvm.Cond → Bool
  | .code _ _ _ _ => true
  | _ => false
theorem all_split {L : List Jvm.Cond} {P : Jvm.Cond → Bool} (h1 : L.all (fun c => isCode c || P c) = true) (h2 : ∀ c ∈ L.filter isCode, P c = true) : L.all P = true := by
  refine List.all_eq_true.mpr fun c hc => ?_
  have h := List.all_eq_true.mp h1 c hc
  rcases Bool.eq_false_or_eq_true (isCode c) with hi | hi
  · exact h2 c (List.mem_filter.mpr ⟨hc, hi⟩)
  · simpa [hi] using h
set_option maxRecDepth 65536 in
theorem w_c0 : (Jvm.Cond.code x code maxLocals ret).before args0 about1 = true := code_word (m := ⟨1, 1⟩) (meth := k1m1) (c := k1c1) (by decide +kernel) rfl rfl rfl (by decide +kernel)
set_option maxRecDepth 65536 in
theorem w_c1 : (Jvm.Cond.code ({ cls := "com/example/wallhour/wallhour/ChoiceRejectPinLaw", name := "text", desc := "(ICCC)Ljava/lang/String;" } : Jvm.MethodName) method_3_code (4 : Nat) (Option.some (Jvm.ClassFile.FieldType.object "java/lang/String"))).before args0 about1 = true := code_word (m := ⟨1, 2⟩) (meth := k1m2) (c := k1c2) (by decide +kernel) rfl rfl rfl (by decide +kernel)
set_option maxRecDepth 65536 in
theorem w_c2 : (Jvm.Cond.code ({ cls := "java/lang/String", name := "<init>", desc := "([C)V" } : Jvm.MethodName) jdk_42_method_3_code (2 : Nat) (Option.none : Option Jvm.ClassFile.FieldType)).before args0 about1 = true := code_word (m := ⟨7, 1⟩) (meth := k7m1) (c := k7c1) (by decide +kernel) rfl rfl rfl (by decide +kernel)
set_option maxRecDepth 65536 in
theorem w_c3 : (Jvm.Cond.code ({ cls := "java/lang/String", name := "<init>", desc := "([CIILjava/lang/Void;)V" } : Jvm.MethodName) jdk_42_method_149_code (6 : Nat) (Option.none : Option Jvm.ClassFile.FieldType)).before args0 about1 = true := code_word (m := ⟨7, 7⟩) (meth := k7m7) (c := k7c7) (by decide +kernel) rfl rfl rfl (by decide +kernel)
set_option maxRecDepth 65536 in
theorem w_c4 : (Jvm.Cond.code ({ cls := "java/lang/Object", name := "<init>", desc := "()V" } : Jvm.MethodName) object_method_1_code (1 : Nat) (Option.none : Option Jvm.ClassFile.FieldType)).before args0 about1 = true := code_word (m := ⟨0, 0⟩) (meth := k0m0) (c := k0c0) (by decide +kernel) rfl rfl rfl (by decide +kernel)
set_option maxRecDepth 65536 in
theorem w_c5 : (Jvm.Cond.code ({ cls := "com/example/wallhour/wallhour/ChoiceRejectPinLaw", name := "shown", desc := "(ICCC)Ljava/lang/String;" } : Jvm.MethodName) method_4_code (4 : Nat) (Option.some (Jvm.ClassFile.FieldType.object "java/lang/String"))).before args0 about1 = true := code_word (m := ⟨1, 3⟩) (meth := k1m3) (c := k1c3) (by decide +kernel) rfl rfl rfl (by decide +kernel)
set_option maxRecDepth 65536 in
theorem w_c6 : (Jvm.Cond.code ({ cls := "java/lang/StringUTF16", name := "compress", desc := "([CII)[B" } : Jvm.MethodName) jdk_52_method_16_code (6 : Nat) (Option.some (Jvm.ClassFile.FieldType.array Jvm.ClassFile.FieldType.byte))).before args0 about1 = true := code_word (m := ⟨8, 2⟩) (meth := k8m2) (c := k8c2) (by decide +kernel) rfl rfl rfl (by decide +kernel)
set_option maxRecDepth 65536 in
theorem w_c7 : (Jvm.Cond.code ({ cls := "java/lang/StringUTF16", name := "compress", desc := "([CI[BII)I" } : Jvm.MethodName) jdk_52_method_21_code (7 : Nat) (Option.some Jvm.ClassFile.FieldType.int)).before args0 about1 = true := code_word (m := ⟨8, 3⟩) (meth := k8m3) (c := k8c3) (by decide +kernel) rfl rfl rfl (by decide +kernel)
set_option maxRecDepth 65536 in
theorem w_c8 : (Jvm.Cond.code ({ cls := "java/lang/StringUTF16", name := "coderFromArrayLen", desc := "([BI)B" } : Jvm.MethodName) jdk_52_method_15_code (2 : Nat) (Option.some Jvm.ClassFile.FieldType.byte)).before args0 about1 = true := code_word (m := ⟨8, 1⟩) (meth := k8m1) (c := k8c1) (by decide +kernel) rfl rfl rfl (by decide +kernel)
set_option maxRecDepth 65536 in
theorem w_c9 : (Jvm.Cond.code ({ cls := "com/example/wallhour/wallhour/Choice", name := "reject", desc := "(Ljava/lang/String;)Lcom/example/wallhour/wallhour/Choice;" } : Jvm.MethodName) prog_2_method_4_code (1 : Nat) (Option.some (Jvm.ClassFile.FieldType.object "com/example/wallhour/wallhour/Choice"))).before args0 about1 = true := code_word (m := ⟨9, 1⟩) (meth := k9m1) (c := k9c1) (by decide +kernel) rfl rfl rfl (by decide +kernel)
set_option maxRecDepth 65536 in
theorem w_c10 : (Jvm.Cond.code ({ cls := "java/util/Objects", name := "requireNonNull", desc := "(Ljava/lang/Object;Ljava/lang/String;)Ljava/lang/Object;" } : Jvm.MethodName) jdk_31_method_11_code (2 : Nat) (Option.some (Jvm.ClassFile.FieldType.object "java/lang/Object"))).before args0 about1 = true := code_word (m := ⟨10, 2⟩) (meth := k10m2) (c := k10c2) (by decide +kernel) rfl rfl rfl (by decide +kernel)
set_option maxRecDepth 65536 in
theorem w_c11 : (Jvm.Cond.code ({ cls := "java/util/Optional", name := "of", desc := "(Ljava/lang/Object;)Ljava/util/Optional;" } : Jvm.MethodName) jdk_32_method_3_code (1 : Nat) (Option.some (Jvm.ClassFile.FieldType.object "java/util/Optional"))).before args0 about1 = true := code_word (m := ⟨11, 1⟩) (meth := k11m1) (c := k11c1) (by decide +kernel) rfl rfl rfl (by decide +kernel)
set_option maxRecDepth 65536 in
theorem w_c12 : (Jvm.Cond.code ({ cls := "java/util/Objects", name := "requireNonNull", desc := "(Ljava/lang/Object;)Ljava/lang/Object;" } : Jvm.MethodName) jdk_31_method_10_code (1 : Nat) (Option.some (Jvm.ClassFile.FieldType.object "java/lang/Object"))).before args0 about1 = true := code_word (m := ⟨10, 1⟩) (meth := k10m1) (c := k10c1) (by decide +kernel) rfl rfl rfl (by decide +kernel)
set_option maxRecDepth 65536 in
theorem w_c13 : (Jvm.Cond.code ({ cls := "java/util/Optional", name := "<init>", desc := "(Ljava/lang/Object;)V" } : Jvm.MethodName) jdk_32_method_2_code (2 : Nat) (Option.none : Option Jvm.ClassFile.FieldType)).before args0 about1 = true := code_word (m := ⟨11, 0⟩) (meth := k11m0) (c := k11c0) (by decide +kernel) rfl rfl rfl (by decide +kernel)
set_option maxRecDepth 65536 in
theorem w_c14 : (Jvm.Cond.code ({ cls := "com/example/wallhour/wallhour/Choice", name := "<init>", desc := "(Ljava/time/Instant;Ljava/util/Optional;)V" } : Jvm.MethodName) prog_2_method_1_code (3 : Nat) (Option.none : Option Jvm.ClassFile.FieldType)).before args0 about1 = true := code_word (m := ⟨9, 0⟩) (meth := k9m0) (c := k9c0) (by decide +kernel) rfl rfl rfl (by decide +kernel)
set_option maxRecDepth 65536 in
theorem w_c15 : (Jvm.Cond.code ({ cls := "com/example/wallhour/wallhour/Choice", name := "toString", desc := "()Ljava/lang/String;" } : Jvm.MethodName) prog_2_method_7_code (1 : Nat) (Option.some (Jvm.ClassFile.FieldType.object "java/lang/String"))).before args0 about1 = true := code_word (m := ⟨9, 2⟩) (meth := k9m2) (c := k9c2) (by decide +kernel) rfl rfl rfl (by decide +kernel)
set_option maxRecDepth 65536 in
theorem w_c16 : (Jvm.Cond.code ({ cls := "java/util/Optional", name := "map", desc := "(Ljava/util/function/Function;)Ljava/util/Optional;" } : Jvm.MethodName) jdk_32_method_11_code (2 : Nat) (Option.some (Jvm.ClassFile.FieldType.object "java/util/Optional"))).before args0 about1 = true := code_word (m := ⟨11, 4⟩) (meth := k11m4) (c := k11c4) (by decide +kernel) rfl rfl rfl (by decide +kernel)
set_option maxRecDepth 65536 in
theorem w_c17 : (Jvm.Cond.code ({ cls := "java/util/Optional", name := "isEmpty", desc := "()Z" } : Jvm.MethodName) jdk_32_method_7_code (1 : Nat) (Option.some Jvm.ClassFile.FieldType.boolean)).before args0 about1 = true := code_word (m := ⟨11, 3⟩) (meth := k11m3) (c := k11c3) (by decide +kernel) rfl rfl rfl (by decide +kernel)
set_option maxRecDepth 65536 in
theorem w_c18 : (Jvm.Cond.code ({ cls := "com/example/wallhour/wallhour/Choice", name := "lambda$toString$0", desc := "(Ljava/lang/String;)Ljava/lang/String;" } : Jvm.MethodName) prog_2_method_8_code (1 : Nat) (Option.some (Jvm.ClassFile.FieldType.object "java/lang/String"))).before args0 about1 = true := code_word (m := ⟨9, 3⟩) (meth := k9m3) (c := k9c3) (by decide +kernel) rfl rfl rfl (by decide +kernel)
set_option maxRecDepth 65536 in
theorem w_c19 : (Jvm.Cond.code ({ cls := "java/lang/StringBuilder", name := "<init>", desc := "()V" } : Jvm.MethodName) jdk_67_method_1_code (1 : Nat) (Option.none : Option Jvm.ClassFile.FieldType)).before args0 about1 = true := code_word (m := ⟨15, 0⟩) (meth := k15m0) (c := k15c0) (by decide +kernel) rfl rfl rfl (by decide +kernel)
set_option maxRecDepth 65536 in
theorem w_c20 : (Jvm.Cond.code ({ cls := "java/lang/AbstractStringBuilder", name := "<init>", desc := "(I)V" } : Jvm.MethodName) jdk_68_method_2_code (2 : Nat) (Option.none : Option Jvm.ClassFile.FieldType)).before args0 about1 = true := code_word (m := ⟨14, 1⟩) (meth := k14m1) (c := k14c1) (by decide +kernel) rfl rfl rfl (by decide +kernel)
set_option maxRecDepth 65536 in
theorem w_c21 : (Jvm.Cond.code ({ cls := "java/lang/StringBuilder", name := "append", desc := "(Ljava/lang/String;)Ljava/lang/StringBuilder;" } : Jvm.MethodName) jdk_67_method_7_code (2 : Nat) (Option.some (Jvm.ClassFile.FieldType.object "java/lang/StringBuilder"))).before args0 about1 = true := code_word (m := ⟨15, 1⟩) (meth := k15m1) (c := k15c1) (by decide +kernel) rfl rfl rfl (by decide +kernel)
set_option maxRecDepth 65536 in
theorem w_c22 : (Jvm.Cond.code ({ cls := "java/lang/AbstractStringBuilder", name := "append", desc := "(Ljava/lang/String;)Ljava/lang/AbstractStringBuilder;" } : Jvm.MethodName) jdk_68_method_22_code (3 : Nat) (Option.some (Jvm.ClassFile.FieldType.object "java/lang/AbstractStringBuilder"))).before args0 about1 = true := code_word (m := ⟨14, 4⟩) (meth := k14m4) (c := k14c4) (by decide +kernel) rfl rfl rfl (by decide +kernel)
set_option maxRecDepth 65536 in
theorem w_c23 : (Jvm.Cond.code ({ cls := "java/lang/String", name := "length", desc := "()I" } : Jvm.MethodName) jdk_42_method_54_code (1 : Nat) (Option.some Jvm.ClassFile.FieldType.int)).before args0 about1 = true := code_word (m := ⟨7, 3⟩) (meth := k7m3) (c := k7c3) (by decide +kernel) rfl rfl rfl (by decide +kernel)
set_option maxRecDepth 65536 in
theorem w_c24 : (Jvm.Cond.code ({ cls := "java/lang/String", name := "coder", desc := "()B" } : Jvm.MethodName) jdk_42_method_152_code (1 : Nat) (Option.some Jvm.ClassFile.FieldType.byte)).before args0 about1 = true := code_word (m := ⟨7, 10⟩) (meth := k7m10) (c := k7c10) (by decide +kernel) rfl rfl rfl (by decide +kernel)
set_option maxRecDepth 65536 in
theorem w_c25 : (Jvm.Cond.code ({ cls := "java/lang/AbstractStringBuilder", name := "ensureCapacityInternal", desc := "(I)V" } : Jvm.MethodName) jdk_68_method_9_code (3 : Nat) (Option.none : Option Jvm.ClassFile.FieldType)).before args0 about1 = true := code_word (m := ⟨14, 3⟩) (meth := k14m3) (c := k14c3) (by decide +kernel) rfl rfl rfl (by decide +kernel)
set_option maxRecDepth 65536 in
theorem w_c26 : (Jvm.Cond.code ({ cls := "java/lang/AbstractStringBuilder", name := "putStringAt", desc := "(ILjava/lang/String;)V" } : Jvm.MethodName) jdk_68_method_73_code (3 : Nat) (Option.none : Option Jvm.ClassFile.FieldType)).before args0 about1 = true := code_word (m := ⟨14, 8⟩) (meth := k14m8) (c := k14c8) (by decide +kernel) rfl rfl rfl (by decide +kernel)
set_option maxRecDepth 65536 in
theorem w_c27 : (Jvm.Cond.code ({ cls := "java/lang/AbstractStringBuilder", name := "inflateIfNeededFor", desc := "(Ljava/lang/String;)V" } : Jvm.MethodName) jdk_68_method_71_code (2 : Nat) (Option.none : Option Jvm.ClassFile.FieldType)).before args0 about1 = true := code_word (m := ⟨14, 7⟩) (meth := k14m7) (c := k14c7) (by decide +kernel) rfl rfl rfl (by decide +kernel)
set_option maxRecDepth 65536 in
theorem w_c28 : (Jvm.Cond.code ({ cls := "java/lang/String", name := "getBytes", desc := "([BIB)V" } : Jvm.MethodName) jdk_42_method_147_code (4 : Nat) (Option.none : Option Jvm.ClassFile.FieldType)).before args0 about1 = true := code_word (m := ⟨7, 6⟩) (meth := k7m6) (c := k7c6) (by decide +kernel) rfl rfl rfl (by decide +kernel)
set_option maxRecDepth 65536 in
theorem w_c29 : (Jvm.Cond.code ({ cls := "java/lang/StringBuilder", name := "toString", desc := "()Ljava/lang/String;" } : Jvm.MethodName) jdk_67_method_42_code (1 : Nat) (Option.some (Jvm.ClassFile.FieldType.object "java/lang/String"))).before args0 about1 = true := code_word (m := ⟨15, 2⟩) (meth := k15m2) (c := k15c2) (by decide +kernel) rfl rfl rfl (by decide +kernel)
set_option maxRecDepth 65536 in
theorem w_c30 : (Jvm.Cond.code ({ cls := "java/lang/String", name := "<init>", desc := "(Ljava/lang/StringBuilder;)V" } : Jvm.MethodName) jdk_42_method_53_code (2 : Nat) (Option.none : Option Jvm.ClassFile.FieldType)).before args0 about1 = true := code_word (m := ⟨7, 2⟩) (meth := k7m2) (c := k7c2) (by decide +kernel) rfl rfl rfl (by decide +kernel)
set_option maxRecDepth 65536 in
theorem w_c31 : (Jvm.Cond.code ({ cls := "java/lang/String", name := "<init>", desc := "(Ljava/lang/AbstractStringBuilder;Ljava/lang/Void;)V" } : Jvm.MethodName) jdk_42_method_150_code (5 : Nat) (Option.none : Option Jvm.ClassFile.FieldType)).before args0 about1 = true := code_word (m := ⟨7, 8⟩) (meth := k7m8) (c := k7c8) (by decide +kernel) rfl rfl rfl (by decide +kernel)
set_option maxRecDepth 65536 in
theorem w_c32 : (Jvm.Cond.code ({ cls := "java/lang/AbstractStringBuilder", name := "getValue", desc := "()[B" } : Jvm.MethodName) jdk_68_method_64_code (1 : Nat) (Option.some (Jvm.ClassFile.FieldType.array Jvm.ClassFile.FieldType.byte))).before args0 about1 = true := code_word (m := ⟨14, 5⟩) (meth := k14m5) (c := k14c5) (by decide +kernel) rfl rfl rfl (by decide +kernel)
set_option maxRecDepth 65536 in
theorem w_c33 : (Jvm.Cond.code ({ cls := "java/lang/StringBuilder", name := "length", desc := "()I" } : Jvm.MethodName) jdk_67_method_93_code (1 : Nat) (Option.some Jvm.ClassFile.FieldType.int)).before args0 about1 = true := code_word (m := ⟨15, 3⟩) (meth := k15m3) (c := k15c3) (by decide +kernel) rfl rfl rfl (by decide +kernel)
set_option maxRecDepth 65536 in
theorem w_c34 : (Jvm.Cond.code ({ cls := "java/lang/AbstractStringBuilder", name := "length", desc := "()I" } : Jvm.MethodName) jdk_68_method_6_code (1 : Nat) (Option.some Jvm.ClassFile.FieldType.int)).before args0 about1 = true := code_word (m := ⟨14, 2⟩) (meth := k14m2) (c := k14c2) (by decide +kernel) rfl rfl rfl (by decide +kernel)
set_option maxRecDepth 65536 in
theorem w_c35 : (Jvm.Cond.code ({ cls := "java/lang/AbstractStringBuilder", name := "isLatin1", desc := "()Z" } : Jvm.MethodName) jdk_68_method_68_code (1 : Nat) (Option.some Jvm.ClassFile.FieldType.boolean)).before args0 about1 = true := code_word (m := ⟨14, 6⟩) (meth := k14m6) (c := k14c6) (by decide +kernel) rfl rfl rfl (by decide +kernel)
set_option maxRecDepth 65536 in
theorem w_c36 : (Jvm.Cond.code ({ cls := "java/util/Arrays", name := "copyOfRange", desc := "([BII)[B" } : Jvm.MethodName) jdk_65_method_132_code (3 : Nat) (Option.some (Jvm.ClassFile.FieldType.array Jvm.ClassFile.FieldType.byte))).before args0 about1 = true := code_word (m := ⟨17, 2⟩) (meth := k17m2) (c := k17c2) (by decide +kernel) rfl rfl rfl (by decide +kernel)
set_option maxRecDepth 65536 in
theorem w_c37 : (Jvm.Cond.code ({ cls := "java/util/Arrays", name := "copyOfRangeByte", desc := "([BII)[B" } : Jvm.MethodName) jdk_65_method_133_code (5 : Nat) (Option.some (Jvm.ClassFile.FieldType.array Jvm.ClassFile.FieldType.byte))).before args0 about1 = true := code_word (m := ⟨17, 3⟩) (meth := k17m3) (c := k17c3) (by decide +kernel) rfl rfl rfl (by decide +kernel)
set_option maxRecDepth 65536 in
theorem w_c38 : (Jvm.Cond.code ({ cls := "java/util/Arrays", name := "checkLength", desc := "(II)V" } : Jvm.MethodName) jdk_65_method_131_code (2 : Nat) (Option.none : Option Jvm.ClassFile.FieldType)).before args0 about1 = true := code_word (m := ⟨17, 1⟩) (meth := k17m1) (c := k17c1) (by decide +kernel) rfl rfl rfl (by decide +kernel)
set_option maxRecDepth 65536 in
theorem w_c39 : (Jvm.Cond.code ({ cls := "java/lang/Math", name := "min", desc := "(II)I" } : Jvm.MethodName) jdk_29_method_69_code (2 : Nat) (Option.some Jvm.ClassFile.FieldType.int)).before args0 about1 = true := code_word (m := ⟨18, 1⟩) (meth := k18m1) (c := k18c1) (by decide +kernel) rfl rfl rfl (by decide +kernel)
set_option maxRecDepth 65536 in
theorem w_c40 : (Jvm.Cond.code ({ cls := "java/util/Optional", name := "ofNullable", desc := "(Ljava/lang/Object;)Ljava/util/Optional;" } : Jvm.MethodName) jdk_32_method_4_code (1 : Nat) (Option.some (Jvm.ClassFile.FieldType.object "java/util/Optional"))).before args0 about1 = true := code_word (m := ⟨11, 2⟩) (meth := k11m2) (c := k11c2) (by decide +kernel) rfl rfl rfl (by decide +kernel)
set_option maxRecDepth 65536 in
theorem w_c41 : (Jvm.Cond.code ({ cls := "java/util/Optional", name := "orElse", desc := "(Ljava/lang/Object;)Ljava/lang/Object;" } : Jvm.MethodName) jdk_32_method_15_code (2 : Nat) (Option.some (Jvm.ClassFile.FieldType.object "java/lang/Object"))).before args0 about1 = true := code_word (m := ⟨11, 5⟩) (meth := k11m5) (c := k11c5) (by decide +kernel) rfl rfl rfl (by decide +kernel)
set_option maxRecDepth 65536 in
theorem w_c42 : (Jvm.Cond.code ({ cls := "java/lang/String", name := "equals", desc := "(Ljava/lang/Object;)Z" } : Jvm.MethodName) jdk_42_method_66_code (3 : Nat) (Option.some Jvm.ClassFile.FieldType.boolean)).before args0 about1 = true := code_word (m := ⟨7, 4⟩) (meth := k7m4) (c := k7c4) (by decide +kernel) rfl rfl rfl (by decide +kernel)
set_option maxRecDepth 65536 in
theorem w_c43 : (Jvm.Cond.code ({ cls := "java/lang/StringLatin1", name := "equals", desc := "([B[B)Z" } : Jvm.MethodName) jdk_43_method_13_code (3 : Nat) (Option.some Jvm.ClassFile.FieldType.boolean)).before args0 about1 = true := code_word (m := ⟨19, 2⟩) (meth := k19m2) (c := k19c2) (by decide +kernel) rfl rfl rfl (by decide +kernel)
set_option maxRecDepth 65536 in
theorem w_c44 : (Jvm.Cond.code ({ cls := "java/lang/String", name := "valueOf", desc := "(C)Ljava/lang/String;" } : Jvm.MethodName) jdk_42_method_139_code (1 : Nat) (Option.some (Jvm.ClassFile.FieldType.object "java/lang/String"))).before args0 about1 = true := code_word (m := ⟨7, 5⟩) (meth := k7m5) (c := k7c5) (by decide +kernel) rfl rfl rfl (by decide +kernel)
set_option maxRecDepth 65536 in
theorem w_c45 : (Jvm.Cond.code ({ cls := "java/lang/StringLatin1", name := "canEncode", desc := "(C)Z" } : Jvm.MethodName) jdk_43_method_3_code (1 : Nat) (Option.some Jvm.ClassFile.FieldType.boolean)).before args0 about1 = true := code_word (m := ⟨19, 1⟩) (meth := k19m1) (c := k19c1) (by decide +kernel) rfl rfl rfl (by decide +kernel)
set_option maxRecDepth 65536 in
theorem w_c46 : (Jvm.Cond.code ({ cls := "java/lang/StringLatin1", name := "toBytes", desc := "(C)[B" } : Jvm.MethodName) jdk_43_method_46_code (1 : Nat) (Option.some (Jvm.ClassFile.FieldType.array Jvm.ClassFile.FieldType.byte))).before args0 about1 = true := code_word (m := ⟨19, 3⟩) (meth := k19m3) (c := k19c3) (by decide +kernel) rfl rfl rfl (by decide +kernel)
set_option maxRecDepth 65536 in
theorem w_c47 : (Jvm.Cond.code ({ cls := "java/lang/String", name := "<init>", desc := "([BB)V" } : Jvm.MethodName) jdk_42_method_151_code (3 : Nat) (Option.none : Option Jvm.ClassFile.FieldType)).before args0 about1 = true := code_word (m := ⟨7, 9⟩) (meth := k7m9) (c := k7c9) (by decide +kernel) rfl rfl rfl (by decide +kernel)
def codes1 : List Jvm.Cond := [Jvm.Cond.code x code maxLocals ret, Jvm.Cond.code ({ cls := "com/example/wallhour/wallhour/ChoiceRejectPinLaw", name := "text", desc := "(ICCC)Ljava/lang/String;" } : Jvm.MethodName) method_3_code (4 : Nat) (Option.some (Jvm.ClassFile.FieldType.object "java/lang/String")), Jvm.Cond.code ({ cls := "java/lang/String", name := "<init>", desc := "([C)V" } : Jvm.MethodName) jdk_42_method_3_code (2 : Nat) (Option.none : Option Jvm.ClassFile.FieldType), Jvm.Cond.code ({ cls := "java/lang/String", name := "<init>", desc := "([CIILjava/lang/Void;)V" } : Jvm.MethodName) jdk_42_method_149_code (6 : Nat) (Option.none : Option Jvm.ClassFile.FieldType), Jvm.Cond.code ({ cls := "java/lang/Object", name := "<init>", desc := "()V" } : Jvm.MethodName) object_method_1_code (1 : Nat) (Option.none : Option Jvm.ClassFile.FieldType), Jvm.Cond.code ({ cls := "com/example/wallhour/wallhour/ChoiceRejectPinLaw", name := "shown", desc := "(ICCC)Ljava/lang/String;" } : Jvm.MethodName) method_4_code (4 : Nat) (Option.some (Jvm.ClassFile.FieldType.object "java/lang/String")), Jvm.Cond.code ({ cls := "java/lang/StringUTF16", name := "compress", desc := "([CII)[B" } : Jvm.MethodName) jdk_52_method_16_code (6 : Nat) (Option.some (Jvm.ClassFile.FieldType.array Jvm.ClassFile.FieldType.byte)), Jvm.Cond.code ({ cls := "java/lang/StringUTF16", name := "compress", desc := "([CI[BII)I" } : Jvm.MethodName) jdk_52_method_21_code (7 : Nat) (Option.some Jvm.ClassFile.FieldType.int), Jvm.Cond.code ({ cls := "java/lang/StringUTF16", name := "coderFromArrayLen", desc := "([BI)B" } : Jvm.MethodName) jdk_52_method_15_code (2 : Nat) (Option.some Jvm.ClassFile.FieldType.byte), Jvm.Cond.code ({ cls := "com/example/wallhour/wallhour/Choice", name := "reject", desc := "(Ljava/lang/String;)Lcom/example/wallhour/wallhour/Choice;" } : Jvm.MethodName) prog_2_method_4_code (1 : Nat) (Option.some (Jvm.ClassFile.FieldType.object "com/example/wallhour/wallhour/Choice")), Jvm.Cond.code ({ cls := "java/util/Objects", name := "requireNonNull", desc := "(Ljava/lang/Object;Ljava/lang/String;)Ljava/lang/Object;" } : Jvm.MethodName) jdk_31_method_11_code (2 : Nat) (Option.some (Jvm.ClassFile.FieldType.object "java/lang/Object")), Jvm.Cond.code ({ cls := "java/util/Optional", name := "of", desc := "(Ljava/lang/Object;)Ljava/util/Optional;" } : Jvm.MethodName) jdk_32_method_3_code (1 : Nat) (Option.some (Jvm.ClassFile.FieldType.object "java/util/Optional")), Jvm.Cond.code ({ cls := "java/util/Objects", name := "requireNonNull", desc := "(Ljava/lang/Object;)Ljava/lang/Object;" } : Jvm.MethodName) jdk_31_method_10_code (1 : Nat) (Option.some (Jvm.ClassFile.FieldType.object "java/lang/Object")), Jvm.Cond.code ({ cls := "java/util/Optional", name := "<init>", desc := "(Ljava/lang/Object;)V" } : Jvm.MethodName) jdk_32_method_2_code (2 : Nat) (Option.none : Option Jvm.ClassFile.FieldType), Jvm.Cond.code ({ cls := "com/example/wallhour/wallhour/Choice", name := "<init>", desc := "(Ljava/time/Instant;Ljava/util/Optional;)V" } : Jvm.MethodName) prog_2_method_1_code (3 : Nat) (Option.none : Option Jvm.ClassFile.FieldType), Jvm.Cond.code ({ cls := "com/example/wallhour/wallhour/Choice", name := "toString", desc := "()Ljava/lang/String;" } : Jvm.MethodName) prog_2_method_7_code (1 : Nat) (Option.some (Jvm.ClassFile.FieldType.object "java/lang/String")), Jvm.Cond.code ({ cls := "java/util/Optional", name := "map", desc := "(Ljava/util/function/Function;)Ljava/util/Optional;" } : Jvm.MethodName) jdk_32_method_11_code (2 : Nat) (Option.some (Jvm.ClassFile.FieldType.object "java/util/Optional")), Jvm.Cond.code ({ cls := "java/util/Optional", name := "isEmpty", desc := "()Z" } : Jvm.MethodName) jdk_32_method_7_code (1 : Nat) (Option.some Jvm.ClassFile.FieldType.boolean), Jvm.Cond.code ({ cls := "com/example/wallhour/wallhour/Choice", name := "lambda$toString$0", desc := "(Ljava/lang/String;)Ljava/lang/String;" } : Jvm.MethodName) prog_2_method_8_code (1 : Nat) (Option.some (Jvm.ClassFile.FieldType.object "java/lang/String")), Jvm.Cond.code ({ cls := "java/lang/StringBuilder", name := "<init>", desc := "()V" } : Jvm.MethodName) jdk_67_method_1_code (1 : Nat) (Option.none : Option Jvm.ClassFile.FieldType), Jvm.Cond.code ({ cls := "java/lang/AbstractStringBuilder", name := "<init>", desc := "(I)V" } : Jvm.MethodName) jdk_68_method_2_code (2 : Nat) (Option.none : Option Jvm.ClassFile.FieldType), Jvm.Cond.code ({ cls := "java/lang/StringBuilder", name := "append", desc := "(Ljava/lang/String;)Ljava/lang/StringBuilder;" } : Jvm.MethodName) jdk_67_method_7_code (2 : Nat) (Option.some (Jvm.ClassFile.FieldType.object "java/lang/StringBuilder")), Jvm.Cond.code ({ cls := "java/lang/AbstractStringBuilder", name := "append", desc := "(Ljava/lang/String;)Ljava/lang/AbstractStringBuilder;" } : Jvm.MethodName) jdk_68_method_22_code (3 : Nat) (Option.some (Jvm.ClassFile.FieldType.object "java/lang/AbstractStringBuilder")), Jvm.Cond.code ({ cls := "java/lang/String", name := "length", desc := "()I" } : Jvm.MethodName) jdk_42_method_54_code (1 : Nat) (Option.some Jvm.ClassFile.FieldType.int), Jvm.Cond.code ({ cls := "java/lang/String", name := "coder", desc := "()B" } : Jvm.MethodName) jdk_42_method_152_code (1 : Nat) (Option.some Jvm.ClassFile.FieldType.byte), Jvm.Cond.code ({ cls := "java/lang/AbstractStringBuilder", name := "ensureCapacityInternal", desc := "(I)V" } : Jvm.MethodName) jdk_68_method_9_code (3 : Nat) (Option.none : Option Jvm.ClassFile.FieldType), Jvm.Cond.code ({ cls := "java/lang/AbstractStringBuilder", name := "putStringAt", desc := "(ILjava/lang/String;)V" } : Jvm.MethodName) jdk_68_method_73_code (3 : Nat) (Option.none : Option Jvm.ClassFile.FieldType), Jvm.Cond.code ({ cls := "java/lang/AbstractStringBuilder", name := "inflateIfNeededFor", desc := "(Ljava/lang/String;)V" } : Jvm.MethodName) jdk_68_method_71_code (2 : Nat) (Option.none : Option Jvm.ClassFile.FieldType), Jvm.Cond.code ({ cls := "java/lang/String", name := "getBytes", desc := "([BIB)V" } : Jvm.MethodName) jdk_42_method_147_code (4 : Nat) (Option.none : Option Jvm.ClassFile.FieldType), Jvm.Cond.code ({ cls := "java/lang/StringBuilder", name := "toString", desc := "()Ljava/lang/String;" } : Jvm.MethodName) jdk_67_method_42_code (1 : Nat) (Option.some (Jvm.ClassFile.FieldType.object "java/lang/String")), Jvm.Cond.code ({ cls := "java/lang/String", name := "<init>", desc := "(Ljava/lang/StringBuilder;)V" } : Jvm.MethodName) jdk_42_method_53_code (2 : Nat) (Option.none : Option Jvm.ClassFile.FieldType), Jvm.Cond.code ({ cls := "java/lang/String", name := "<init>", desc := "(Ljava/lang/AbstractStringBuilder;Ljava/lang/Void;)V" } : Jvm.MethodName) jdk_42_method_150_code (5 : Nat) (Option.none : Option Jvm.ClassFile.FieldType), Jvm.Cond.code ({ cls := "java/lang/AbstractStringBuilder", name := "getValue", desc := "()[B" } : Jvm.MethodName) jdk_68_method_64_code (1 : Nat) (Option.some (Jvm.ClassFile.FieldType.array Jvm.ClassFile.FieldType.byte)), Jvm.Cond.code ({ cls := "java/lang/StringBuilder", name := "length", desc := "()I" } : Jvm.MethodName) jdk_67_method_93_code (1 : Nat) (Option.some Jvm.ClassFile.FieldType.int), Jvm.Cond.code ({ cls := "java/lang/AbstractStringBuilder", name := "length", desc := "()I" } : Jvm.MethodName) jdk_68_method_6_code (1 : Nat) (Option.some Jvm.ClassFile.FieldType.int), Jvm.Cond.code ({ cls := "java/lang/AbstractStringBuilder", name := "isLatin1", desc := "()Z" } : Jvm.MethodName) jdk_68_method_68_code (1 : Nat) (Option.some Jvm.ClassFile.FieldType.boolean), Jvm.Cond.code ({ cls := "java/util/Arrays", name := "copyOfRange", desc := "([BII)[B" } : Jvm.MethodName) jdk_65_method_132_code (3 : Nat) (Option.some (Jvm.ClassFile.FieldType.array Jvm.ClassFile.FieldType.byte)), Jvm.Cond.code ({ cls := "java/util/Arrays", name := "copyOfRangeByte", desc := "([BII)[B" } : Jvm.MethodName) jdk_65_method_133_code (5 : Nat) (Option.some (Jvm.ClassFile.FieldType.array Jvm.ClassFile.FieldType.byte)), Jvm.Cond.code ({ cls := "java/util/Arrays", name := "checkLength", desc := "(II)V" } : Jvm.MethodName) jdk_65_method_131_code (2 : Nat) (Option.none : Option Jvm.ClassFile.FieldType), Jvm.Cond.code ({ cls := "java/lang/Math", name := "min", desc := "(II)I" } : Jvm.MethodName) jdk_29_method_69_code (2 : Nat) (Option.some Jvm.ClassFile.FieldType.int), Jvm.Cond.code ({ cls := "java/util/Optional", name := "ofNullable", desc := "(Ljava/lang/Object;)Ljava/util/Optional;" } : Jvm.MethodName) jdk_32_method_4_code (1 : Nat) (Option.some (Jvm.ClassFile.FieldType.object "java/util/Optional")), Jvm.Cond.code ({ cls := "java/util/Optional", name := "orElse", desc := "(Ljava/lang/Object;)Ljava/lang/Object;" } : Jvm.MethodName) jdk_32_method_15_code (2 : Nat) (Option.some (Jvm.ClassFile.FieldType.object "java/lang/Object")), Jvm.Cond.code ({ cls := "java/lang/String", name := "equals", desc := "(Ljava/lang/Object;)Z" } : Jvm.MethodName) jdk_42_method_66_code (3 : Nat) (Option.some Jvm.ClassFile.FieldType.boolean), Jvm.Cond.code ({ cls := "java/lang/StringLatin1", name := "equals", desc := "([B[B)Z" } : Jvm.MethodName) jdk_43_method_13_code (3 : Nat) (Option.some Jvm.ClassFile.FieldType.boolean), Jvm.Cond.code ({ cls := "java/lang/String", name := "valueOf", desc := "(C)Ljava/lang/String;" } : Jvm.MethodName) jdk_42_method_139_code (1 : Nat) (Option.some (Jvm.ClassFile.FieldType.object "java/lang/String")), Jvm.Cond.code ({ cls := "java/lang/StringLatin1", name := "canEncode", desc := "(C)Z" } : Jvm.MethodName) jdk_43_method_3_code (1 : Nat) (Option.some Jvm.ClassFile.FieldType.boolean), Jvm.Cond.code ({ cls := "java/lang/StringLatin1", name := "toBytes", desc := "(C)[B" } : Jvm.MethodName) jdk_43_method_46_code (1 : Nat) (Option.some (Jvm.ClassFile.FieldType.array Jvm.ClassFile.FieldType.byte)), Jvm.Cond.code ({ cls := "java/lang/String", name := "<init>", desc := "([BB)V" } : Jvm.MethodName) jdk_42_method_151_code (3 : Nat) (Option.none : Option Jvm.ClassFile.FieldType)]
set_option maxRecDepth 65536 in
theorem codes_eq : words1.filter isCode = codes1 := rfl
theorem w_codes : ∀ c ∈ words1.filter isCode, c.before args0 about1 = true := by
  rw [codes_eq]
  intro c hc
  simp only [codes1, List.mem_cons, List.not_mem_nil, or_false] at hc
  rcases hc with rfl | rfl | rfl | rfl | rfl | rfl | rfl | rfl | rfl | rfl | rfl | rfl | rfl | rfl | rfl | rfl | rfl | rfl | rfl | rfl | rfl | rfl | rfl | rfl | rfl | rfl | rfl | rfl | rfl | rfl | rfl | rfl | rfl | rfl | rfl | rfl | rfl | rfl | rfl | rfl | rfl | rfl | rfl | rfl | rfl | rfl | rfl | rfl
  · exact w_c0
  · exact w_c1
  · exact w_c2
  · exact w_c3
  · exact w_c4
  · exact w_c5
  · exact w_c6
  · exact w_c7
  · exact w_c8
  · exact w_c9
  · exact w_c10
  · exact w_c11
  · exact w_c12
  · exact w_c13
  · exact w_c14
  · exact w_c15
  · exact w_c16
  · exact w_c17
  · exact w_c18
  · exact w_c19
  · exact w_c20
  · exact w_c21
  · exact w_c22
  · exact w_c23
  · exact w_c24
  · exact w_c25
  · exact w_c26
  · exact w_c27
  · exact w_c28
  · exact w_c29
  · exact w_c30
  · exact w_c31
  · exact w_c32
  · exact w_c33
  · exact w_c34
  · exact w_c35
  · exact w_c36
  · exact w_c37
  · exact w_c38
  · exact w_c39
  · exact w_c40
  · exact w_c41
  · exact w_c42
  · exact w_c43
  · exact w_c44
  · exact w_c45
  · exact w_c46
  · exact w_c47
set_option maxRecDepth 65536 in
theorem w_t1 : (words1.take 24).all (fun c => isCode c || c.before args0 about1) = true := by decide +kernel
set_option maxRecDepth 65536 in
theorem w_t2 : ((words1.drop 24).take 24).all (fun c => isCode c || c.before args0 about1) = true := by decide +kernel
set_option maxRecDepth 65536 in
theorem w_t3 : (((words1.drop 24).drop 24).take 24).all (fun c => isCode c || c.before args0 about1) = true := by decide +kernel
set_option maxRecDepth 65536 in
theorem w_t4 : ((((words1.drop 24).drop 24).drop 24).take 24).all (fun c => isCode c || c.before args0 about1) = true := by decide +kernel
set_option maxRecDepth 65536 in
theorem w_t5 : (((((words1.drop 24).drop 24).drop 24).drop 24).take 24).all (fun c => isCode c || c.before args0 about1) = true := by decide +kernel
set_option maxRecDepth 65536 in
theorem w_t6 : ((((((words1.drop 24).drop 24).drop 24).drop 24).drop 24).take 24).all (fun c => isCode c || c.before args0 about1) = true := by decide +kernel
set_option maxRecDepth 65536 in
theorem w_t7 : (((((((words1.drop 24).drop 24).drop 24).drop 24).drop 24).drop 24).take 24).all (fun c => isCode c || c.before args0 about1) = true := by decide +kernel
set_option maxRecDepth 65536 in
theorem w_t8 : ((((((((words1.drop 24).drop 24).drop 24).drop 24).drop 24).drop 24).drop 24).take 24).all (fun c => isCode c || c.before args0 about1) = true := by decide +kernel
set_option maxRecDepth 65536 in
theorem w_t9 : (((((((((words1.drop 24).drop 24).drop 24).drop 24).drop 24).drop 24).drop 24).drop 24).take 24).all (fun c => isCode c || c.before args0 about1) = true := by decide +kernel
set_option maxRecDepth 65536 in
theorem w_t10 : ((((((((((words1.drop 24).drop 24).drop 24).drop 24).drop 24).drop 24).drop 24).drop 24).drop 24).take 24).all (fun c => isCode c || c.before args0 about1) = true := by decide +kernel
set_option maxRecDepth 65536 in
theorem w_t11 : ((((((((((words1.drop 24).drop 24).drop 24).drop 24).drop 24).drop 24).drop 24).drop 24).drop 24).drop 24).all (fun c => isCode c || c.before args0 about1) = true := by decide +kernel
theorem w_tables : (allAtoms (Jvm.Cond.code x code maxLocals ret :: tables_1)).before args0 about1 = true := by
  rw [allAtoms_all]
  show words1.all (fun c => c.before args0 about1) = true
  refine all_split ?_ w_codes
  rw [← List.take_append_drop 24 words1, List.all_append, w_t1, ← List.take_append_drop 24 (words1.drop 24), List.all_append, w_t2, ← List.take_append_drop 24 ((words1.drop 24).drop 24), List.all_append, w_t3, ← List.take_append_drop 24 (((words1.drop 24).drop 24).drop 24), List.all_append, w_t4, ← List.take_append_drop 24 ((((words1.drop 24).drop 24).drop 24).drop 24), List.all_append, w_t5, ← List.take_append_drop 24 (((((words1.drop 24).drop 24).drop 24).drop 24).drop 24), List.all_append, w_t6, ← List.take_append_drop 24 ((((((words1.drop 24).drop 24).drop 24).drop 24).drop 24).drop 24), List.all_append, w_t7, ← List.take_append_drop 24 (((((((words1.drop 24).drop 24).drop 24).drop 24).drop 24).drop 24).drop 24), List.all_append, w_t8, ← List.take_append_drop 24 ((((((((words1.drop 24).drop 24).drop 24).drop 24).drop 24).drop 24).drop 24).drop 24), List.all_append, w_t9, ← List.take_append_drop 24 (((((((((words1.drop 24).drop 24).drop 24).drop 24).drop 24).drop 24).drop 24).drop 24).drop 24), List.all_append, w_t10, w_t11]
  rfl
set_option maxRecDepth 65536 in
theorem w_rest : rest_1_c.before args0 about1 = true := by decide +kernel
set_option maxRecDepth 65536 in
theorem w_case : (Jvm.Cond.and given_1 narrow_1).before args0 about1 = true := by decide +kernel
set_option maxRecDepth 65536 in
theorem w_consts : constsHeld consts_1 about1 := Jvm.Lit.constsHeldB_iff.mp (by decide +kernel)
theorem w_applies : (headSpec (Jvm.Cond.code x code maxLocals ret :: tables_1) room_1).applies x e0.platform about1 = true :=
  (Spec.applies_iff w_frames).mpr ⟨w_running, w_runnable, w_alone, w_named, w_hears, w_ripe, w_room, w_tables⟩
theorem atStart : AtStart classFile x code maxLocals ret World_1 tables_1 room_1 Calls_1 rest_1 Pre_1 launch0 p0 e0 about1 theMethod args0 below0 :=
  ⟨lists_1, trivial, launch0.admits_env _ _ _, launch0.least_env, fairChoices_fair.cas, fairChoices_fair.clock, w_frames, w_args, w_heap, w_applies, ⟨w_consts, trivial⟩, w_rest, w_case⟩
end start1
theorem witness_1 : WitnessClaimed_1 := ⟨start1.p0, start1.e0, start1.about1, start1.theMethod, start1.args0, start1.below0, start1.atStart⟩
end Jvm.Pilot.@@N@@
