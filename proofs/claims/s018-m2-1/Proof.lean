import JvmDerived
import JvmDerived.Pilot.@@N@@Statement
import JvmDerived.Pilot.@@N@@Code
set_option linter.unusedVariables false
set_option linter.unusedSimpArgs false
/- laws to paste: Road.backV (cut by pick.py; bodies as the Statement names them) -/
namespace Jvm.Pilot.@@N@@
namespace StrChars
open Jvm Sem ClassFile Op Lib Jvm.Stand Jvm.Free.XT Jvm.Free.ALB Jvm.Free.JM Jvm.Free
open Jvm.Lib.Cold (StaticIs)
/-- a char array whose places are chars -/
def Ch (a : Addr) (A : Cell) (U : State) : Prop := Arr .char a A U ∧ Typed .char A
theorem Ch.mv {a : Addr} {A : Cell} {U U' : State} (h : Ch a A U) (hal : U.vm.Alike U'.vm) (hh : U'.heap = U.heap) : Ch a A U' := ⟨h.1.mv hal hh, h.2⟩
theorem Ch.keep {a : Addr} {A : Cell} {U U' : State} (h : Ch a A U) (hal : U.vm.Alike U'.vm) (hk : U'.heap[a]? = some A) : Ch a A U' := ⟨h.1.keep hal hk, h.2⟩
/-- what place i of a char[]'s cell holds -/
def cv (A : Cell) (i : Nat) : Int32 := match A.slots[i]? with | some (.int x) => x | _ => 0
theorem Ch.get {a : Addr} {A : Cell} {U : State} (h : Ch a A U) {i : Nat} (hi : i < A.slots.size) : A.slots[i]? = some (.int (cv A i)) := by
  have e := Array.getElem?_eq_getElem hi
  have f := h.2 i _ e
  unfold cv; rw [e]
  generalize A.slots[i] = v at f
  cases v <;> simp [fits] at f ⊢
/-- the byte that i2b leaves of a char -/
def lo8 (x : Int32) : Int32 := x.toInt8.toInt32
theorem fits_lo8 (y : Int32) : fits .byte (.int (lo8 y)) = true := by
  have h1 := y.toInt8.le_toInt
  have h2 := y.toInt8.toInt_lt
  simp only [lo8, fits, Bool.and_eq_true, decide_eq_true_eq, Int32.le_iff_toInt_le, Int8.toInt_toInt32, show (-128 : Int32).toInt = -128 from by decide, show (127 : Int32).toInt = 127 from by decide]
  omega
/-- A' is A but that each place j of lo .. hi - 1 holds f j -/
def Laid (A A' : Cell) (lo hi : Nat) (f : Nat → Value) : Prop := A'.cls = A.cls ∧ A'.vm = A.vm ∧ A'.slots.size = A.slots.size ∧ ∀ i, A'.slots[i]? = if lo ≤ i ∧ i < hi then some (f i) else A.slots[i]?
theorem Laid.zero (A : Cell) (lo : Nat) (f : Nat → Value) : Laid A A lo (lo + 0) f := ⟨rfl, rfl, rfl, fun i => by rw [if_neg (by omega)]⟩
theorem Laid.step {A Ak : Cell} {lo k : Nat} {f : Nat → Value} {v : Value} (h : Laid A Ak lo k f) (hlo : lo ≤ k) (hk : k < Ak.slots.size) (hv : v = f k) : Laid A (Ak.setSlot k v) lo (k + 1) f := by
  refine ⟨h.1, h.2.1, by simpa [Cell.setSlot] using h.2.2.1, fun i => ?_⟩
  by_cases e : k = i
  · subst e; rw [Cell.slots_setSlot_self v hk, if_pos (by omega), hv]
  · rw [Cell.slots_setSlot_ne v e, h.2.2.2 i]
    by_cases q : lo ≤ i ∧ i < k
    · rw [if_pos q, if_pos (by omega)]
    · rw [if_neg q, if_neg (by omega)]
def U16 : String := "java/lang/StringUTF16"
namespace Cmp5
def yN : MethodName := ⟨"java/lang/StringUTF16", "compress", "([CI[BII)I"⟩
abbrev yB : ByteArray := jdk_52_method_21_code
theorem d0 : decode yB 0 = .ok (.iconst 0, 1) := by decide +kernel
theorem d1 : decode yB 1 = .ok (.istore 5, 2) := by decide +kernel
theorem d3 : decode yB 3 = .ok (.iload 5, 2) := by decide +kernel
theorem d5 : decode yB 5 = .ok (.iload 4, 2) := by decide +kernel
theorem d7 : decode yB 7 = .ok (.if_icmp (.ge) 37, 3) := by decide +kernel
theorem d10 : decode yB 10 = .ok (.aload_n 0, 1) := by decide +kernel
theorem d11 : decode yB 11 = .ok (.iload_n 1, 1) := by decide +kernel
theorem d12 : decode yB 12 = .ok (.caload, 1) := by decide +kernel
theorem d13 : decode yB 13 = .ok (.istore 6, 2) := by decide +kernel
theorem d15 : decode yB 15 = .ok (.iload 6, 2) := by decide +kernel
theorem d17 : decode yB 17 = .ok (.sipush 255, 3) := by decide +kernel
theorem d20 : decode yB 20 = .ok (.if_icmp (.le) 6, 3) := by decide +kernel
theorem d26 : decode yB 26 = .ok (.aload_n 2, 1) := by decide +kernel
theorem d27 : decode yB 27 = .ok (.iload_n 3, 1) := by decide +kernel
theorem d28 : decode yB 28 = .ok (.iload 6, 2) := by decide +kernel
theorem d30 : decode yB 30 = .ok (.i2b, 1) := by decide +kernel
theorem d31 : decode yB 31 = .ok (.bastore, 1) := by decide +kernel
theorem d32 : decode yB 32 = .ok (.iinc 1 1, 3) := by decide +kernel
theorem d35 : decode yB 35 = .ok (.iinc 3 1, 3) := by decide +kernel
theorem d38 : decode yB 38 = .ok (.iinc 5 1, 3) := by decide +kernel
theorem d41 : decode yB 41 = .ok (.goto (-38), 3) := by decide +kernel
theorem d44 : decode yB 44 = .ok (.iload 4, 2) := by decide +kernel
theorem d46 : decode yB 46 = .ok (.ireturn, 1) := by decide +kernel
def site : List Cond := []
def tab : Cond := tabOf yN yB 7 (some .int) site
def P (b : Addr) (A : Cell) (d : Addr) (B : Cell) (o q len : Nat) (args : Array Value) (s : State) : Prop := args = #[.ref b, .int (Int32.ofNat o), .ref d, .int (Int32.ofNat q), .int (Int32.ofNat len)] ∧ Ch b A s ∧ Arr .byte d B s ∧ b ≠ d ∧ o + len ≤ A.slots.size ∧ q + len ≤ B.slots.size ∧ ∀ i, i < len → ¬ 255 < cv A (o + i)
def E (b : Addr) (A : Cell) (d : Addr) (B : Cell) (o q len : Nat) (r : Option Value) (s u : State) : Prop := r = some (.int (Int32.ofNat len)) ∧ ∃ B', Put d B' s u ∧ Laid B B' q (q + len) (fun j => Value.int (lo8 (cv A (o + (j - q)))))
/-- no char of the range above 255: len; the places written hold each char's low byte -/
theorem law (l : Launch) (b : Addr) (A : Cell) (d : Addr) (B : Cell) (o q len : Nat) : Law l yN 5 5 0 0 yB 7 (some .int) site (P b A d B o q len) (E b A d B o q len) (copyLocs d q len) 0 0 := by
  refine Law.of_walk (plainFor_of_name (by decide +kernel)) (by decide +kernel) (by decide +kernel) (by decide) (fun _ _ h => by rw [h.1]; rfl) (fun _ U U' hal hh h => ⟨h.1, h.2.1.mv hal hh, h.2.2.1.mv hal hh, h.2.2.2⟩) (fun r U U' V V' h1 hal h2 h => ⟨h.1, h.2.elim fun B' q => ⟨B', q.1.mv h1 h2, q.2⟩⟩) ?_
  intro p e s m args below meth c s₁ X0 hexec hbytes hml hret hlk hnm hown hh0 W hP
  obtain ⟨rfl, hA, hB, hne, l1, l2, hp⟩ := hP
  have c1 : Steps p.tables e below (s₁.setTop (entryFrame m #[.ref b, .int (Int32.ofNat o), .ref d, .int (Int32.ofNat q), .int (Int32.ofNat len)] 7)) (s₁.setTop (mkF m 0 #[.val (.ref b), .val (.int (Int32.ofNat o)), .val (.ref d), .val (.int (Int32.ofNat q)), .val (.int (Int32.ofNat len)), .unset, .unset] [])) := entry rfl
  have hA0 := hA.1.mv X0.warmed.alike hh0
  have hB0 := hB.mv X0.warmed.alike hh0
  have a31 := hA.1.2.2.2
  have c2 : Steps p.tables e below (s₁.setTop (entryFrame m #[.ref b, .int (Int32.ofNat o), .ref d, .int (Int32.ofNat q), .int (Int32.ofNat len)] 7)) (s₁.setTop (mkF m 3 #[.val (.ref b), .val (.int (Int32.ofNat o)), .val (.ref d), .val (.int (Int32.ofNat q)), .val (.int (Int32.ofNat len)), .val (.int 0), .unset] [])) := c1.trans (by
    refine iconstV X0.here hexec rfl 0 (hb hbytes d0) (by decide) ?_
    refine XS.istore X0.here hexec rfl (hb hbytes d1) rfl rfl ?_
    exact Steps.refl _)
  have loop : ∀ (r i : Nat), i + r = len → ∀ (z : Slot), (z = .unset ∨ ∃ w, z = .val w ∧ w.category = 1) → ∀ (Tl : State) (Bk : Cell), Stand p l e { frames := 0, locals := 0, cells := 0, slots := 0 } s m #[.ref b, .int (Int32.ofNat o), .ref d, .int (Int32.ofNat q), .int (Int32.ofNat len)] below meth c Tl ([] ++ copyLocs d q i) 0 0 → Put d Bk s₁ Tl → Laid B Bk q (q + i) (fun j => Value.int (lo8 (cv A (o + (j - q))))) →
      Steps p.tables e below (s₁.setTop (entryFrame m #[.ref b, .int (Int32.ofNat o), .ref d, .int (Int32.ofNat q), .int (Int32.ofNat len)] 7)) (Tl.setTop (mkF m 3 #[.val (.ref b), .val (.int (Int32.ofNat (o + i))), .val (.ref d), .val (.int (Int32.ofNat (q + i))), .val (.int (Int32.ofNat len)), .val (.int (Int32.ofNat i)), z] [])) → ∃ (T' : State) (B' : Cell) (z' : Slot), Stand p l e { frames := 0, locals := 0, cells := 0, slots := 0 } s m #[.ref b, .int (Int32.ofNat o), .ref d, .int (Int32.ofNat q), .int (Int32.ofNat len)] below meth c T' ([] ++ copyLocs d q len) 0 0 ∧ Put d B' s₁ T' ∧ Laid B B' q (q + len) (fun j => Value.int (lo8 (cv A (o + (j - q))))) ∧
      Steps p.tables e below (s₁.setTop (entryFrame m #[.ref b, .int (Int32.ofNat o), .ref d, .int (Int32.ofNat q), .int (Int32.ofNat len)] 7)) (T'.setTop (mkF m 3 #[.val (.ref b), .val (.int (Int32.ofNat (o + len))), .val (.ref d), .val (.int (Int32.ofNat (q + len))), .val (.int (Int32.ofNat len)), .val (.int (Int32.ofNat len)), z'] [])) := by
    intro r
    induction r with
    | zero =>
      intro i hi z hz Tl Bk Xl pl fl cl
      have hil : i = len := by omega
      rw [hil] at Xl fl cl
      exact ⟨Tl, Bk, z, Xl, pl, fl, cl⟩
    | succ r ih =>
      intro i hi z hz Tl Bk Xl pl fl cl
      have all := X0.warmed.alike.symm.trans Xl.warmed.alike
      have hAl := hA0.keep all (pl.other hne hA0.1)
      have hBk := hB0.like all pl.1 fl.1 fl.2.1 fl.2.2.1
      have hlt : q + i < Bk.slots.size := by rw [fl.2.2.1]; omega
      have c3 : Steps p.tables e below (s₁.setTop (entryFrame m #[.ref b, .int (Int32.ofNat o), .ref d, .int (Int32.ofNat q), .int (Int32.ofNat len)] 7)) (Tl.setTop (mkF m 12 #[.val (.ref b), .val (.int (Int32.ofNat (o + i))), .val (.ref d), .val (.int (Int32.ofNat (q + i))), .val (.int (Int32.ofNat len)), .val (.int (Int32.ofNat i)), z] [.int (Int32.ofNat (o + i)), .ref b])) := cl.trans (by
        refine XS.iload Xl.here hexec rfl (hb hbytes d3) rfl ?_
        refine XS.iload Xl.here hexec rfl (hb hbytes d5) rfl ?_
        refine XS.icmpNo Xl.here hexec rfl (hb hbytes d7) rfl (ii_ge_f (lt32 (by omega) (by omega))) ?_
        refine XS.aloadN Xl.here hexec rfl (hb hbytes d10) rfl rfl ?_
        refine XS.iloadN Xl.here hexec rfl (hb hbytes d11) rfl ?_
        exact Steps.refl _)
      have c4 : Steps p.tables e below (s₁.setTop (entryFrame m #[.ref b, .int (Int32.ofNat o), .ref d, .int (Int32.ofNat q), .int (Int32.ofNat len)] 7)) (Tl.setTop (mkF m 13 #[.val (.ref b), .val (.int (Int32.ofNat (o + i))), .val (.ref d), .val (.int (Int32.ofNat (q + i))), .val (.int (Int32.ofNat len)), .val (.int (Int32.ofNat i)), z] [.int (cv A (o + i))])) := c3.trans (by
        refine Xl.aget hexec hAl rfl (hA.get (i := o + i) (by omega)) rfl rfl (hb hbytes d12) ?_
        exact Steps.refl _)
      have c5 : Steps p.tables e below (s₁.setTop (entryFrame m #[.ref b, .int (Int32.ofNat o), .ref d, .int (Int32.ofNat q), .int (Int32.ofNat len)] 7)) (Tl.setTop (mkF m 15 #[.val (.ref b), .val (.int (Int32.ofNat (o + i))), .val (.ref d), .val (.int (Int32.ofNat (q + i))), .val (.int (Int32.ofNat len)), .val (.int (Int32.ofNat i)), .val (.int (cv A (o + i)))] [])) := c4.trans (by
        refine XS.istoreS Xl.here hexec rfl (hb hbytes d13) rfl rfl hz ?_
        exact Steps.refl _)
      have c6 : Steps p.tables e below (s₁.setTop (entryFrame m #[.ref b, .int (Int32.ofNat o), .ref d, .int (Int32.ofNat q), .int (Int32.ofNat len)] 7)) (Tl.setTop (mkF m 31 #[.val (.ref b), .val (.int (Int32.ofNat (o + i))), .val (.ref d), .val (.int (Int32.ofNat (q + i))), .val (.int (Int32.ofNat len)), .val (.int (Int32.ofNat i)), .val (.int (cv A (o + i)))] [.int (lo8 (cv A (o + i))), .int (Int32.ofNat (q + i)), .ref d])) := c5.trans (by
        refine XS.iload Xl.here hexec rfl (hb hbytes d15) rfl ?_
        refine sipushV Xl.here hexec rfl 255 (hb hbytes d17) (by decide) ?_
        refine XS.icmpYes Xl.here hexec rfl (pc0 := 20) rfl (hb hbytes d20) rfl (ii_le_t (hp i (by omega))) (by decide) rfl ?_
        refine XS.aloadN Xl.here hexec rfl (hb hbytes d26) rfl rfl ?_
        refine XS.iloadN Xl.here hexec rfl (hb hbytes d27) rfl ?_
        refine XS.iload Xl.here hexec rfl (hb hbytes d28) rfl ?_
        refine i2b Xl.here hexec rfl (hb hbytes d30) rfl ?_
        exact Steps.refl _)
      obtain ⟨T7, X7, p7, st7⟩ := Xl.aput hexec hBk rfl hlt rfl (fits_lo8 (cv A (o + i))) (g := (mkF m 31 #[.val (.ref b), .val (.int (Int32.ofNat (o + i))), .val (.ref d), .val (.int (Int32.ofNat (q + i))), .val (.int (Int32.ofNat len)), .val (.int (Int32.ofNat i)), .val (.int (cv A (o + i)))] [.int (lo8 (cv A (o + i))), .int (Int32.ofNat (q + i)), .ref d])) rfl (rest := []) rfl (hb hbytes d31)
      have c8 : Steps p.tables e below (s₁.setTop (entryFrame m #[.ref b, .int (Int32.ofNat o), .ref d, .int (Int32.ofNat q), .int (Int32.ofNat len)] 7)) (T7.setTop (mkF m 32 #[.val (.ref b), .val (.int (Int32.ofNat (o + i))), .val (.ref d), .val (.int (Int32.ofNat (q + i))), .val (.int (Int32.ofNat len)), .val (.int (Int32.ofNat i)), .val (.int (cv A (o + i)))] [])) := c6.trans (st7 _ (Steps.refl _))
      have c9 : Steps p.tables e below (s₁.setTop (entryFrame m #[.ref b, .int (Int32.ofNat o), .ref d, .int (Int32.ofNat q), .int (Int32.ofNat len)] 7)) (T7.setTop (mkF m 3 #[.val (.ref b), .val (.int (Int32.ofNat (o + i) + 1)), .val (.ref d), .val (.int (Int32.ofNat (q + i) + 1)), .val (.int (Int32.ofNat len)), .val (.int (Int32.ofNat i + 1)), .val (.int (cv A (o + i)))] [])) := c8.trans (by
        refine iincV X7.here hexec rfl 1 (hb hbytes d32) (by decide) rfl rfl ?_
        refine iincV X7.here hexec rfl 1 (hb hbytes d35) (by decide) rfl rfl ?_
        refine iincV X7.here hexec rfl 1 (hb hbytes d38) (by decide) rfl rfl ?_
        refine XS.goto X7.here hexec rfl (pc0 := 41) rfl (hb hbytes d41) (by decide) rfl ?_
        exact Steps.refl _)
      have c10 : Steps p.tables e below (s₁.setTop (entryFrame m #[.ref b, .int (Int32.ofNat o), .ref d, .int (Int32.ofNat q), .int (Int32.ofNat len)] 7)) (T7.setTop (mkF m 3 #[.val (.ref b), .val (.int (Int32.ofNat (o + (i + 1)))), .val (.ref d), .val (.int (Int32.ofNat (q + (i + 1)))), .val (.int (Int32.ofNat len)), .val (.int (Int32.ofNat (i + 1))), .val (.int (cv A (o + i)))] [])) := by
        have := c9
        rw [succ32, succ32, succ32] at this
        exact this
      exact ih (i + 1) (by omega) _ (Or.inr ⟨_, rfl, rfl⟩) T7 _ (by rw [copyLocs_step, ← List.append_assoc]; exact X7) (pl.trans p7) (fl.step (by omega) hlt (by simp)) c10
  obtain ⟨T9, B9, z9, X9, p9, f9, g9⟩ := loop len 0 (by omega) .unset (Or.inl rfl) s₁ B (by simpa [copyLocs] using X0) ⟨hB0.1, fun _ _ => rfl, rfl⟩ (Laid.zero _ _ _) c2
  have c11 : Steps p.tables e below (s₁.setTop (entryFrame m #[.ref b, .int (Int32.ofNat o), .ref d, .int (Int32.ofNat q), .int (Int32.ofNat len)] 7)) (T9.setTop (mkF m 46 #[.val (.ref b), .val (.int (Int32.ofNat (o + len))), .val (.ref d), .val (.int (Int32.ofNat (q + len))), .val (.int (Int32.ofNat len)), .val (.int (Int32.ofNat len)), z9] [.int (Int32.ofNat len)])) := g9.trans (by
    refine XS.iload X9.here hexec rfl (hb hbytes d3) rfl ?_
    refine XS.iload X9.here hexec rfl (hb hbytes d5) rfl ?_
    refine XS.icmpYes X9.here hexec rfl (pc0 := 7) rfl (hb hbytes d7) rfl (ii_ge_t (nlt32 (by omega) (Nat.le_refl _))) (by decide) rfl ?_
    refine XS.iload X9.here hexec rfl (hb hbytes d44) rfl ?_
    exact Steps.refl _)
  exact ⟨T9, some (.int (Int32.ofNat len)), _, _, _, X9, by simp, rfl, rfl, (fun h => by cases h), ⟨rfl, B9, p9.from hh0, f9⟩, fun fs hl => c11.trans (X9.ireturnOut hexec hret rfl (Or.inl rfl) (hb hbytes d46) hl)⟩
end Cmp5
namespace Cmp3
def yN : MethodName := ⟨"java/lang/StringUTF16", "compress", "([CII)[B"⟩
abbrev yB : ByteArray := jdk_52_method_16_code
theorem d0 : decode yB 0 = .ok (.iload_n 2, 1) := by decide +kernel
theorem d1 : decode yB 1 = .ok (.newarray .byte, 2) := by decide +kernel
theorem d3 : decode yB 3 = .ok (.astore_n 3, 1) := by decide +kernel
theorem d4 : decode yB 4 = .ok (.aload_n 0, 1) := by decide +kernel
theorem d5 : decode yB 5 = .ok (.iload_n 1, 1) := by decide +kernel
theorem d6 : decode yB 6 = .ok (.aload_n 3, 1) := by decide +kernel
theorem d7 : decode yB 7 = .ok (.iconst 0, 1) := by decide +kernel
theorem d8 : decode yB 8 = .ok (.iload_n 2, 1) := by decide +kernel
theorem d9 : decode yB 9 = .ok (.invokestatic 115, 3) := by decide +kernel
theorem d12 : decode yB 12 = .ok (.istore 4, 2) := by decide +kernel
theorem d14 : decode yB 14 = .ok (.iload 4, 2) := by decide +kernel
theorem d16 : decode yB 16 = .ok (.iload_n 2, 1) := by decide +kernel
theorem d17 : decode yB 17 = .ok (.if_icmp (.eq) 40, 3) := by decide +kernel
theorem d57 : decode yB 57 = .ok (.aload_n 3, 1) := by decide +kernel
theorem d58 : decode yB 58 = .ok (.areturn, 1) := by decide +kernel
def site : List Cond := [.arrayClass .byte, Cmp5.tab] ++ staticW U16 115 Cmp5.yN
def tab : Cond := tabOf yN yB 6 (some (.array .byte)) site
def P (b : Addr) (A : Cell) (o len : Nat) (args : Array Value) (s : State) : Prop := args = #[.ref b, .int (Int32.ofNat o), .int (Int32.ofNat len)] ∧ Ch b A s ∧ o + len ≤ A.slots.size ∧ len ≤ 536870912 ∧ ∀ i, i < len → ¬ 255 < cv A (o + i)
def E (b : Addr) (A : Cell) (o len : Nat) (r : Option Value) (s u : State) : Prop := NewArr .byte "[B" len (fun j => .int (lo8 (cv A (o + j)))) r s u ∧ u.heap.size = s.heap.size + 1
/-- no char of the range above 255: a new byte[] of their low bytes -/
theorem law (l : Launch) (b : Addr) (A : Cell) (o len : Nat) : Law l yN 3 3 1 18 yB 6 (some (.array .byte)) site (P b A o len) (E b A o len) [] 1 len := by
  refine Law.of_walk (plainFor_of_name (by decide +kernel)) (by decide +kernel) (by decide +kernel) (by decide) (fun _ _ h => by rw [h.1]; rfl) (fun _ U U' hal hh h => ⟨h.1, h.2.1.mv hal hh, h.2.2⟩) (fun r U U' V V' h1 hal h2 h => ⟨NewArr.mv r U U' V V' h1 hal h2 h.1, by rw [h1, h2]; exact h.2⟩) ?_
  intro p e s m args below meth c s₁ X0 hexec hbytes hml hret hlk hnm hown hh0 W hP
  obtain ⟨rfl, hA, l1, l2, hp⟩ := hP
  have a31 := hA.1.2.2.2
  have c1 : Steps p.tables e below (s₁.setTop (entryFrame m #[.ref b, .int (Int32.ofNat o), .int (Int32.ofNat len)] 6)) (s₁.setTop (mkF m 0 #[.val (.ref b), .val (.int (Int32.ofNat o)), .val (.int (Int32.ofNat len)), .unset, .unset, .unset] [])) := entry rfl
  have c2 : Steps p.tables e below (s₁.setTop (entryFrame m #[.ref b, .int (Int32.ofNat o), .int (Int32.ofNat len)] 6)) (s₁.setTop (mkF m 1 #[.val (.ref b), .val (.int (Int32.ofNat o)), .val (.int (Int32.ofNat len)), .unset, .unset, .unset] [.int (Int32.ofNat len)])) := c1.trans (by
    refine XS.iloadN X0.here hexec rfl (hb hbytes d0) rfl ?_
    exact Steps.refl _)
  obtain ⟨T3, B3, X3, ba3, bs3, bv3, bh3, bf3, st3⟩ := X0.anew hexec (atype := .byte) (wk W (.arrayClass .byte)) rfl (by show len * 1 ≤ _; omega) (by omega) (g := (mkF m 1 #[.val (.ref b), .val (.int (Int32.ofNat o)), .val (.int (Int32.ofNat len)), .unset, .unset, .unset] [.int (Int32.ofNat len)])) rfl (hb hbytes d1) (rest := []) rfl (Nat.le_refl _) (by show 0 + len ≤ len; omega)
  rw [hh0] at ba3 st3
  have kp3 : XT.Kept s T3 := (XT.Kept.of_eq hh0).push bh3
  have hA3 := hA.keep X3.warmed.alike (kp3 _ _ hA.1.1)
  have hne : b ≠ s.heap.size := hA.1.ne
  have c4 : Steps p.tables e below (s₁.setTop (entryFrame m #[.ref b, .int (Int32.ofNat o), .int (Int32.ofNat len)] 6)) (T3.setTop (mkF m 3 #[.val (.ref b), .val (.int (Int32.ofNat o)), .val (.int (Int32.ofNat len)), .unset, .unset, .unset] [.ref s.heap.size])) := c2.trans (st3 _ (Steps.refl _))
  have c5 : Steps p.tables e below (s₁.setTop (entryFrame m #[.ref b, .int (Int32.ofNat o), .int (Int32.ofNat len)] 6)) (T3.setTop (mkF m 9 #[.val (.ref b), .val (.int (Int32.ofNat o)), .val (.int (Int32.ofNat len)), .val (.ref s.heap.size), .unset, .unset] [.int (Int32.ofNat len), .int 0, .ref s.heap.size, .int (Int32.ofNat o), .ref b])) := c4.trans (by
    refine XS.astoreN X3.here hexec rfl (hb hbytes d3) rfl rfl rfl ?_
    refine XS.aloadN X3.here hexec rfl (hb hbytes d4) rfl rfl ?_
    refine XS.iloadN X3.here hexec rfl (hb hbytes d5) rfl ?_
    refine XS.aloadN X3.here hexec rfl (hb hbytes d6) rfl rfl ?_
    refine iconstV X3.here hexec rfl 0 (hb hbytes d7) (by decide) ?_
    refine XS.iloadN X3.here hexec rfl (hb hbytes d8) rfl ?_
    exact Steps.refl _)
  obtain ⟨v6, T6, X6, E6, g6⟩ := X3.callS hexec (Cmp5.law l b A s.heap.size B3 o 0 len) hown (wks W (staticW U16 115 Cmp5.yN)) (wk W Cmp5.tab) (W := 0) (Nat.le_of_ble_eq_true rfl) (Nat.le_of_ble_eq_true rfl) (Nat.le_refl _) (by show 0 + len + 0 ≤ len; omega) (g := (mkF m 9 #[.val (.ref b), .val (.int (Int32.ofNat o)), .val (.int (Int32.ofNat len)), .val (.ref s.heap.size), .unset, .unset] [.int (Int32.ofNat len), .int (Int32.ofNat 0), .ref s.heap.size, .int (Int32.ofNat o), .ref b])) rfl (by rw [hml]; rfl) c5 (argsL := [.ref b, .int (Int32.ofNat o), .ref s.heap.size, .int (Int32.ofNat 0), .int (Int32.ofNat len)]) (rest := []) rfl rfl (by show 2 * 0 + 0 ≤ _; decide) (hb hbytes d9) (⟨rfl, hA3, ba3, hne, l1, by rw [bs3]; simp, hp⟩)
  obtain ⟨rfl, B6, p6, f6⟩ := E6
  have c7 : Steps p.tables e below (s₁.setTop (entryFrame m #[.ref b, .int (Int32.ofNat o), .int (Int32.ofNat len)] 6)) (T6.setTop (mkF m 12 #[.val (.ref b), .val (.int (Int32.ofNat o)), .val (.int (Int32.ofNat len)), .val (.ref s.heap.size), .unset, .unset] [.int (Int32.ofNat len)])) := g6
  have c8 : Steps p.tables e below (s₁.setTop (entryFrame m #[.ref b, .int (Int32.ofNat o), .int (Int32.ofNat len)] 6)) (T6.setTop (mkF m 58 #[.val (.ref b), .val (.int (Int32.ofNat o)), .val (.int (Int32.ofNat len)), .val (.ref s.heap.size), .val (.int (Int32.ofNat len)), .unset] [.ref s.heap.size])) := c7.trans (by
    refine XS.istore X6.here hexec rfl (hb hbytes d12) rfl rfl ?_
    refine XS.iload X6.here hexec rfl (hb hbytes d14) rfl ?_
    refine XS.iloadN X6.here hexec rfl (hb hbytes d16) rfl ?_
    refine XS.icmpYes X6.here hexec rfl (pc0 := 17) rfl (hb hbytes d17) rfl (ii_eq_t rfl) (by decide) rfl ?_
    refine XS.aloadN X6.here hexec rfl (hb hbytes d57) rfl rfl ?_
    exact Steps.refl _)
  have X8 := X6.wide (L' := []) (cells' := 1) (slots' := len) (fun x hx hlt => by
    simp only [List.nil_append, copyLocs, List.mem_map, List.mem_range] at hx
    obtain ⟨i, -, rfl⟩ := hx
    exact absurd hlt (Nat.lt_irrefl _)) (Nat.le_refl _) (by omega)
  exact ⟨T6, some (.ref s.heap.size), _, _, _, X8, rfl, rfl, rfl, (fun h => by cases h), ⟨⟨rfl, B6, ba3.like (X3.warmed.alike.symm.trans X6.warmed.alike) p6.1 f6.1 f6.2.1 f6.2.2.1, f6.2.1.trans bv3, by rw [X6.warmed.alike.findClass, f6.1]; exact bf3, by rw [f6.2.2.1, bs3]; simp, fun j hj => by rw [f6.2.2.2 j, if_pos (by omega)]; rfl, kp3.put p6 (Nat.le_refl _)⟩, by rw [p6.2.2, bh3, hh0]; simp⟩, fun fs hl => c8.trans (X8.areturnOut hexec rfl hret rfl (hb hbytes d58) hl)⟩
end Cmp3
namespace CodL
def yN : MethodName := ⟨"java/lang/StringUTF16", "coderFromArrayLen", "([BI)B"⟩
abbrev yB : ByteArray := jdk_52_method_15_code
theorem d0 : decode yB 0 = .ok (.iload_n 1, 1) := by decide +kernel
theorem d1 : decode yB 1 = .ok (.aload_n 0, 1) := by decide +kernel
theorem d2 : decode yB 2 = .ok (.arraylength, 1) := by decide +kernel
theorem d3 : decode yB 3 = .ok (.isub, 1) := by decide +kernel
theorem d4 : decode yB 4 = .ok (.bipush 31, 2) := by decide +kernel
theorem d6 : decode yB 6 = .ok (.iushr, 1) := by decide +kernel
theorem d7 : decode yB 7 = .ok (.i2b, 1) := by decide +kernel
theorem d8 : decode yB 8 = .ok (.ireturn, 1) := by decide +kernel
def site : List Cond := []
def tab : Cond := tabOf yN yB 2 (some .byte) site
def P (d : Addr) (B : Cell) (args : Array Value) (s : State) : Prop := args = #[.ref d, .int (Int32.ofNat B.slots.size)] ∧ Arr .byte d B s
def E (r : Option Value) (s u : State) : Prop := XT.PureE (some (.int 0)) r s u
/-- an array as long as the number of chars: LATIN1 -/
theorem law (l : Launch) (d : Addr) (B : Cell) : Law l yN 2 2 0 0 yB 2 (some .byte) site (P d B) E [] 0 0 := by
  refine Law.of_walk (plainFor_of_name (by decide +kernel)) (by decide +kernel) (by decide +kernel) (by decide) (fun _ _ h => by rw [h.1]; rfl) (fun _ U U' hal hh h => ⟨h.1, h.2.mv hal hh⟩) (fun r U U' V V' h1 hal h2 h => XT.PureE.mv r U U' V V' h1 hal h2 h) ?_
  intro p e s m args below meth c s₁ X0 hexec hbytes hml hret hlk hnm hown hh0 W hP
  obtain ⟨rfl, hB⟩ := hP
  have hB0 := hB.mv X0.warmed.alike hh0
  have c1 : Steps p.tables e below (s₁.setTop (entryFrame m #[.ref d, .int (Int32.ofNat B.slots.size)] 2)) (s₁.setTop (mkF m 0 #[.val (.ref d), .val (.int (Int32.ofNat B.slots.size))] [])) := entry rfl
  have c2 : Steps p.tables e below (s₁.setTop (entryFrame m #[.ref d, .int (Int32.ofNat B.slots.size)] 2)) (s₁.setTop (mkF m 2 #[.val (.ref d), .val (.int (Int32.ofNat B.slots.size))] [.ref d, .int (Int32.ofNat B.slots.size)])) := c1.trans (by
    refine XS.iloadN X0.here hexec rfl (hb hbytes d0) rfl ?_
    refine XS.aloadN X0.here hexec rfl (hb hbytes d1) rfl rfl ?_
    exact Steps.refl _)
  have c3 : Steps p.tables e below (s₁.setTop (entryFrame m #[.ref d, .int (Int32.ofNat B.slots.size)] 2)) (s₁.setTop (mkF m 8 #[.val (.ref d), .val (.int (Int32.ofNat B.slots.size))] [.int (lo8 (ushr (Int32.ofNat B.slots.size - Int32.ofNat B.slots.size) 31))])) := c2.trans (by
    refine X0.alen hexec hB0 rfl rfl (hb hbytes d2) ?_
    refine XS.isub X0.here hexec rfl (hb hbytes d3) rfl ?_
    refine bipushV X0.here hexec rfl 31 (hb hbytes d4) (by decide) ?_
    refine iushr X0.here hexec rfl (hb hbytes d6) rfl ?_
    refine i2b X0.here hexec rfl (hb hbytes d7) rfl ?_
    exact Steps.refl _)
  have e0 : lo8 (ushr (Int32.ofNat B.slots.size - Int32.ofNat B.slots.size) 31) = 0 := by rw [Int32.sub_self]; decide
  rw [e0] at c3
  exact ⟨s₁, some (.int 0), _, _, _, X0, rfl, rfl, rfl, (fun h => by cases h), ⟨rfl, hh0⟩, fun fs hl => c3.trans (X0.ireturnOut hexec hret rfl (Or.inr (Or.inr (Or.inl rfl))) (hb hbytes d8) hl)⟩
end CodL
/-- the String at a is Latin-1 over a new byte[] (the heap's one new cell): the low bytes of the len chars of A from o on; every cell but a is kept -/
def Got (a : Addr) (D : Cell) (fV fC : Field) (A : Cell) (o len : Nat) (r : Option Value) (s u : State) : Prop := r = none ∧ ∃ D' V : Cell, Blank "java/lang/String" a D' u ∧ Same D D' [fV.slot, fC.slot] ∧ D'.slots[fV.slot]? = some (.ref s.heap.size) ∧ D'.slots[fC.slot]? = some (.int 0) ∧ Arr .byte s.heap.size V u ∧ V.vm = .none ∧ u.vm.findClass "[B" = some V.cls ∧ V.slots.size = len ∧ (∀ j, j < len → V.slots[j]? = some (.int (lo8 (cv A (o + j))))) ∧ (∀ (y : Addr) (c : Cell), y ≠ a → s.heap[y]? = some c → u.heap[y]? = some c) ∧ u.heap.size = s.heap.size + 1
theorem Got.mv {a : Addr} {D A : Cell} {fV fC : Field} {o len : Nat} : ∀ r (U U' V V' : State), U'.heap = U.heap → V.vm.Alike V'.vm → V'.heap = V.heap → Got a D fV fC A o len r U V → Got a D fV fC A o len r U' V' :=
  fun r U U' V V' h1 hal h2 ⟨e0, D', X, a1, a2, a3, a4, a5, a6, a7, a8, a9, a10, a11⟩ => ⟨e0, D', X, a1.mv hal h2, a2, by rw [h1]; exact a3, a4, by rw [h1]; exact a5.mv hal h2, a6, by rw [hal.findClass]; exact a7, a8, a9, by rw [h1, h2]; exact a10, by rw [h1, h2]; exact a11⟩
namespace New4
def yN : MethodName := ⟨"java/lang/String", "<init>", "([CIILjava/lang/Void;)V"⟩
abbrev yB : ByteArray := jdk_42_method_149_code
theorem d0 : decode yB 0 = .ok (.aload_n 0, 1) := by decide +kernel
theorem d1 : decode yB 1 = .ok (.invokespecial 1, 3) := by decide +kernel
theorem d4 : decode yB 4 = .ok (.iload_n 3, 1) := by decide +kernel
theorem d5 : decode yB 5 = .ok (.ifCond (.ne) 22, 3) := by decide +kernel
theorem d27 : decode yB 27 = .ok (.getstatic 38, 3) := by decide +kernel
theorem d30 : decode yB 30 = .ok (.ifCond (.eq) 28, 3) := by decide +kernel
theorem d33 : decode yB 33 = .ok (.aload_n 1, 1) := by decide +kernel
theorem d34 : decode yB 34 = .ok (.iload_n 2, 1) := by decide +kernel
theorem d35 : decode yB 35 = .ok (.iload_n 3, 1) := by decide +kernel
theorem d36 : decode yB 36 = .ok (.invokestatic 177, 3) := by decide +kernel
theorem d39 : decode yB 39 = .ok (.astore 5, 2) := by decide +kernel
theorem d41 : decode yB 41 = .ok (.aload_n 0, 1) := by decide +kernel
theorem d42 : decode yB 42 = .ok (.aload 5, 2) := by decide +kernel
theorem d44 : decode yB 44 = .ok (.iload_n 3, 1) := by decide +kernel
theorem d45 : decode yB 45 = .ok (.invokestatic 47, 3) := by decide +kernel
theorem d48 : decode yB 48 = .ok (.putfield 15, 3) := by decide +kernel
theorem d51 : decode yB 51 = .ok (.aload_n 0, 1) := by decide +kernel
theorem d52 : decode yB 52 = .ok (.aload 5, 2) := by decide +kernel
theorem d54 : decode yB 54 = .ok (.putfield 9, 3) := by decide +kernel
theorem d57 : decode yB 57 = .ok (.return_, 1) := by decide +kernel
def site : List Cond := [.fieldLink "java/lang/String" 38 "java/lang/String" "COMPACT_STRINGS" "Z", Cmp3.tab, CodL.tab, .laysFinal "java/lang/String" "java/lang/String" "value" "[B", .fieldLink "java/lang/String" 9 "java/lang/String" "value" "[B", .laysFinal "java/lang/String" "java/lang/String" "coder" "B", .fieldLink "java/lang/String" 15 "java/lang/String" "coder" "B"] ++ objW "java/lang/String" 1 ++ staticW "java/lang/String" 177 Cmp3.yN ++ staticW "java/lang/String" 47 CodL.yN
def tab : Cond := tabOf yN yB 6 none site
def P (a : Addr) (D : Cell) (fV fC : Field) (b : Addr) (A : Cell) (z : Int32) (o len : Nat) (args : Array Value) (s : State) : Prop := args = #[.ref a, .ref b, .int (Int32.ofNat o), .int (Int32.ofNat len), .null] ∧ Blank "java/lang/String" a D s ∧ Found "java/lang/String" "value" "[B" fV s ∧ Found "java/lang/String" "coder" "B" fC s ∧ Ch b A s ∧ StaticIs s "java/lang/String" "COMPACT_STRINGS" "Z" (.int z) ∧ ¬ z = 0 ∧ 0 < len ∧ o + len ≤ A.slots.size ∧ len ≤ 536870912 ∧ ∀ i, i < len → ¬ 255 < cv A (o + i)
def E (a : Addr) (D : Cell) (fV fC : Field) (A : Cell) (o len : Nat) (r : Option Value) (s u : State) : Prop := Got a D fV fC A o len r s u
/-- len > 0, no char of the range above 255: a Latin-1 String of their low bytes -/
theorem law (l : Launch) (a : Addr) (D : Cell) (fV fC : Field) (b : Addr) (A : Cell) (z : Int32) (o len : Nat) : Law l yN 5 4 2 35 yB 6 none site (P a D fV fC b A z o len) (E a D fV fC A o len) [⟨a, fC.slot⟩, ⟨a, fV.slot⟩] 1 len := by
  refine Law.of_walk (plainFor_of_name (by decide +kernel)) (by decide +kernel) (by decide +kernel) (by decide) (fun _ _ h => by rw [h.1]; rfl) (fun _ U U' hal hh h => ⟨h.1, h.2.1.mv hal hh, h.2.2.1.al hal, h.2.2.2.1.al hal, h.2.2.2.2.1.mv hal hh, h.2.2.2.2.2.1.there hal hh, h.2.2.2.2.2.2⟩) (fun r U U' V V' h1 hal h2 h => Got.mv r U U' V V' h1 hal h2 h) ?_
  intro p e s m args below meth c s₁ X0 hexec hbytes hml hret hlk hnm hown hh0 W hP
  obtain ⟨rfl, hB, f1, f2, hA, s1, hz, l0, l1, l2, hp⟩ := hP
  have a31 := hA.1.2.2.2
  have c1 : Steps p.tables e below (s₁.setTop (entryFrame m #[.ref a, .ref b, .int (Int32.ofNat o), .int (Int32.ofNat len), .null] 6)) (s₁.setTop (mkF m 0 #[.val (.ref a), .val (.ref b), .val (.int (Int32.ofNat o)), .val (.int (Int32.ofNat len)), .val .null, .unset] [])) := entry rfl
  have c2 : Steps p.tables e below (s₁.setTop (entryFrame m #[.ref a, .ref b, .int (Int32.ofNat o), .int (Int32.ofNat len), .null] 6)) (s₁.setTop (mkF m 1 #[.val (.ref a), .val (.ref b), .val (.int (Int32.ofNat o)), .val (.int (Int32.ofNat len)), .val .null, .unset] [.ref a])) := c1.trans (by
    refine XS.aloadN X0.here hexec rfl (hb hbytes d0) rfl rfl ?_
    exact Steps.refl _)
  obtain ⟨T3, X3, q3, st3⟩ := X0.oinit hexec hown (wks W (objW "java/lang/String" 1)) (g := (mkF m 1 #[.val (.ref a), .val (.ref b), .val (.int (Int32.ofNat o)), .val (.int (Int32.ofNat len)), .val .null, .unset] [.ref a])) rfl (by rw [hml]; rfl) (rest := []) rfl (hb hbytes d1) (W := 0) (by show 2 * 0 + 0 ≤ _; decide) (Nat.le_of_ble_eq_true rfl) (Nat.le_of_ble_eq_true rfl)
  have hh3 := q3.trans hh0
  have c4 : Steps p.tables e below (s₁.setTop (entryFrame m #[.ref a, .ref b, .int (Int32.ofNat o), .int (Int32.ofNat len), .null] 6)) (T3.setTop (mkF m 27 #[.val (.ref a), .val (.ref b), .val (.int (Int32.ofNat o)), .val (.int (Int32.ofNat len)), .val .null, .unset] [])) := (c2.trans (st3 _ (Steps.refl _))).trans (by
    refine XS.iloadN X3.here hexec rfl (hb hbytes d4) rfl ?_
    refine XS.ifYes X3.here hexec rfl (pc0 := 5) rfl (hb hbytes d5) rfl (i0_ne_t (nz32 (by omega) l0)) (by decide) rfl ?_
    exact Steps.refl _)
  obtain ⟨T5, X5, q5, st5⟩ := X3.sget hexec hown (wk W (.fieldLink "java/lang/String" 38 "java/lang/String" "COMPACT_STRINGS" "Z")) s1 (fun _ _ h => by rw [hh3]; exact h) (g := (mkF m 27 #[.val (.ref a), .val (.ref b), .val (.int (Int32.ofNat o)), .val (.int (Int32.ofNat len)), .val .null, .unset] [])) rfl (hb hbytes d27)
  have hh5 := q5.trans hh3
  have c6 : Steps p.tables e below (s₁.setTop (entryFrame m #[.ref a, .ref b, .int (Int32.ofNat o), .int (Int32.ofNat len), .null] 6)) (T5.setTop (mkF m 30 #[.val (.ref a), .val (.ref b), .val (.int (Int32.ofNat o)), .val (.int (Int32.ofNat len)), .val .null, .unset] [.int z])) := c4.trans (st5 _ (Steps.refl _))
  have c7 : Steps p.tables e below (s₁.setTop (entryFrame m #[.ref a, .ref b, .int (Int32.ofNat o), .int (Int32.ofNat len), .null] 6)) (T5.setTop (mkF m 36 #[.val (.ref a), .val (.ref b), .val (.int (Int32.ofNat o)), .val (.int (Int32.ofNat len)), .val .null, .unset] [.int (Int32.ofNat len), .int (Int32.ofNat o), .ref b])) := c6.trans (by
    refine XS.ifNo X5.here hexec rfl (hb hbytes d30) rfl (i0_eq_f hz) ?_
    refine XS.aloadN X5.here hexec rfl (hb hbytes d33) rfl rfl ?_
    refine XS.iloadN X5.here hexec rfl (hb hbytes d34) rfl ?_
    refine XS.iloadN X5.here hexec rfl (hb hbytes d35) rfl ?_
    exact Steps.refl _)
  obtain ⟨v8, T8, X8, E8, g8⟩ := X5.callS hexec (Cmp3.law l b A o len) hown (wks W (staticW "java/lang/String" 177 Cmp3.yN)) (wk W Cmp3.tab) (W := 0) (Nat.le_of_ble_eq_true rfl) (Nat.le_of_ble_eq_true rfl) (Nat.le_refl _) (by show 0 + len ≤ len; omega) (g := (mkF m 36 #[.val (.ref a), .val (.ref b), .val (.int (Int32.ofNat o)), .val (.int (Int32.ofNat len)), .val .null, .unset] [.int (Int32.ofNat len), .int (Int32.ofNat o), .ref b])) rfl (by rw [hml]; rfl) c7 (argsL := [.ref b, .int (Int32.ofNat o), .int (Int32.ofNat len)]) (rest := []) rfl rfl (by show 2 * 0 + 0 ≤ _; decide) (hb hbytes d36) (⟨rfl, hA.mv X5.warmed.alike hh5, l1, l2, hp⟩)
  obtain ⟨e8, z8⟩ := E8
  obtain ⟨rfl, N, n1, n2, n3, n4, n5, n6⟩ := NewArr.mv _ T5 s _ _ hh5.symm (Vm.Alike.refl _) rfl e8
  rw [hh5] at z8
  have hB1 := hB.keep X8.warmed.alike (n6 _ _ hB.1)
  have hne : s.heap.size ≠ a := (Nat.ne_of_lt (Array.getElem?_eq_some_iff.mp hB.1).1).symm
  have c9 : Steps p.tables e below (s₁.setTop (entryFrame m #[.ref a, .ref b, .int (Int32.ofNat o), .int (Int32.ofNat len), .null] 6)) (T8.setTop (mkF m 39 #[.val (.ref a), .val (.ref b), .val (.int (Int32.ofNat o)), .val (.int (Int32.ofNat len)), .val .null, .unset] [.ref s.heap.size])) := g8
  have c10 : Steps p.tables e below (s₁.setTop (entryFrame m #[.ref a, .ref b, .int (Int32.ofNat o), .int (Int32.ofNat len), .null] 6)) (T8.setTop (mkF m 45 #[.val (.ref a), .val (.ref b), .val (.int (Int32.ofNat o)), .val (.int (Int32.ofNat len)), .val .null, .val (.ref s.heap.size)] [.int (Int32.ofNat N.slots.size), .ref s.heap.size, .ref a])) := by
    have hc : Steps p.tables e below (s₁.setTop (entryFrame m #[.ref a, .ref b, .int (Int32.ofNat o), .int (Int32.ofNat len), .null] 6)) (T8.setTop (mkF m 45 #[.val (.ref a), .val (.ref b), .val (.int (Int32.ofNat o)), .val (.int (Int32.ofNat len)), .val .null, .val (.ref s.heap.size)] [.int (Int32.ofNat len), .ref s.heap.size, .ref a])) := c9.trans (by
      refine XS.astore X8.here hexec rfl (hb hbytes d39) rfl rfl rfl ?_
      refine XS.aloadN X8.here hexec rfl (hb hbytes d41) rfl rfl ?_
      refine XS.aload X8.here hexec rfl (hb hbytes d42) rfl rfl ?_
      refine XS.iloadN X8.here hexec rfl (hb hbytes d44) rfl ?_
      exact Steps.refl _)
    rw [n4]; exact hc
  obtain ⟨v11, T11, X11, E11, g11⟩ := X8.callS hexec (CodL.law l s.heap.size N) hown (wks W (staticW "java/lang/String" 47 CodL.yN)) (wk W CodL.tab) (W := 1) (Nat.le_of_ble_eq_true rfl) (Nat.le_of_ble_eq_true rfl) (Nat.le_refl _) (by show 0 + len + 0 ≤ len; omega) (g := (mkF m 45 #[.val (.ref a), .val (.ref b), .val (.int (Int32.ofNat o)), .val (.int (Int32.ofNat len)), .val .null, .val (.ref s.heap.size)] [.int (Int32.ofNat N.slots.size), .ref s.heap.size, .ref a])) rfl (by rw [hml]; rfl) c10 (argsL := [.ref s.heap.size, .int (Int32.ofNat N.slots.size)]) (rest := [.ref a]) rfl rfl (by show 2 * 0 + (1 + 0) ≤ _; decide) (hb hbytes d45) (⟨rfl, n1⟩)
  obtain ⟨rfl, q11⟩ := E11
  have hB11 := hB1.mv (X8.warmed.alike.symm.trans X11.warmed.alike) q11
  have c12 : Steps p.tables e below (s₁.setTop (entryFrame m #[.ref a, .ref b, .int (Int32.ofNat o), .int (Int32.ofNat len), .null] 6)) (T11.setTop (mkF m 48 #[.val (.ref a), .val (.ref b), .val (.int (Int32.ofNat o)), .val (.int (Int32.ofNat len)), .val .null, .val (.ref s.heap.size)] [.int 0, .ref a])) := g11
  obtain ⟨T13, X13, p13, bl13, sl13, st13⟩ := X11.finit hexec hown (wk W (.fieldLink "java/lang/String" 15 "java/lang/String" "coder" "B")) (Or.inr ⟨_, (wk W (.laysFinal "java/lang/String" "java/lang/String" "coder" "B"))⟩) (Or.inl ⟨rfl, hnm⟩) f2 (Or.inl rfl) hB11 (t := .byte) (by decide +kernel) rfl (g := (mkF m 48 #[.val (.ref a), .val (.ref b), .val (.int (Int32.ofNat o)), .val (.int (Int32.ofNat len)), .val .null, .val (.ref s.heap.size)] [.int 0, .ref a])) rfl (rest := []) rfl (hb hbytes d48)
  have c14 : Steps p.tables e below (s₁.setTop (entryFrame m #[.ref a, .ref b, .int (Int32.ofNat o), .int (Int32.ofNat len), .null] 6)) (T13.setTop (mkF m 54 #[.val (.ref a), .val (.ref b), .val (.int (Int32.ofNat o)), .val (.int (Int32.ofNat len)), .val .null, .val (.ref s.heap.size)] [.ref s.heap.size, .ref a])) := (c12.trans (st13 _ (Steps.refl _))).trans (by
    refine XS.aloadN X13.here hexec rfl (hb hbytes d51) rfl rfl ?_
    refine XS.aload X13.here hexec rfl (hb hbytes d52) rfl rfl ?_
    exact Steps.refl _)
  obtain ⟨T15, X15, p15, bl15, sl15, st15⟩ := X13.finit hexec hown (wk W (.fieldLink "java/lang/String" 9 "java/lang/String" "value" "[B")) (Or.inr ⟨_, (wk W (.laysFinal "java/lang/String" "java/lang/String" "value" "[B"))⟩) (Or.inl ⟨rfl, hnm⟩) f1 (Or.inl rfl) bl13 (t := (.array .byte)) (by decide +kernel) rfl (g := (mkF m 54 #[.val (.ref a), .val (.ref b), .val (.int (Int32.ofNat o)), .val (.int (Int32.ofNat len)), .val .null, .val (.ref s.heap.size)] [.ref s.heap.size, .ref a])) rfl (rest := []) rfl (hb hbytes d54)
  have c16 : Steps p.tables e below (s₁.setTop (entryFrame m #[.ref a, .ref b, .int (Int32.ofNat o), .int (Int32.ofNat len), .null] 6)) (T15.setTop (mkF m 57 #[.val (.ref a), .val (.ref b), .val (.int (Int32.ofNat o)), .val (.int (Int32.ofNat len)), .val .null, .val (.ref s.heap.size)] [])) := c14.trans (st15 _ (Steps.refl _))
  have ap := apart (Or.inr ⟨_, (wk W (.laysFinal "java/lang/String" "java/lang/String" "value" "[B"))⟩) (Or.inr ⟨_, (wk W (.laysFinal "java/lang/String" "java/lang/String" "coder" "B"))⟩) f1 f2 (t₁ := .array .byte) (t₂ := .byte) (by decide +kernel) (by decide +kernel) (by decide)
  have al := X8.warmed.alike.symm.trans X15.warmed.alike
  have n7 : T11.heap[s.heap.size]? = some N := by rw [q11]; exact n1.1
  exact ⟨T15, none, _, _, _, X15, by simp, rfl, by omega, (fun _ => rfl), ⟨rfl, _, N, bl15, ((Same.refl D _).set _ (by simp)).set _ (by simp), sl15, (Cell.slots_setSlot_ne _ ap).trans sl13, n1.keep al (p15.other hne (p13.other hne n7)), n2, by rw [al.findClass]; exact n3, n4, n5, fun y c h1 h2 => p15.other h1 (p13.other h1 (by rw [q11]; exact n6 y c h2)), by rw [p15.2.2, p13.2.2, q11]; exact z8⟩, fun fs hl => c16.trans (X15.returnOut hexec hret (hb hbytes d57) hl)⟩
end New4
namespace New1
def yN : MethodName := ⟨"java/lang/String", "<init>", "([C)V"⟩
abbrev yB : ByteArray := jdk_42_method_3_code
theorem d0 : decode yB 0 = .ok (.aload_n 0, 1) := by decide +kernel
theorem d1 : decode yB 1 = .ok (.aload_n 1, 1) := by decide +kernel
theorem d2 : decode yB 2 = .ok (.iconst 0, 1) := by decide +kernel
theorem d3 : decode yB 3 = .ok (.aload_n 1, 1) := by decide +kernel
theorem d4 : decode yB 4 = .ok (.arraylength, 1) := by decide +kernel
theorem d5 : decode yB 5 = .ok (.aconst_null, 1) := by decide +kernel
theorem d6 : decode yB 6 = .ok (.invokespecial 27, 3) := by decide +kernel
theorem d9 : decode yB 9 = .ok (.return_, 1) := by decide +kernel
def site : List Cond := [New4.tab] ++ initW "java/lang/String" 27 New4.yN
def tab : Cond := tabOf yN yB 2 none site
def P (a : Addr) (D : Cell) (fV fC : Field) (b : Addr) (A : Cell) (z : Int32) (args : Array Value) (s : State) : Prop := args = #[.ref a, .ref b] ∧ Blank "java/lang/String" a D s ∧ Found "java/lang/String" "value" "[B" fV s ∧ Found "java/lang/String" "coder" "B" fC s ∧ Ch b A s ∧ StaticIs s "java/lang/String" "COMPACT_STRINGS" "Z" (.int z) ∧ ¬ z = 0 ∧ 0 < A.slots.size ∧ A.slots.size ≤ 536870912 ∧ ∀ i, i < A.slots.size → ¬ 255 < cv A i
def E (a : Addr) (D : Cell) (fV fC : Field) (A : Cell) (r : Option Value) (s u : State) : Prop := Got a D fV fC A 0 A.slots.size r s u
/-- new String(chars), not empty, no char above 255: a Latin-1 String of their low bytes -/
theorem law (l : Launch) (a : Addr) (D : Cell) (fV fC : Field) (b : Addr) (A : Cell) (z : Int32) : Law l yN 2 1 3 52 yB 2 none site (P a D fV fC b A z) (E a D fV fC A) [⟨a, fC.slot⟩, ⟨a, fV.slot⟩] 1 A.slots.size := by
  refine Law.of_walk (plainFor_of_name (by decide +kernel)) (by decide +kernel) (by decide +kernel) (by decide) (fun _ _ h => by rw [h.1]; rfl) (fun _ U U' hal hh h => ⟨h.1, h.2.1.mv hal hh, h.2.2.1.al hal, h.2.2.2.1.al hal, h.2.2.2.2.1.mv hal hh, h.2.2.2.2.2.1.there hal hh, h.2.2.2.2.2.2⟩) (fun r U U' V V' h1 hal h2 h => Got.mv r U U' V V' h1 hal h2 h) ?_
  intro p e s m args below meth c s₁ X0 hexec hbytes hml hret hlk hnm hown hh0 W hP
  obtain ⟨rfl, hB, f1, f2, hA, s1, hz, l0, l2, hp⟩ := hP
  have c1 : Steps p.tables e below (s₁.setTop (entryFrame m #[.ref a, .ref b] 2)) (s₁.setTop (mkF m 0 #[.val (.ref a), .val (.ref b)] [])) := entry rfl
  have c2 : Steps p.tables e below (s₁.setTop (entryFrame m #[.ref a, .ref b] 2)) (s₁.setTop (mkF m 6 #[.val (.ref a), .val (.ref b)] [.null, .int (Int32.ofNat A.slots.size), .int 0, .ref b, .ref a])) := c1.trans (by
    refine XS.aloadN X0.here hexec rfl (hb hbytes d0) rfl rfl ?_
    refine XS.aloadN X0.here hexec rfl (hb hbytes d1) rfl rfl ?_
    refine iconstV X0.here hexec rfl 0 (hb hbytes d2) (by decide) ?_
    refine XS.aloadN X0.here hexec rfl (hb hbytes d3) rfl rfl ?_
    refine X0.alen hexec (hA.1.mv X0.warmed.alike hh0) rfl rfl (hb hbytes d4) ?_
    refine XS.aconstNull X0.here hexec rfl (hb hbytes d5) ?_
    exact Steps.refl _)
  obtain ⟨v3, T3, X3, E3, g3⟩ := X0.callN hexec (New4.law l a D fV fC b A z 0 A.slots.size) rfl hown (wks W (initW "java/lang/String" 27 New4.yN)) (W New4.tab (by simp only [site, List.mem_cons, List.mem_append, true_or, or_true])) (W := 0) (Nat.le_of_ble_eq_true rfl) (Nat.le_of_ble_eq_true rfl) (Nat.le_refl _) (by show 0 + A.slots.size ≤ A.slots.size; omega) (g := (mkF m 6 #[.val (.ref a), .val (.ref b)] [.null, .int (Int32.ofNat A.slots.size), .int (Int32.ofNat 0), .ref b, .ref a])) rfl (by rw [hml]; rfl) c2 (argsL := [.ref b, .int (Int32.ofNat 0), .int (Int32.ofNat A.slots.size), .null]) (rest := []) rfl rfl (by show 2 * 0 + 0 ≤ _; decide) (hb hbytes d6) (⟨rfl, hB.mv X0.warmed.alike hh0, f1.al X0.warmed.alike, f2.al X0.warmed.alike, hA.mv X0.warmed.alike hh0, s1.there X0.warmed.alike hh0, hz, l0, by omega, l2, fun i hi => by rw [Nat.zero_add]; exact hp i hi⟩)
  have e0 := Got.mv _ s₁ s _ _ hh0.symm (Vm.Alike.refl _) rfl E3
  obtain rfl := e0.1
  have c4 : Steps p.tables e below (s₁.setTop (entryFrame m #[.ref a, .ref b] 2)) (T3.setTop (mkF m 9 #[.val (.ref a), .val (.ref b)] [])) := g3
  exact ⟨T3, none, _, _, _, X3, by simp, rfl, by omega, (fun _ => rfl), e0, fun fs hl => c4.trans (X3.returnOut hexec hret (hb hbytes d9) hl)⟩
theorem pays {l : Launch} {R : Room} {p : Program} {e : Env} {below : List Frame} {s : State} {sargs : Array Value} {len W : Nat} (a : Addr) (D : Cell) (fV fC : Field) (b : Addr) (A : Cell) (z : Int32) (htab : tab.before sargs s = true) (hfr : 4 ≤ R.frames) (hlo : W + 65 ≤ R.locals) :
    Back l R p e below s sargs yN len W (fun A₁ a₁ => A₁.cells + 1 ≤ R.cells ∧ A₁.slots + A.slots.size ≤ R.slots ∧ P a D fV fC b A z a₁ A₁.U) (fun A₁ _ v₁ B₁ => E a D fV fC A v₁ A₁.U B₁.U ∧ B₁.locs = A₁.locs ++ [⟨a, fC.slot⟩, ⟨a, fV.slot⟩] ∧ B₁.cells = A₁.cells + 1 ∧ B₁.slots = A₁.slots + A.slots.size) :=
  (law l a D fV fC b A z).pays htab hfr (by omega)
end New1
end StrChars
namespace StrChars.Road
open Jvm Sem ClassFile Op Lib Jvm.Stand Jvm.Free Jvm.Free.XT
open Jvm.Lib.Cold (StaticIs)
abbrev ST : String := "java/lang/String"
/-- every table word that New1's law asks, flat -/
abbrev words : List Jvm.Cond := [.code New1.yN New1.yB 2 none, .initialized ST, .methodLink ST 27 New4.yN, .instanceMethod New4.yN,
  .code New4.yN New4.yB 6 none, .fieldLink ST 38 ST "COMPACT_STRINGS" "Z", .laysFinal ST ST "value" "[B", .fieldLink ST 9 ST "value" "[B", .laysFinal ST ST "coder" "B", .fieldLink ST 15 ST "coder" "B",
  .methodLink ST 1 Lib.objectInit, .instanceMethod Lib.objectInit, .code Lib.objectInit ⟨#[0xb1]⟩ 1 none, .methodLink ST 177 Cmp3.yN, .static Cmp3.yN, .methodLink ST 47 CodL.yN, .static CodL.yN,
  .code Cmp3.yN Cmp3.yB 6 (some (.array .byte)), .initialized U16, .arrayClass .byte, .methodLink U16 115 Cmp5.yN, .static Cmp5.yN, .code Cmp5.yN Cmp5.yB 7 (some .int), .code CodL.yN CodL.yB 2 (some .byte)]
theorem tab_of {a : Array Value} {s : State} (h : ∀ w ∈ words, w.before a s = true) : New1.tab.before a s = true := by
  have h5 : Cmp5.tab.before a s = true := unparts (wk h (.code Cmp5.yN Cmp5.yB 7 (some .int))) (wks h (.initialized Cmp5.yN.cls :: Cmp5.site))
  have hc : CodL.tab.before a s = true := unparts (wk h (.code CodL.yN CodL.yB 2 (some .byte))) (wks h (.initialized CodL.yN.cls :: CodL.site))
  have q5 : ∀ w ∈ Cmp5.tab :: words, w.before a s = true := fun w hw => (List.mem_cons.mp hw).elim (fun e => e ▸ h5) (h w)
  have h3 : Cmp3.tab.before a s = true := unparts (wk q5 (.code Cmp3.yN Cmp3.yB 6 (some (.array .byte)))) (wks q5 (.initialized Cmp3.yN.cls :: Cmp3.site))
  have q3 : ∀ w ∈ Cmp3.tab :: CodL.tab :: words, w.before a s = true := fun w hw => (List.mem_cons.mp hw).elim (fun e => e ▸ h3) fun hw => (List.mem_cons.mp hw).elim (fun e => e ▸ hc) (h w)
  have h4 : New4.tab.before a s = true := unparts (wk q3 (.code New4.yN New4.yB 6 none)) (wks q3 (.initialized New4.yN.cls :: New4.site))
  have q4 : ∀ w ∈ New4.tab :: words, w.before a s = true := fun w hw => (List.mem_cons.mp hw).elim (fun e => e ▸ h4) (h w)
  exact unparts (wk q4 (.code New1.yN New1.yB 2 none)) (wks q4 (.initialized New1.yN.cls :: New1.site))
/-- the words ride from the start Z to the walk's own state -/
theorem moved {Z s : State} {a0 args : Array Value} (hZ : Z.Warmed39 s.vm) (hw : ∀ d ∈ words, d.before a0 Z = true) : ∀ d ∈ words, d.before args s = true := fun d hd => by
  have q := hw d hd
  have t : ∀ d ∈ words, d = .arrayClass .byte ∨ (d.onTables && d.keepsFace) = true := by decide +kernel
  rcases t d hd with rfl | t
  · exact RoadKit.mvA hZ q
  · exact RoadKit.mv hZ q t
/-- WHAT COMES BACK, over the tables of the start Z: h the heap at the call, h' behind it -/
def Q (Z : State) (x : Addr) (A : Cell) (h : Heap) (v : Option Value) (h' : Heap) (L : List Loc) : Prop := v = none ∧ (∀ y ∈ L, y.base = x) ∧ RoadKit.Keep h h' [x] ∧ h'.size = h.size + 1 ∧ RoadKit.Exa Z h' x ST ∧ RoadKit.Fld Z h' x ST "value" "[B" (.ref h.size) ∧ RoadKit.Fld Z h' x ST "coder" "B" (.int 0) ∧
  (∃ V : Cell, RoadKit.Arr Z h' h.size V .byte ∧ V.vm = .none ∧ Z.vm.findClass "[B" = some V.cls ∧ V.slots.size = A.slots.size ∧ ∀ j, j < A.slots.size → V.slots[j]? = some (.int (lo8 (cv A j)))) ∧
  ∀ (O n d : String) (w : Value), RoadKit.Fld Z h x O n d w → RoadKit.slotOf Z O n d ≠ RoadKit.slotOf Z ST "value" "[B" → RoadKit.slotOf Z O n d ≠ RoadKit.slotOf Z ST "coder" "B" → RoadKit.Fld Z h' x O n d w
/-- **new String(chars) AT A CALL, IN THE ROAD'S FORM**: for specialBack behind newO: x the fresh String, b the char[] with the cell A -/
theorem back {p : Program} {l : Launch} {e : Env} {R : Room} {s : State} {args : Array Value} {below : List Frame} {len W : Nat} {Z : State} {a0 : Array Value} {h : Heap} (hZ : Z.Warmed39 s.vm) (hw : ∀ d ∈ words, d.before a0 Z = true) {kI : Nat} (wi : (Jvm.Cond.instantiable ST kI).before a0 Z = true)
    {x b : Addr} {A : Cell} {z : Int32} {v0 c0 : Value} (E : RoadKit.Exa Z h x ST) (V : RoadKit.Fld Z h x ST "value" "[B" v0) (C : RoadKit.Fld Z h x ST "coder" "B" c0) (K : RoadKit.Arr Z h b A .char) (hty : Typed .char A) (S : RoadKit.Sta Z h ST "COMPACT_STRINGS" "Z" (.int z)) (hz : ¬ z = 0)
    (l0 : 0 < A.slots.size) (l2 : A.slots.size ≤ 536870912) (hp : ∀ i, i < A.slots.size → ¬ 255 < cv A i) (hfr : 4 ≤ R.frames) (hlo : W + 65 ≤ R.locals) :
    Back l R p e below s args New1.yN len W (fun P a => a = #[.ref x, .ref b] ∧ P.U.heap = h ∧ P.cells + 1 ≤ R.cells ∧ P.slots + A.slots.size ≤ R.slots)
      (fun P _ v B => ∃ L, Q Z x A h v B.U.heap L ∧ B.locs = P.locs ++ L ∧ B.cells = P.cells + 1 ∧ B.slots = P.slots + A.slots.size) := by
  intro m meth c P g ig mk a X hg hsize hdg hW hn hp'
  obtain ⟨rfl, rfl, r1, r2⟩ := hp'
  have al : Z.vm.Alike P.U.vm := hZ.alike.trans X.warmed.alike
  obtain ⟨D, cfV, kV, iV, fV, hD, gV, stV, knV, obV, asV, slV⟩ := id V
  obtain ⟨D', cfC, kC, iC, fC, hD', gC, stC, -, -, asC, slC⟩ := id C
  cases hD.symm.trans hD'
  obtain ⟨D2, kD, e1, e2, e3, e4, e5⟩ := id E
  cases hD.symm.trans e1
  obtain ⟨c2, k2, i1, i2, i3, -⟩ := Cond.instantiable_spec wi
  cases e2.symm.trans i1
  cases e3.symm.trans i2
  obtain ⟨kU, u1, u2⟩ := al.2.2 _ _ e3
  have hB : Blank ST x D P.U := ⟨hD, ⟨knV, fun q hq => by rw [hq] at obV; cases obV⟩, by rw [al.findClass]; exact e2, kU, u1, by rw [u2]; exact i3, by rw [u2]; exact e5 i3⟩
  have F1 : Found ST "value" "[B" fV P.U := ⟨SBG.found_only al ⟨cfV, kV, iV, gV⟩, stV⟩
  have F2 : Found ST "coder" "B" fC P.U := ⟨SBG.found_only al ⟨cfC, kC, iC, gC⟩, stC⟩
  have hA : Ch b A P.U := ⟨⟨K.1, State.isArrayOf_alike al K.2.1, K.2.2, by omega⟩, hty⟩
  have hS : StaticIs P.U ST "COMPACT_STRINGS" "Z" (.int z) := by
    obtain ⟨cfS, iS, kS, fS, st, cS, t1, t2, t3, t4, t5, t6, t7⟩ := S
    exact StaticIs.there (s := { Z with heap := P.U.heap }) ⟨cfS, iS, kS, fS, st, cS, t1, t2, t3, t4, t5, (fun q => by rw [q] at t6; cases t6), t7⟩ al rfl
  obtain ⟨v, B, X', ⟨⟨hv, E', V', q1, q2, q3, q4, q5, q6, q7, q8, q9, q10, q11⟩, hl, hc, hs⟩, st⟩ := New1.pays x D fV fC b A z (tab_of (moved hZ hw)) hfr hlo m meth c P g ig mk _ X hg hsize hdg hW hn ⟨r1, r2, rfl, hB, F1, F2, hA, hS, hz, l0, l2, hp⟩
  have al' : Z.vm.Alike B.U.vm := hZ.alike.trans X'.warmed.alike
  have hsz : E'.slots.size = D.slots.size := by
    obtain ⟨-, -, -, kB, w1, w2, w3⟩ := q1
    obtain ⟨kB', y1, y2⟩ := al'.2.2 _ _ e3
    rw [q2.2.1] at w1
    cases w1.symm.trans y1
    rw [w3, e5 i3, y2]
  refine ⟨v, B, X', ⟨_, ⟨hv, ?_, ⟨by omega, fun y cy hy hn' => q10 y cy (by simpa using hn') hy, fun y cy hy => ?_⟩, q11, ⟨E', _, q1.1, by rw [q2.2.1]; exact e2, by rw [q2.2.1]; exact e3, by rw [q2.1]; exact obV, fun _ => by rw [hsz]; exact e5 i3⟩,
    ⟨E', cfV, kV, iV, fV, q1.1, gV, stV, by rw [q2.1]; exact knV, by rw [q2.1]; exact obV, by rw [q2.2.1]; exact asV, q3⟩, ⟨E', cfC, kC, iC, fC, q1.1, gC, stC, by rw [q2.1]; exact knV, by rw [q2.1]; exact obV, by rw [q2.2.1]; exact asC, q4⟩,
    ⟨V', ⟨q5.1, State.isArrayOf_alike al'.symm q5.2.1, q5.2.2.1⟩, q6, by rw [← al'.findClass]; exact q7, q8, fun j hj => by have := q9 j hj; rwa [Nat.zero_add] at this⟩, fun O n d w F n1 n2 => ?_⟩, hl, hc, hs⟩, st⟩
  · intro y hy
    simp only [List.mem_cons, List.not_mem_nil, or_false] at hy
    rcases hy with rfl | rfl <;> rfl
  · by_cases q : y = x
    · subst q
      cases hD.symm.trans hy
      exact ⟨E', q1.1, q2.2.1, q2.1, hsz⟩
    · exact ⟨cy, q10 y cy q hy, rfl, rfl, rfl⟩
  · obtain ⟨D3, cf, k, i, f, g1, g2, g3, g4, g5, g6, g7⟩ := F
    cases hD.symm.trans g1
    simp only [RoadKit.slotOf, g2, gV, gC, Option.map_some, Option.getD_some] at n1 n2
    exact ⟨E', cf, k, i, f, q1.1, g2, g3, by rw [q2.1]; exact g4, by rw [q2.1]; exact g5, by rw [q2.2.1]; exact g6, by rw [q2.2.2 f.slot (by simp [n1, n2])]; exact g7⟩
end StrChars.Road
namespace StrChars.Road
open Jvm Sem ClassFile Op Lib Jvm.Stand Jvm.Free Jvm.Free.XT
/-- WHAT COMES BACK, the byte[] as a list of values -/
def QA (Z : State) (x : Addr) (zn : Int32) (cs : List Int32) (h : Heap) (v : Option Value) (h' : Heap) (L : List Loc) : Prop := v = none ∧ (∀ y ∈ L, y.base = x) ∧ RoadKit.Keep h h' [x] ∧ h'.size = h.size + 1 ∧ RoadKit.Exa Z h' x ST ∧ RoadKit.Fld Z h' x ST "value" "[B" (.ref h.size) ∧ RoadKit.Fld Z h' x ST "coder" "B" (.int 0) ∧
  (∃ kb, Z.vm.findClass "[B" = some kb ∧ RoadKit.Arv Z h' h.size kb .byte zn (cs.map fun c => .int (lo8 c)) (.int 0)) ∧
  ∀ (O n d : String) (w : Value), RoadKit.Fld Z h x O n d w → RoadKit.slotOf Z O n d ≠ RoadKit.slotOf Z ST "value" "[B" → RoadKit.slotOf Z O n d ≠ RoadKit.slotOf Z ST "coder" "B" → RoadKit.Fld Z h' x O n d w
/-- **new String(chars) AT A CALL, THE ARRAYS AS LISTS**: the char[] at b holds cs, not empty, no char above 255 -/
theorem backArv {p : Program} {l : Launch} {e : Env} {R : Room} {s : State} {args : Array Value} {below : List Frame} {len W : Nat} {Z : State} {a0 : Array Value} {h : Heap} (hZ : Z.Warmed39 s.vm) (hw : ∀ d ∈ words, d.before a0 Z = true) {kI : Nat} (wi : (Jvm.Cond.instantiable ST kI).before a0 Z = true)
    {x b : Addr} {k : ClassId} {zn z : Int32} {cs : List Int32} {dv v0 c0 : Value} (E : RoadKit.Exa Z h x ST) (V : RoadKit.Fld Z h x ST "value" "[B" v0) (C : RoadKit.Fld Z h x ST "coder" "B" c0) (K : RoadKit.Arv Z h b k .char zn (cs.map Value.int) dv) (S : RoadKit.Sta Z h ST "COMPACT_STRINGS" "Z" (.int z)) (hz : ¬ z = 0)
    (hlen : zn.toNatClampNeg = cs.length) (h0 : 0 < cs.length) (hbig : cs.length ≤ 536870912) (hall : ∀ c ∈ cs, ¬ 255 < c) (hfr : 4 ≤ R.frames) (hlo : W + 65 ≤ R.locals) :
    Back l R p e below s args New1.yN len W (fun P a => a = #[.ref x, .ref b] ∧ P.U.heap = h ∧ P.cells + 1 ≤ R.cells ∧ P.slots + cs.length ≤ R.slots)
      (fun P _ v B => ∃ L, QA Z x zn cs h v B.U.heap L ∧ B.locs = P.locs ++ L ∧ B.cells = P.cells + 1 ∧ B.slots = P.slots + cs.length) := by
  obtain ⟨A, K1, K2, K3, K4, K5, K6⟩ := K
  have e : A.slots.size = cs.length := K3.trans hlen
  have hat : ∀ (i : Nat) (hi : i < cs.length), A.slots[i]? = some (.int cs[i]) := fun i hi => by rw [K5 i (by omega)]; simp [List.getD_eq_getElem?_getD, hi]
  have hcv : ∀ (i : Nat) (hi : i < cs.length), cv A i = cs[i] := fun i hi => by unfold cv; rw [hat i hi]
  have hty : Typed .char A := fun i v hv => by
    have hi : i < A.slots.size := (Array.getElem?_eq_some_iff.mp hv).1
    have q := K5 i hi
    rw [hv] at q
    rw [Option.some.inj q]
    exact K6 i hi
  refine Back.mono (back hZ hw wi E V C K1 hty S hz (by omega) (by omega) (fun i hi => by rw [hcv i (by omega)]; exact hall _ (List.getElem_mem _)) hfr hlo) (fun P a hp => ⟨hp.1, hp.2.1, hp.2.2.1, by rw [e]; exact hp.2.2.2⟩) (fun P a v B hp hq => ?_)
  obtain ⟨L, ⟨q1, q2, q3, q4, q5, q6, q7, ⟨V', v1, v2, v3, v4, v5⟩, q9⟩, hl, hc, hs⟩ := hq
  refine ⟨L, ⟨q1, q2, q3, q4, q5, q6, q7, ⟨V'.cls, v3, V', v1, rfl, by rw [v4, e, hlen], K4, fun i hi => ?_, fun i hi => ?_⟩, q9⟩, hl, hc, by rw [hs, e]⟩
  · have hi' : i < cs.length := by omega
    rw [v5 i (by omega), hcv i hi']; simp [List.getD_eq_getElem?_getD, hi']
  · have hi' : i < cs.length := by omega
    simp only [List.getD_eq_getElem?_getD, List.getElem?_map, List.getElem?_eq_getElem hi', Option.map_some, Option.getD_some]
    exact fits_lo8 _
end StrChars.Road
namespace StrChars.Road
open Jvm Sem ClassFile Op Lib Jvm.Stand Jvm.Free Jvm.Free.XT
/-- WHAT COMES BACK, in the writer's own shape -/
def QV (Z : State) (x : Addr) (N : Int32) (bs : List Int32) (h : Heap) (n0 : Nat) (v : Option Value) (h' : Heap) (L : List Loc) : Prop := v = none ∧ RoadKit.Fr n0 L ∧ RoadKit.Keep h h' [x] ∧ RoadKit.Exa Z h' x ST ∧ RoadKit.Fld Z h' x ST "coder" "B" (.int 0) ∧
  ∃ (t : Addr) (kb : ClassId), n0 ≤ t ∧ h.size ≤ t ∧ ¬ t = x ∧ RoadKit.Fld Z h' x ST "value" "[B" (.ref t) ∧ RoadKit.Arv Z h' t kb .byte N (bs.map Value.int) (.int 0)
/-- **new String(chars) AT A CALL, FOR THE WRITER**: a char[] of n known ints, each 0 to 255 -/
theorem backV {p : Program} {l : Launch} {e : Env} {R : Room} {s : State} {args : Array Value} {below : List Frame} {len W : Nat} {Z : State} {a0 : Array Value} {h : Heap} (hZ : Z.Warmed39 s.vm) (hw : ∀ d ∈ words, d.before a0 Z = true) {kI : Nat} (wi : (Jvm.Cond.instantiable ST kI).before a0 Z = true)
    {x b : Addr} {kC : ClassId} {cs bs : List Int32} {d v0 c0 : Value} {z N : Int32} {n n0 : Nat} (hx0 : n0 ≤ x) (hh0 : n0 ≤ h.size) (E : RoadKit.Exa Z h x ST) (V : RoadKit.Fld Z h x ST "value" "[B" v0) (C : RoadKit.Fld Z h x ST "coder" "B" c0) (K : RoadKit.Arv Z h b kC .char N (cs.map Value.int) d) (S : RoadKit.Sta Z h ST "COMPACT_STRINGS" "Z" (.int z)) (hz : ¬ z = 0)
    (hn : cs.length = n) (hN : N = Int32.ofNat n) (l0 : 0 < n) (l2 : n ≤ 4000) (hp : ∀ c ∈ cs, ¬ c < 0 ∧ ¬ (255 : Int32) < c) (hb : bs = cs.map (fun c => c.toInt8.toInt32)) (hfr : 4 ≤ R.frames) (hlo : W + 65 ≤ R.locals) :
    Back l R p e below s args (⟨"java/lang/String", "<init>", "([C)V"⟩ : MethodName) len W (fun P a => a = #[.ref x, .ref b] ∧ P.U.heap = h ∧ P.cells + 1 ≤ R.cells ∧ P.slots + n ≤ R.slots)
      (fun P _ v B => ∃ L, QV Z x N bs h n0 v B.U.heap L ∧ B.locs = P.locs ++ L ∧ B.cells = P.cells + 1 ∧ B.slots = P.slots + n) := by
  subst hn hN hb
  refine Back.mono (backArv hZ hw wi E V C K S hz (n32 (by omega)) l0 (by omega) (fun c hc => (hp c hc).2) hfr hlo) (fun P a hp => hp) (fun P a v B hp hq => ?_)
  obtain ⟨L, ⟨q1, q2, q3, q4, q5, q6, q7, ⟨kb, v1, v2⟩, q9⟩, hl, hc, hs⟩ := hq
  exact ⟨L, ⟨q1, fun y hy => by rw [q2 y hy]; exact hx0, q3, q5, q7, h.size, kb, hh0, Nat.le_refl _, Nat.ne_of_gt E.lt, q6, by rw [List.map_map]; exact v2⟩, hl, hc, hs⟩
end StrChars.Road
end Jvm.Pilot.@@N@@
namespace Jvm.Pilot.@@N@@
open Jvm Jvm.ClassFile Sem Op Lib Jvm.Free Jvm.Stand Jvm.LawKit Jvm.RoadKit Bundle Jvm.Pilot.@@N@@.Jvm.D
section OwnKit
variable {p : Program} {l : Launch} {e : Env} {R : Room} {s : State} {m : MethodId} {args : Array Value} {below : List Frame} {meth : Method} {c : Code} {T : State} {locs : List Loc} {cells slots : Nat} {Z : State} {a0 : Array Value} {h : Heap} {K N : Nat} {Q : Option Value → Heap → List Loc → Prop} {pc nx tg : Nat} {Ls : Array Slot} {st : List Value} {bs : ByteArray} {o : Int}
/-- from the frame g at T the run ends, returning, as Q says -/
def Wp (p : Program) (e : Env) (below : List Frame) (s : State) (K N : Nat) (Q : Option Value → Heap → List Loc → Prop) (T : State) (g : JFrame) : Prop :=
  ∃ s₂ o, Steps p.tables e below (T.setTop g) s₂ ∧ s₂.status = .running ∧ Ended s₂ below o ∧ ∃ v L, o = .returned v ∧ Q v s₂.heap L ∧ FrameEnd s o s₂ L K N
theorem Wp.go {T' : State} {g g' : JFrame} (st : ∀ target, Steps p.tables e below (T'.setTop g') target → Steps p.tables e below (T.setTop g) target) (k : Wp p e below s K N Q T' g') : Wp p e below s K N Q T g := by
  obtain ⟨s₂, o, h1, h2⟩ := k; exact ⟨s₂, o, st _ h1, h2⟩
theorem Wp.tr {T' : State} {g g' : JFrame} (st : Steps p.tables e below (T.setTop g) (T'.setTop g')) (k : Wp p e below s K N Q T' g') : Wp p e below s K N Q T g := by
  obtain ⟨s₂, o, h1, h2⟩ := k; exact ⟨s₂, o, st.trans h1, h2⟩
/-- the instruction i, len bytes long, stands at pc; the next one at nx -/
def In (bs : ByteArray) (pc : Nat) (i : Instr) (len nx : Nat) : Prop := decode bs pc = .ok (i, len) ∧ pc + len = nx
/-- a jump by o: the next one at nx, the target at tg -/
def Jm (bs : ByteArray) (pc : Nat) (i : Instr) (o : Int) (nx tg : Nat) : Prop := decode bs pc = .ok (i, 3) ∧ pc + 3 = nx ∧ 0 ≤ (pc : Int) + o ∧ ((pc : Int) + o).toNat = tg

theorem w_iadd (X : Stand p l e R s m args below meth c T locs cells slots) (hx : p.tables.exec = Jvm.exec) (hby : c.code = bs) {x y : Int32} (hd : In bs pc (.iadd) 1 nx) (k : Wp p e below s K N Q T (mkF m nx Ls (.int (x + y) :: st))) : Wp p e below s K N Q T (mkF m pc Ls (.int y :: .int x :: st)) := by
  obtain ⟨d, rfl⟩ := hd; exact Wp.go (fun t kk => XS.iadd X.here hx rfl (hb hby d) rfl kk) k
theorem w_isub (X : Stand p l e R s m args below meth c T locs cells slots) (hx : p.tables.exec = Jvm.exec) (hby : c.code = bs) {x y : Int32} (hd : In bs pc (.isub) 1 nx) (k : Wp p e below s K N Q T (mkF m nx Ls (.int (x - y) :: st))) : Wp p e below s K N Q T (mkF m pc Ls (.int y :: .int x :: st)) := by
  obtain ⟨d, rfl⟩ := hd; exact Wp.go (fun t kk => XS.isub X.here hx rfl (hb hby d) rfl kk) k
theorem w_iand (X : Stand p l e R s m args below meth c T locs cells slots) (hx : p.tables.exec = Jvm.exec) (hby : c.code = bs) {x y : Int32} (hd : In bs pc (.iand) 1 nx) (k : Wp p e below s K N Q T (mkF m nx Ls (.int (x &&& y) :: st))) : Wp p e below s K N Q T (mkF m pc Ls (.int y :: .int x :: st)) := by
  obtain ⟨d, rfl⟩ := hd; exact Wp.go (fun t kk => XS.iand X.here hx rfl (hb hby d) rfl kk) k
theorem w_imul (X : Stand p l e R s m args below meth c T locs cells slots) (hx : p.tables.exec = Jvm.exec) (hby : c.code = bs) {x y : Int32} (hd : In bs pc (.imul) 1 nx) (k : Wp p e below s K N Q T (mkF m nx Ls (.int (x * y) :: st))) : Wp p e below s K N Q T (mkF m pc Ls (.int y :: .int x :: st)) := by
  obtain ⟨d, rfl⟩ := hd; exact Wp.go (fun t kk => XS.imul X.here hx rfl (hb hby d) rfl kk) k
theorem w_ior (X : Stand p l e R s m args below meth c T locs cells slots) (hx : p.tables.exec = Jvm.exec) (hby : c.code = bs) {x y : Int32} (hd : In bs pc (.ior) 1 nx) (k : Wp p e below s K N Q T (mkF m nx Ls (.int (x ||| y) :: st))) : Wp p e below s K N Q T (mkF m pc Ls (.int y :: .int x :: st)) := by
  obtain ⟨d, rfl⟩ := hd; exact Wp.go (fun t kk => XS.ior X.here hx rfl (hb hby d) rfl kk) k
theorem w_ixor (X : Stand p l e R s m args below meth c T locs cells slots) (hx : p.tables.exec = Jvm.exec) (hby : c.code = bs) {x y : Int32} (hd : In bs pc (.ixor) 1 nx) (k : Wp p e below s K N Q T (mkF m nx Ls (.int (x ^^^ y) :: st))) : Wp p e below s K N Q T (mkF m pc Ls (.int y :: .int x :: st)) := by
  obtain ⟨d, rfl⟩ := hd; exact Wp.go (fun t kk => XS.ixor X.here hx rfl (hb hby d) rfl kk) k
theorem w_ishl (X : Stand p l e R s m args below meth c T locs cells slots) (hx : p.tables.exec = Jvm.exec) (hby : c.code = bs) {x y : Int32} (hd : In bs pc (.ishl) 1 nx) (k : Wp p e below s K N Q T (mkF m nx Ls (.int (x <<< (y &&& 31)) :: st))) : Wp p e below s K N Q T (mkF m pc Ls (.int y :: .int x :: st)) := by
  obtain ⟨d, rfl⟩ := hd; exact Wp.go (fun t kk => XS.ishl X.here hx rfl (hb hby d) rfl kk) k
theorem w_ishr (X : Stand p l e R s m args below meth c T locs cells slots) (hx : p.tables.exec = Jvm.exec) (hby : c.code = bs) {x y : Int32} (hd : In bs pc (.ishr) 1 nx) (k : Wp p e below s K N Q T (mkF m nx Ls (.int (x >>> (y &&& 31)) :: st))) : Wp p e below s K N Q T (mkF m pc Ls (.int y :: .int x :: st)) := by
  obtain ⟨d, rfl⟩ := hd; exact Wp.go (fun t kk => XS.ishr X.here hx rfl (hb hby d) rfl kk) k
theorem w_iushr (X : Stand p l e R s m args below meth c T locs cells slots) (hx : p.tables.exec = Jvm.exec) (hby : c.code = bs) {x y : Int32} (hd : In bs pc (.iushr) 1 nx) (k : Wp p e below s K N Q T (mkF m nx Ls (.int ((x.toUInt32 >>> (y &&& 31).toUInt32).toInt32) :: st))) : Wp p e below s K N Q T (mkF m pc Ls (.int y :: .int x :: st)) := by
  obtain ⟨d, rfl⟩ := hd; exact Wp.go (fun t kk => XS.iushr X.here hx rfl (hb hby d) rfl kk) k
theorem w_ladd (X : Stand p l e R s m args below meth c T locs cells slots) (hx : p.tables.exec = Jvm.exec) (hby : c.code = bs) {x y : Int64} (hd : In bs pc (.ladd) 1 nx) (k : Wp p e below s K N Q T (mkF m nx Ls (.long (x + y) :: st))) : Wp p e below s K N Q T (mkF m pc Ls (.long y :: .long x :: st)) := by
  obtain ⟨d, rfl⟩ := hd; exact Wp.go (fun t kk => XS.ladd X.here hx rfl (hb hby d) rfl kk) k
theorem w_lsub (X : Stand p l e R s m args below meth c T locs cells slots) (hx : p.tables.exec = Jvm.exec) (hby : c.code = bs) {x y : Int64} (hd : In bs pc (.lsub) 1 nx) (k : Wp p e below s K N Q T (mkF m nx Ls (.long (x - y) :: st))) : Wp p e below s K N Q T (mkF m pc Ls (.long y :: .long x :: st)) := by
  obtain ⟨d, rfl⟩ := hd; exact Wp.go (fun t kk => XS.lsub X.here hx rfl (hb hby d) rfl kk) k
theorem w_land (X : Stand p l e R s m args below meth c T locs cells slots) (hx : p.tables.exec = Jvm.exec) (hby : c.code = bs) {x y : Int64} (hd : In bs pc (.land) 1 nx) (k : Wp p e below s K N Q T (mkF m nx Ls (.long (x &&& y) :: st))) : Wp p e below s K N Q T (mkF m pc Ls (.long y :: .long x :: st)) := by
  obtain ⟨d, rfl⟩ := hd; exact Wp.go (fun t kk => XS.land X.here hx rfl (hb hby d) rfl kk) k
theorem w_lmul (X : Stand p l e R s m args below meth c T locs cells slots) (hx : p.tables.exec = Jvm.exec) (hby : c.code = bs) {x y : Int64} (hd : In bs pc (.lmul) 1 nx) (k : Wp p e below s K N Q T (mkF m nx Ls (.long (x * y) :: st))) : Wp p e below s K N Q T (mkF m pc Ls (.long y :: .long x :: st)) := by
  obtain ⟨d, rfl⟩ := hd; exact Wp.go (fun t kk => XS.lmul X.here hx rfl (hb hby d) rfl kk) k
theorem w_lor (X : Stand p l e R s m args below meth c T locs cells slots) (hx : p.tables.exec = Jvm.exec) (hby : c.code = bs) {x y : Int64} (hd : In bs pc (.lor) 1 nx) (k : Wp p e below s K N Q T (mkF m nx Ls (.long (x ||| y) :: st))) : Wp p e below s K N Q T (mkF m pc Ls (.long y :: .long x :: st)) := by
  obtain ⟨d, rfl⟩ := hd; exact Wp.go (fun t kk => XS.lor X.here hx rfl (hb hby d) rfl kk) k
theorem w_lxor (X : Stand p l e R s m args below meth c T locs cells slots) (hx : p.tables.exec = Jvm.exec) (hby : c.code = bs) {x y : Int64} (hd : In bs pc (.lxor) 1 nx) (k : Wp p e below s K N Q T (mkF m nx Ls (.long (x ^^^ y) :: st))) : Wp p e below s K N Q T (mkF m pc Ls (.long y :: .long x :: st)) := by
  obtain ⟨d, rfl⟩ := hd; exact Wp.go (fun t kk => XS.lxor X.here hx rfl (hb hby d) rfl kk) k
theorem w_lshl (X : Stand p l e R s m args below meth c T locs cells slots) (hx : p.tables.exec = Jvm.exec) (hby : c.code = bs) {x : Int64} {y : Int32} (hd : In bs pc (.lshl) 1 nx) (k : Wp p e below s K N Q T (mkF m nx Ls (.long (x <<< (y &&& 0x3f).toInt64) :: st))) : Wp p e below s K N Q T (mkF m pc Ls (.int y :: .long x :: st)) := by
  obtain ⟨d, rfl⟩ := hd; exact Wp.go (fun t kk => XS.lshl X.here hx rfl (hb hby d) rfl kk) k
theorem w_lshr (X : Stand p l e R s m args below meth c T locs cells slots) (hx : p.tables.exec = Jvm.exec) (hby : c.code = bs) {x : Int64} {y : Int32} (hd : In bs pc (.lshr) 1 nx) (k : Wp p e below s K N Q T (mkF m nx Ls (.long (x >>> (y &&& 0x3f).toInt64) :: st))) : Wp p e below s K N Q T (mkF m pc Ls (.int y :: .long x :: st)) := by
  obtain ⟨d, rfl⟩ := hd; exact Wp.go (fun t kk => XS.lshr X.here hx rfl (hb hby d) rfl kk) k
theorem w_lushr (X : Stand p l e R s m args below meth c T locs cells slots) (hx : p.tables.exec = Jvm.exec) (hby : c.code = bs) {x : Int64} {y : Int32} (hd : In bs pc (.lushr) 1 nx) (k : Wp p e below s K N Q T (mkF m nx Ls (.long ((x.toUInt64 >>> (y &&& 0x3f).toInt64.toUInt64).toInt64) :: st))) : Wp p e below s K N Q T (mkF m pc Ls (.int y :: .long x :: st)) := by
  obtain ⟨d, rfl⟩ := hd; exact Wp.go (fun t kk => XS.lushr X.here hx rfl (hb hby d) rfl kk) k
theorem w_i2b (X : Stand p l e R s m args below meth c T locs cells slots) (hx : p.tables.exec = Jvm.exec) (hby : c.code = bs) {x : Int32} (hd : In bs pc (.i2b) 1 nx) (k : Wp p e below s K N Q T (mkF m nx Ls (.int (x.toInt8.toInt32) :: st))) : Wp p e below s K N Q T (mkF m pc Ls (.int x :: st)) := by
  obtain ⟨d, rfl⟩ := hd; exact Wp.go (fun t kk => XS.i2b X.here hx rfl (hb hby d) rfl kk) k
theorem w_i2c (X : Stand p l e R s m args below meth c T locs cells slots) (hx : p.tables.exec = Jvm.exec) (hby : c.code = bs) {x : Int32} (hd : In bs pc (.i2c) 1 nx) (k : Wp p e below s K N Q T (mkF m nx Ls (.int (x.toUInt32.toUInt16.toUInt32.toInt32) :: st))) : Wp p e below s K N Q T (mkF m pc Ls (.int x :: st)) := by
  obtain ⟨d, rfl⟩ := hd; exact Wp.go (fun t kk => XS.i2c X.here hx rfl (hb hby d) rfl kk) k
theorem w_i2s (X : Stand p l e R s m args below meth c T locs cells slots) (hx : p.tables.exec = Jvm.exec) (hby : c.code = bs) {x : Int32} (hd : In bs pc (.i2s) 1 nx) (k : Wp p e below s K N Q T (mkF m nx Ls (.int (x.toInt16.toInt32) :: st))) : Wp p e below s K N Q T (mkF m pc Ls (.int x :: st)) := by
  obtain ⟨d, rfl⟩ := hd; exact Wp.go (fun t kk => XS.i2s X.here hx rfl (hb hby d) rfl kk) k
theorem w_ineg (X : Stand p l e R s m args below meth c T locs cells slots) (hx : p.tables.exec = Jvm.exec) (hby : c.code = bs) {x : Int32} (hd : In bs pc (.ineg) 1 nx) (k : Wp p e below s K N Q T (mkF m nx Ls (.int (-x) :: st))) : Wp p e below s K N Q T (mkF m pc Ls (.int x :: st)) := by
  obtain ⟨d, rfl⟩ := hd; exact Wp.go (fun t kk => XS.ineg X.here hx rfl (hb hby d) rfl kk) k
theorem w_i2l (X : Stand p l e R s m args below meth c T locs cells slots) (hx : p.tables.exec = Jvm.exec) (hby : c.code = bs) {x : Int32} (hd : In bs pc (.i2l) 1 nx) (k : Wp p e below s K N Q T (mkF m nx Ls (.long x.toInt64 :: st))) : Wp p e below s K N Q T (mkF m pc Ls (.int x :: st)) := by
  obtain ⟨d, rfl⟩ := hd; exact Wp.go (fun t kk => XS.i2l X.here hx rfl (hb hby d) rfl kk) k
theorem w_l2i (X : Stand p l e R s m args below meth c T locs cells slots) (hx : p.tables.exec = Jvm.exec) (hby : c.code = bs) {x : Int64} (hd : In bs pc (.l2i) 1 nx) (k : Wp p e below s K N Q T (mkF m nx Ls (.int x.toInt32 :: st))) : Wp p e below s K N Q T (mkF m pc Ls (.long x :: st)) := by
  obtain ⟨d, rfl⟩ := hd; exact Wp.go (fun t kk => XS.l2i X.here hx rfl (hb hby d) rfl kk) k
theorem w_lneg (X : Stand p l e R s m args below meth c T locs cells slots) (hx : p.tables.exec = Jvm.exec) (hby : c.code = bs) {x : Int64} (hd : In bs pc (.lneg) 1 nx) (k : Wp p e below s K N Q T (mkF m nx Ls (.long (-x) :: st))) : Wp p e below s K N Q T (mkF m pc Ls (.long x :: st)) := by
  obtain ⟨d, rfl⟩ := hd; exact Wp.go (fun t kk => XS.lneg X.here hx rfl (hb hby d) rfl kk) k
theorem w_idiv (X : Stand p l e R s m args below meth c T locs cells slots) (hx : p.tables.exec = Jvm.exec) (hby : c.code = bs) {x y : Int32} (hd : In bs pc (.idiv) 1 nx) (hy : y ≠ 0) (k : Wp p e below s K N Q T (mkF m nx Ls (.int (x / y) :: st))) : Wp p e below s K N Q T (mkF m pc Ls (.int y :: .int x :: st)) := by
  obtain ⟨d, rfl⟩ := hd; exact Wp.go (fun t kk => XS.idiv X.here hx rfl (hb hby d) rfl hy kk) k
theorem w_irem (X : Stand p l e R s m args below meth c T locs cells slots) (hx : p.tables.exec = Jvm.exec) (hby : c.code = bs) {x y : Int32} (hd : In bs pc .irem 1 nx) (hy : y ≠ 0) (k : Wp p e below s K N Q T (mkF m nx Ls (.int (x % y) :: st))) : Wp p e below s K N Q T (mkF m pc Ls (.int y :: .int x :: st)) := by
  obtain ⟨d, rfl⟩ := hd; exact Wp.go (fun t kk => iremM X hx rfl (hb hby d) rfl hy kk) k
theorem w_ldiv (X : Stand p l e R s m args below meth c T locs cells slots) (hx : p.tables.exec = Jvm.exec) (hby : c.code = bs) {x y : Int64} (hd : In bs pc (.ldiv) 1 nx) (hy : y ≠ 0) (k : Wp p e below s K N Q T (mkF m nx Ls (.long (x / y) :: st))) : Wp p e below s K N Q T (mkF m pc Ls (.long y :: .long x :: st)) := by
  obtain ⟨d, rfl⟩ := hd; exact Wp.go (fun t kk => XS.ldiv X.here hx rfl (hb hby d) rfl hy kk) k
theorem w_lrem (X : Stand p l e R s m args below meth c T locs cells slots) (hx : p.tables.exec = Jvm.exec) (hby : c.code = bs) {x y : Int64} (hd : In bs pc .lrem 1 nx) (hy : y ≠ 0) (k : Wp p e below s K N Q T (mkF m nx Ls (.long (x % y) :: st))) : Wp p e below s K N Q T (mkF m pc Ls (.long y :: .long x :: st)) := by
  obtain ⟨d, rfl⟩ := hd; refine Wp.go (fun t kk => XS.lrem X.here hx rfl (hb hby d) rfl hy kk) ?_; rw [lrem_mod]; exact k
theorem w_aconst_null (X : Stand p l e R s m args below meth c T locs cells slots) (hx : p.tables.exec = Jvm.exec) (hby : c.code = bs)  (hd : In bs pc (.aconst_null) 1 nx) (k : Wp p e below s K N Q T (mkF m nx Ls (.null :: st))) : Wp p e below s K N Q T (mkF m pc Ls (st)) := by
  obtain ⟨d, rfl⟩ := hd; exact Wp.go (fun t kk => XS.aconstNull X.here hx rfl (hb hby d) kk) k
theorem w_dup (X : Stand p l e R s m args below meth c T locs cells slots) (hx : p.tables.exec = Jvm.exec) (hby : c.code = bs) {x : Value} (hd : In bs pc (.dup) 1 nx) (hc : x.category = 1) (k : Wp p e below s K N Q T (mkF m nx Ls (x :: x :: st))) : Wp p e below s K N Q T (mkF m pc Ls (x :: st)) := by
  obtain ⟨d, rfl⟩ := hd; exact Wp.go (fun t kk => XS.dup X.here hx rfl (hb hby d) rfl hc kk) k
theorem w_dup_x1 (X : Stand p l e R s m args below meth c T locs cells slots) (hx : p.tables.exec = Jvm.exec) (hby : c.code = bs) {x y : Value} (hd : In bs pc (.dup_x1) 1 nx) (hc : x.category = 1) (hc2 : y.category = 1) (k : Wp p e below s K N Q T (mkF m nx Ls (x :: y :: x :: st))) : Wp p e below s K N Q T (mkF m pc Ls (x :: y :: st)) := by
  obtain ⟨d, rfl⟩ := hd; exact Wp.go (fun t kk => XS.dupX1 X.here hx rfl (hb hby d) rfl hc hc2 kk) k
theorem w_dup2 (X : Stand p l e R s m args below meth c T locs cells slots) (hx : p.tables.exec = Jvm.exec) (hby : c.code = bs) {x y : Value} (hd : In bs pc (.dup2) 1 nx) (hc : x.category = 1) (hc2 : y.category = 1) (k : Wp p e below s K N Q T (mkF m nx Ls (x :: y :: x :: y :: st))) : Wp p e below s K N Q T (mkF m pc Ls (x :: y :: st)) := by
  obtain ⟨d, rfl⟩ := hd; exact Wp.go (fun t kk => XT.dup2 X.here hx rfl (hb hby d) rfl hc hc2 kk) k
theorem w_dup2L (X : Stand p l e R s m args below meth c T locs cells slots) (hx : p.tables.exec = Jvm.exec) (hby : c.code = bs) {x : Int64} (hd : In bs pc (.dup2) 1 nx) (k : Wp p e below s K N Q T (mkF m nx Ls (.long x :: .long x :: st))) : Wp p e below s K N Q T (mkF m pc Ls (.long x :: st)) := by
  obtain ⟨d, rfl⟩ := hd; exact Wp.go (fun t kk => XT.dup2L X.here hx rfl (hb hby d) rfl kk) k
theorem w_pop (X : Stand p l e R s m args below meth c T locs cells slots) (hx : p.tables.exec = Jvm.exec) (hby : c.code = bs) {x : Value} (hd : In bs pc (.pop) 1 nx) (hc : x.category = 1) (k : Wp p e below s K N Q T (mkF m nx Ls (st))) : Wp p e below s K N Q T (mkF m pc Ls (x :: st)) := by
  obtain ⟨d, rfl⟩ := hd; exact Wp.go (fun t kk => XS.pop X.here hx rfl (hb hby d) rfl hc kk) k
theorem w_iconst (X : Stand p l e R s m args below meth c T locs cells slots) (hx : p.tables.exec = Jvm.exec) (hby : c.code = bs) {i : Int} (v : Int32) (hd : In bs pc (.iconst i) 1 nx) (hv : Int32.ofInt i = v) (k : Wp p e below s K N Q T (mkF m nx Ls (.int v :: st))) : Wp p e below s K N Q T (mkF m pc Ls (st)) := by
  obtain ⟨d, rfl⟩ := hd; exact Wp.go (fun t kk => XT.iconstV X.here hx rfl v (hb hby d) hv kk) k
theorem w_bipush (X : Stand p l e R s m args below meth c T locs cells slots) (hx : p.tables.exec = Jvm.exec) (hby : c.code = bs) {i : Int} (v : Int32) (hd : In bs pc (.bipush i) 2 nx) (hv : (Int8.ofInt i).toInt32 = v) (k : Wp p e below s K N Q T (mkF m nx Ls (.int v :: st))) : Wp p e below s K N Q T (mkF m pc Ls (st)) := by
  obtain ⟨d, rfl⟩ := hd; exact Wp.go (fun t kk => XT.bipushV X.here hx rfl v (hb hby d) hv kk) k
theorem w_sipush (X : Stand p l e R s m args below meth c T locs cells slots) (hx : p.tables.exec = Jvm.exec) (hby : c.code = bs) {i : Int} (v : Int32) (hd : In bs pc (.sipush i) 3 nx) (hv : (Int16.ofInt i).toInt32 = v) (k : Wp p e below s K N Q T (mkF m nx Ls (.int v :: st))) : Wp p e below s K N Q T (mkF m pc Ls (st)) := by
  obtain ⟨d, rfl⟩ := hd; exact Wp.go (fun t kk => XT.sipushV X.here hx rfl v (hb hby d) hv kk) k
theorem w_lconst (X : Stand p l e R s m args below meth c T locs cells slots) (hx : p.tables.exec = Jvm.exec) (hby : c.code = bs) {i : Fin 2} (v : Int64) (hd : In bs pc (.lconst i) 1 nx) (hv : Int64.ofNat i = v) (k : Wp p e below s K N Q T (mkF m nx Ls (.long v :: st))) : Wp p e below s K N Q T (mkF m pc Ls (st)) := by
  obtain ⟨d, rfl⟩ := hd; exact Wp.go (fun t kk => XT.lconstV X.here hx rfl v (hb hby d) hv kk) k
theorem w_iloadN (X : Stand p l e R s m args below meth c T locs cells slots) (hx : p.tables.exec = Jvm.exec) (hby : c.code = bs) {i : Fin 4} {v : Int32} (hd : In bs pc (.iload_n i) 1 nx) (hl : Ls[i.val]? = some (.val (.int v))) (k : Wp p e below s K N Q T (mkF m nx Ls (.int v :: st))) : Wp p e below s K N Q T (mkF m pc Ls (st)) := by
  obtain ⟨d, rfl⟩ := hd; exact Wp.go (fun t kk => XS.iloadN X.here hx rfl (hb hby d) hl kk) k
theorem w_lloadN (X : Stand p l e R s m args below meth c T locs cells slots) (hx : p.tables.exec = Jvm.exec) (hby : c.code = bs) {i : Fin 4} {v : Int64} (hd : In bs pc (.lload_n i) 1 nx) (hl : Ls[i.val]? = some (.val (.long v))) (k : Wp p e below s K N Q T (mkF m nx Ls (.long v :: st))) : Wp p e below s K N Q T (mkF m pc Ls (st)) := by
  obtain ⟨d, rfl⟩ := hd; exact Wp.go (fun t kk => XS.lloadN X.here hx rfl (hb hby d) hl kk) k
theorem w_aloadN (X : Stand p l e R s m args below meth c T locs cells slots) (hx : p.tables.exec = Jvm.exec) (hby : c.code = bs) {i : Fin 4} {v : Value} (hd : In bs pc (.aload_n i) 1 nx) (hl : Ls[i.val]? = some (.val v)) (hv : v.isRef = true) (k : Wp p e below s K N Q T (mkF m nx Ls (v :: st))) : Wp p e below s K N Q T (mkF m pc Ls (st)) := by
  obtain ⟨d, rfl⟩ := hd; exact Wp.go (fun t kk => XS.aloadN X.here hx rfl (hb hby d) hl hv kk) k
theorem w_istoreN (X : Stand p l e R s m args below meth c T locs cells slots) (hx : p.tables.exec = Jvm.exec) (hby : c.code = bs) {i : Fin 4} {v : Int32} (l' : Array Slot) (hd : In bs pc (.istore_n i) 1 nx) (hl : storeLocals Ls i.val (.int v) = some l') (k : Wp p e below s K N Q T (mkF m nx l' (st))) : Wp p e below s K N Q T (mkF m pc Ls (.int v :: st)) := by
  obtain ⟨d, rfl⟩ := hd; exact Wp.go (fun t kk => XS.istoreN X.here hx rfl (hb hby d) rfl hl kk) k
theorem w_lstoreN (X : Stand p l e R s m args below meth c T locs cells slots) (hx : p.tables.exec = Jvm.exec) (hby : c.code = bs) {i : Fin 4} {v : Int64} (l' : Array Slot) (hd : In bs pc (.lstore_n i) 1 nx) (hl : storeLocals Ls i.val (.long v) = some l') (k : Wp p e below s K N Q T (mkF m nx l' (st))) : Wp p e below s K N Q T (mkF m pc Ls (.long v :: st)) := by
  obtain ⟨d, rfl⟩ := hd; exact Wp.go (fun t kk => XS.lstoreN X.here hx rfl (hb hby d) rfl hl kk) k
theorem w_astoreN (X : Stand p l e R s m args below meth c T locs cells slots) (hx : p.tables.exec = Jvm.exec) (hby : c.code = bs) {i : Fin 4} {v : Value} (l' : Array Slot) (hd : In bs pc (.astore_n i) 1 nx) (hv : v.isRef = true) (hl : storeLocals Ls i.val v = some l') (k : Wp p e below s K N Q T (mkF m nx l' (st))) : Wp p e below s K N Q T (mkF m pc Ls (v :: st)) := by
  obtain ⟨d, rfl⟩ := hd; exact Wp.go (fun t kk => XS.astoreN X.here hx rfl (hb hby d) rfl hv hl kk) k
theorem w_iload (X : Stand p l e R s m args below meth c T locs cells slots) (hx : p.tables.exec = Jvm.exec) (hby : c.code = bs) {i : Nat} {v : Int32} (hd : In bs pc (.iload i) 2 nx) (hl : Ls[i]? = some (.val (.int v))) (k : Wp p e below s K N Q T (mkF m nx Ls (.int v :: st))) : Wp p e below s K N Q T (mkF m pc Ls (st)) := by
  obtain ⟨d, rfl⟩ := hd; exact Wp.go (fun t kk => XS.iload X.here hx rfl (hb hby d) hl kk) k
theorem w_lload (X : Stand p l e R s m args below meth c T locs cells slots) (hx : p.tables.exec = Jvm.exec) (hby : c.code = bs) {i : Nat} {v : Int64} (hd : In bs pc (.lload i) 2 nx) (hl : Ls[i]? = some (.val (.long v))) (k : Wp p e below s K N Q T (mkF m nx Ls (.long v :: st))) : Wp p e below s K N Q T (mkF m pc Ls (st)) := by
  obtain ⟨d, rfl⟩ := hd; exact Wp.go (fun t kk => XS.lload X.here hx rfl (hb hby d) hl kk) k
theorem w_aload (X : Stand p l e R s m args below meth c T locs cells slots) (hx : p.tables.exec = Jvm.exec) (hby : c.code = bs) {i : Nat} {v : Value} (hd : In bs pc (.aload i) 2 nx) (hl : Ls[i]? = some (.val v)) (hv : v.isRef = true) (k : Wp p e below s K N Q T (mkF m nx Ls (v :: st))) : Wp p e below s K N Q T (mkF m pc Ls (st)) := by
  obtain ⟨d, rfl⟩ := hd; exact Wp.go (fun t kk => XS.aload X.here hx rfl (hb hby d) hl hv kk) k
theorem w_istore (X : Stand p l e R s m args below meth c T locs cells slots) (hx : p.tables.exec = Jvm.exec) (hby : c.code = bs) {i : Nat} {v : Int32} (l' : Array Slot) (hd : In bs pc (.istore i) 2 nx) (hl : storeLocals Ls i (.int v) = some l') (k : Wp p e below s K N Q T (mkF m nx l' (st))) : Wp p e below s K N Q T (mkF m pc Ls (.int v :: st)) := by
  obtain ⟨d, rfl⟩ := hd; exact Wp.go (fun t kk => XS.istore X.here hx rfl (hb hby d) rfl hl kk) k
theorem w_lstore (X : Stand p l e R s m args below meth c T locs cells slots) (hx : p.tables.exec = Jvm.exec) (hby : c.code = bs) {i : Nat} {v : Int64} (l' : Array Slot) (hd : In bs pc (.lstore i) 2 nx) (hl : storeLocals Ls i (.long v) = some l') (k : Wp p e below s K N Q T (mkF m nx l' (st))) : Wp p e below s K N Q T (mkF m pc Ls (.long v :: st)) := by
  obtain ⟨d, rfl⟩ := hd; exact Wp.go (fun t kk => XS.lstore X.here hx rfl (hb hby d) rfl hl kk) k
theorem w_astore (X : Stand p l e R s m args below meth c T locs cells slots) (hx : p.tables.exec = Jvm.exec) (hby : c.code = bs) {i : Nat} {v : Value} (l' : Array Slot) (hd : In bs pc (.astore i) 2 nx) (hv : v.isRef = true) (hl : storeLocals Ls i v = some l') (k : Wp p e below s K N Q T (mkF m nx l' (st))) : Wp p e below s K N Q T (mkF m pc Ls (v :: st)) := by
  obtain ⟨d, rfl⟩ := hd; exact Wp.go (fun t kk => XS.astore X.here hx rfl (hb hby d) rfl hv hl kk) k
theorem w_iinc (X : Stand p l e R s m args below meth c T locs cells slots) (hx : p.tables.exec = Jvm.exec) (hby : c.code = bs) {i : Nat} {cst : Int} {x : Int32} (v : Int32) (l' : Array Slot) (hd : In bs pc (.iinc i cst) 3 nx) (hv : Int32.ofInt cst = v) (hl : Ls[i]? = some (.val (.int x))) (hl' : storeLocals Ls i (.int (x + v)) = some l') (k : Wp p e below s K N Q T (mkF m nx l' st)) : Wp p e below s K N Q T (mkF m pc Ls st) := by
  obtain ⟨d, rfl⟩ := hd; exact Wp.go (fun t kk => XT.iincV X.here hx rfl v (hb hby d) hv hl hl' kk) k
theorem w_goto (X : Stand p l e R s m args below meth c T locs cells slots) (hx : p.tables.exec = Jvm.exec) (hby : c.code = bs) (hd : Jm bs pc (.goto o) o nx tg) (k : Wp p e below s K N Q T (mkF m tg Ls st)) : Wp p e below s K N Q T (mkF m pc Ls st) := by
  obtain ⟨d, -, q1, q2⟩ := hd; exact Wp.go (fun t kk => XS.goto X.here hx rfl rfl (hb hby d) q1 q2 kk) k
theorem f_icmp_eq (X : Stand p l e R s m args below meth c T locs cells slots) (hx : p.tables.exec = Jvm.exec) (hby : c.code = bs) {x y : Int32} (hd : Jm bs pc (.if_icmp .eq o) o nx tg) (kt : x = y → Wp p e below s K N Q T (mkF m tg Ls st)) (kf : ¬ x = y → Wp p e below s K N Q T (mkF m nx Ls st)) : Wp p e below s K N Q T (mkF m pc Ls (.int y :: .int x :: st)) := by
  obtain ⟨d, rfl, q1, q2⟩ := hd
  by_cases q : x = y
  · exact Wp.go (fun t kk => XS.icmpYes X.here hx rfl rfl (hb hby d) rfl (XT.ii_eq_t q) q1 q2 kk) (kt q)
  · exact Wp.go (fun t kk => XS.icmpNo X.here hx rfl (hb hby d) rfl (XT.ii_eq_f q) kk) (kf q)
theorem f_if_eq (X : Stand p l e R s m args below meth c T locs cells slots) (hx : p.tables.exec = Jvm.exec) (hby : c.code = bs) {x : Int32} (hd : Jm bs pc (.ifCond .eq o) o nx tg) (kt : x = 0 → Wp p e below s K N Q T (mkF m tg Ls st)) (kf : ¬ x = 0 → Wp p e below s K N Q T (mkF m nx Ls st)) : Wp p e below s K N Q T (mkF m pc Ls (.int x :: st)) := by
  obtain ⟨d, rfl, q1, q2⟩ := hd
  by_cases q : x = 0
  · exact Wp.go (fun t kk => XS.ifYes X.here hx rfl rfl (hb hby d) rfl (XT.i0_eq_t q) q1 q2 kk) (kt q)
  · exact Wp.go (fun t kk => XS.ifNo X.here hx rfl (hb hby d) rfl (XT.i0_eq_f q) kk) (kf q)
theorem f_lcmp_eq (X : Stand p l e R s m args below meth c T locs cells slots) (hx : p.tables.exec = Jvm.exec) (hby : c.code = bs) {x y : Int64} {n1 : Nat} (hc : In bs pc .lcmp 1 n1) (hd : Jm bs n1 (.ifCond .eq o) o nx tg) (kt : x = y → Wp p e below s K N Q T (mkF m tg Ls st)) (kf : ¬ x = y → Wp p e below s K N Q T (mkF m nx Ls st)) : Wp p e below s K N Q T (mkF m pc Ls (.long y :: .long x :: st)) := by
  obtain ⟨d1, rfl⟩ := hc; obtain ⟨d, rfl, q1, q2⟩ := hd
  refine Wp.go (fun t kk => XT.lcmp X.here hx rfl (hb hby d1) rfl kk) ?_
  by_cases q : x = y
  · exact Wp.go (fun t kk => XS.ifYes X.here hx rfl rfl (hb hby d) rfl (XT.ll_eq_t q) q1 q2 kk) (kt q)
  · exact Wp.go (fun t kk => XS.ifNo X.here hx rfl (hb hby d) rfl (XT.ll_eq_f q) kk) (kf q)
theorem f_icmp_ne (X : Stand p l e R s m args below meth c T locs cells slots) (hx : p.tables.exec = Jvm.exec) (hby : c.code = bs) {x y : Int32} (hd : Jm bs pc (.if_icmp .ne o) o nx tg) (kt : ¬ x = y → Wp p e below s K N Q T (mkF m tg Ls st)) (kf : x = y → Wp p e below s K N Q T (mkF m nx Ls st)) : Wp p e below s K N Q T (mkF m pc Ls (.int y :: .int x :: st)) := by
  obtain ⟨d, rfl, q1, q2⟩ := hd
  by_cases q : x = y
  · exact Wp.go (fun t kk => XS.icmpNo X.here hx rfl (hb hby d) rfl (XT.ii_ne_f q) kk) (kf q)
  · exact Wp.go (fun t kk => XS.icmpYes X.here hx rfl rfl (hb hby d) rfl (XT.ii_ne_t q) q1 q2 kk) (kt q)
theorem f_if_ne (X : Stand p l e R s m args below meth c T locs cells slots) (hx : p.tables.exec = Jvm.exec) (hby : c.code = bs) {x : Int32} (hd : Jm bs pc (.ifCond .ne o) o nx tg) (kt : ¬ x = 0 → Wp p e below s K N Q T (mkF m tg Ls st)) (kf : x = 0 → Wp p e below s K N Q T (mkF m nx Ls st)) : Wp p e below s K N Q T (mkF m pc Ls (.int x :: st)) := by
  obtain ⟨d, rfl, q1, q2⟩ := hd
  by_cases q : x = 0
  · exact Wp.go (fun t kk => XS.ifNo X.here hx rfl (hb hby d) rfl (XT.i0_ne_f q) kk) (kf q)
  · exact Wp.go (fun t kk => XS.ifYes X.here hx rfl rfl (hb hby d) rfl (XT.i0_ne_t q) q1 q2 kk) (kt q)
theorem f_lcmp_ne (X : Stand p l e R s m args below meth c T locs cells slots) (hx : p.tables.exec = Jvm.exec) (hby : c.code = bs) {x y : Int64} {n1 : Nat} (hc : In bs pc .lcmp 1 n1) (hd : Jm bs n1 (.ifCond .ne o) o nx tg) (kt : ¬ x = y → Wp p e below s K N Q T (mkF m tg Ls st)) (kf : x = y → Wp p e below s K N Q T (mkF m nx Ls st)) : Wp p e below s K N Q T (mkF m pc Ls (.long y :: .long x :: st)) := by
  obtain ⟨d1, rfl⟩ := hc; obtain ⟨d, rfl, q1, q2⟩ := hd
  refine Wp.go (fun t kk => XT.lcmp X.here hx rfl (hb hby d1) rfl kk) ?_
  by_cases q : x = y
  · exact Wp.go (fun t kk => XS.ifNo X.here hx rfl (hb hby d) rfl (XT.ll_ne_f q) kk) (kf q)
  · exact Wp.go (fun t kk => XS.ifYes X.here hx rfl rfl (hb hby d) rfl (XT.ll_ne_t q) q1 q2 kk) (kt q)
theorem f_icmp_lt (X : Stand p l e R s m args below meth c T locs cells slots) (hx : p.tables.exec = Jvm.exec) (hby : c.code = bs) {x y : Int32} (hd : Jm bs pc (.if_icmp .lt o) o nx tg) (kt : x < y → Wp p e below s K N Q T (mkF m tg Ls st)) (kf : ¬ x < y → Wp p e below s K N Q T (mkF m nx Ls st)) : Wp p e below s K N Q T (mkF m pc Ls (.int y :: .int x :: st)) := by
  obtain ⟨d, rfl, q1, q2⟩ := hd
  by_cases q : x < y
  · exact Wp.go (fun t kk => XS.icmpYes X.here hx rfl rfl (hb hby d) rfl (XT.ii_lt_t q) q1 q2 kk) (kt q)
  · exact Wp.go (fun t kk => XS.icmpNo X.here hx rfl (hb hby d) rfl (XT.ii_lt_f q) kk) (kf q)
theorem f_if_lt (X : Stand p l e R s m args below meth c T locs cells slots) (hx : p.tables.exec = Jvm.exec) (hby : c.code = bs) {x : Int32} (hd : Jm bs pc (.ifCond .lt o) o nx tg) (kt : x < 0 → Wp p e below s K N Q T (mkF m tg Ls st)) (kf : ¬ x < 0 → Wp p e below s K N Q T (mkF m nx Ls st)) : Wp p e below s K N Q T (mkF m pc Ls (.int x :: st)) := by
  obtain ⟨d, rfl, q1, q2⟩ := hd
  by_cases q : x < 0
  · exact Wp.go (fun t kk => XS.ifYes X.here hx rfl rfl (hb hby d) rfl (XT.i0_lt_t q) q1 q2 kk) (kt q)
  · exact Wp.go (fun t kk => XS.ifNo X.here hx rfl (hb hby d) rfl (XT.i0_lt_f q) kk) (kf q)
theorem f_lcmp_lt (X : Stand p l e R s m args below meth c T locs cells slots) (hx : p.tables.exec = Jvm.exec) (hby : c.code = bs) {x y : Int64} {n1 : Nat} (hc : In bs pc .lcmp 1 n1) (hd : Jm bs n1 (.ifCond .lt o) o nx tg) (kt : x < y → Wp p e below s K N Q T (mkF m tg Ls st)) (kf : ¬ x < y → Wp p e below s K N Q T (mkF m nx Ls st)) : Wp p e below s K N Q T (mkF m pc Ls (.long y :: .long x :: st)) := by
  obtain ⟨d1, rfl⟩ := hc; obtain ⟨d, rfl, q1, q2⟩ := hd
  refine Wp.go (fun t kk => XT.lcmp X.here hx rfl (hb hby d1) rfl kk) ?_
  by_cases q : x < y
  · exact Wp.go (fun t kk => XS.ifYes X.here hx rfl rfl (hb hby d) rfl (XT.ll_lt_t q) q1 q2 kk) (kt q)
  · exact Wp.go (fun t kk => XS.ifNo X.here hx rfl (hb hby d) rfl (XT.ll_lt_f q) kk) (kf q)
theorem f_icmp_ge (X : Stand p l e R s m args below meth c T locs cells slots) (hx : p.tables.exec = Jvm.exec) (hby : c.code = bs) {x y : Int32} (hd : Jm bs pc (.if_icmp .ge o) o nx tg) (kt : ¬ x < y → Wp p e below s K N Q T (mkF m tg Ls st)) (kf : x < y → Wp p e below s K N Q T (mkF m nx Ls st)) : Wp p e below s K N Q T (mkF m pc Ls (.int y :: .int x :: st)) := by
  obtain ⟨d, rfl, q1, q2⟩ := hd
  by_cases q : x < y
  · exact Wp.go (fun t kk => XS.icmpNo X.here hx rfl (hb hby d) rfl (XT.ii_ge_f q) kk) (kf q)
  · exact Wp.go (fun t kk => XS.icmpYes X.here hx rfl rfl (hb hby d) rfl (XT.ii_ge_t q) q1 q2 kk) (kt q)
theorem f_if_ge (X : Stand p l e R s m args below meth c T locs cells slots) (hx : p.tables.exec = Jvm.exec) (hby : c.code = bs) {x : Int32} (hd : Jm bs pc (.ifCond .ge o) o nx tg) (kt : ¬ x < 0 → Wp p e below s K N Q T (mkF m tg Ls st)) (kf : x < 0 → Wp p e below s K N Q T (mkF m nx Ls st)) : Wp p e below s K N Q T (mkF m pc Ls (.int x :: st)) := by
  obtain ⟨d, rfl, q1, q2⟩ := hd
  by_cases q : x < 0
  · exact Wp.go (fun t kk => XS.ifNo X.here hx rfl (hb hby d) rfl (XT.i0_ge_f q) kk) (kf q)
  · exact Wp.go (fun t kk => XS.ifYes X.here hx rfl rfl (hb hby d) rfl (XT.i0_ge_t q) q1 q2 kk) (kt q)
theorem f_lcmp_ge (X : Stand p l e R s m args below meth c T locs cells slots) (hx : p.tables.exec = Jvm.exec) (hby : c.code = bs) {x y : Int64} {n1 : Nat} (hc : In bs pc .lcmp 1 n1) (hd : Jm bs n1 (.ifCond .ge o) o nx tg) (kt : ¬ x < y → Wp p e below s K N Q T (mkF m tg Ls st)) (kf : x < y → Wp p e below s K N Q T (mkF m nx Ls st)) : Wp p e below s K N Q T (mkF m pc Ls (.long y :: .long x :: st)) := by
  obtain ⟨d1, rfl⟩ := hc; obtain ⟨d, rfl, q1, q2⟩ := hd
  refine Wp.go (fun t kk => XT.lcmp X.here hx rfl (hb hby d1) rfl kk) ?_
  by_cases q : x < y
  · exact Wp.go (fun t kk => XS.ifNo X.here hx rfl (hb hby d) rfl (XT.ll_ge_f q) kk) (kf q)
  · exact Wp.go (fun t kk => XS.ifYes X.here hx rfl rfl (hb hby d) rfl (XT.ll_ge_t q) q1 q2 kk) (kt q)
theorem f_icmp_gt (X : Stand p l e R s m args below meth c T locs cells slots) (hx : p.tables.exec = Jvm.exec) (hby : c.code = bs) {x y : Int32} (hd : Jm bs pc (.if_icmp .gt o) o nx tg) (kt : y < x → Wp p e below s K N Q T (mkF m tg Ls st)) (kf : ¬ y < x → Wp p e below s K N Q T (mkF m nx Ls st)) : Wp p e below s K N Q T (mkF m pc Ls (.int y :: .int x :: st)) := by
  obtain ⟨d, rfl, q1, q2⟩ := hd
  by_cases q : y < x
  · exact Wp.go (fun t kk => XS.icmpYes X.here hx rfl rfl (hb hby d) rfl (XT.ii_gt_t q) q1 q2 kk) (kt q)
  · exact Wp.go (fun t kk => XS.icmpNo X.here hx rfl (hb hby d) rfl (XT.ii_gt_f q) kk) (kf q)
theorem f_if_gt (X : Stand p l e R s m args below meth c T locs cells slots) (hx : p.tables.exec = Jvm.exec) (hby : c.code = bs) {x : Int32} (hd : Jm bs pc (.ifCond .gt o) o nx tg) (kt : 0 < x → Wp p e below s K N Q T (mkF m tg Ls st)) (kf : ¬ 0 < x → Wp p e below s K N Q T (mkF m nx Ls st)) : Wp p e below s K N Q T (mkF m pc Ls (.int x :: st)) := by
  obtain ⟨d, rfl, q1, q2⟩ := hd
  by_cases q : 0 < x
  · exact Wp.go (fun t kk => XS.ifYes X.here hx rfl rfl (hb hby d) rfl (XT.i0_gt_t q) q1 q2 kk) (kt q)
  · exact Wp.go (fun t kk => XS.ifNo X.here hx rfl (hb hby d) rfl (XT.i0_gt_f q) kk) (kf q)
theorem f_lcmp_gt (X : Stand p l e R s m args below meth c T locs cells slots) (hx : p.tables.exec = Jvm.exec) (hby : c.code = bs) {x y : Int64} {n1 : Nat} (hc : In bs pc .lcmp 1 n1) (hd : Jm bs n1 (.ifCond .gt o) o nx tg) (kt : y < x → Wp p e below s K N Q T (mkF m tg Ls st)) (kf : ¬ y < x → Wp p e below s K N Q T (mkF m nx Ls st)) : Wp p e below s K N Q T (mkF m pc Ls (.long y :: .long x :: st)) := by
  obtain ⟨d1, rfl⟩ := hc; obtain ⟨d, rfl, q1, q2⟩ := hd
  refine Wp.go (fun t kk => XT.lcmp X.here hx rfl (hb hby d1) rfl kk) ?_
  by_cases q : y < x
  · exact Wp.go (fun t kk => XS.ifYes X.here hx rfl rfl (hb hby d) rfl (XT.ll_gt_t q) q1 q2 kk) (kt q)
  · exact Wp.go (fun t kk => XS.ifNo X.here hx rfl (hb hby d) rfl (XT.ll_gt_f q) kk) (kf q)
theorem f_icmp_le (X : Stand p l e R s m args below meth c T locs cells slots) (hx : p.tables.exec = Jvm.exec) (hby : c.code = bs) {x y : Int32} (hd : Jm bs pc (.if_icmp .le o) o nx tg) (kt : ¬ y < x → Wp p e below s K N Q T (mkF m tg Ls st)) (kf : y < x → Wp p e below s K N Q T (mkF m nx Ls st)) : Wp p e below s K N Q T (mkF m pc Ls (.int y :: .int x :: st)) := by
  obtain ⟨d, rfl, q1, q2⟩ := hd
  by_cases q : y < x
  · exact Wp.go (fun t kk => XS.icmpNo X.here hx rfl (hb hby d) rfl (XT.ii_le_f q) kk) (kf q)
  · exact Wp.go (fun t kk => XS.icmpYes X.here hx rfl rfl (hb hby d) rfl (XT.ii_le_t q) q1 q2 kk) (kt q)
theorem f_if_le (X : Stand p l e R s m args below meth c T locs cells slots) (hx : p.tables.exec = Jvm.exec) (hby : c.code = bs) {x : Int32} (hd : Jm bs pc (.ifCond .le o) o nx tg) (kt : ¬ 0 < x → Wp p e below s K N Q T (mkF m tg Ls st)) (kf : 0 < x → Wp p e below s K N Q T (mkF m nx Ls st)) : Wp p e below s K N Q T (mkF m pc Ls (.int x :: st)) := by
  obtain ⟨d, rfl, q1, q2⟩ := hd
  by_cases q : 0 < x
  · exact Wp.go (fun t kk => XS.ifNo X.here hx rfl (hb hby d) rfl (XT.i0_le_f q) kk) (kf q)
  · exact Wp.go (fun t kk => XS.ifYes X.here hx rfl rfl (hb hby d) rfl (XT.i0_le_t q) q1 q2 kk) (kt q)
theorem f_lcmp_le (X : Stand p l e R s m args below meth c T locs cells slots) (hx : p.tables.exec = Jvm.exec) (hby : c.code = bs) {x y : Int64} {n1 : Nat} (hc : In bs pc .lcmp 1 n1) (hd : Jm bs n1 (.ifCond .le o) o nx tg) (kt : ¬ y < x → Wp p e below s K N Q T (mkF m tg Ls st)) (kf : y < x → Wp p e below s K N Q T (mkF m nx Ls st)) : Wp p e below s K N Q T (mkF m pc Ls (.long y :: .long x :: st)) := by
  obtain ⟨d1, rfl⟩ := hc; obtain ⟨d, rfl, q1, q2⟩ := hd
  refine Wp.go (fun t kk => XT.lcmp X.here hx rfl (hb hby d1) rfl kk) ?_
  by_cases q : y < x
  · exact Wp.go (fun t kk => XS.ifNo X.here hx rfl (hb hby d) rfl (XT.ll_le_f q) kk) (kf q)
  · exact Wp.go (fun t kk => XS.ifYes X.here hx rfl rfl (hb hby d) rfl (XT.ll_le_t q) q1 q2 kk) (kt q)
theorem f_acmp_eq (X : Stand p l e R s m args below meth c T locs cells slots) (hx : p.tables.exec = Jvm.exec) (hby : c.code = bs) {x y : Addr} (hd : Jm bs pc (.if_acmp .eq o) o nx tg) (kt : x = y → Wp p e below s K N Q T (mkF m tg Ls st)) (kf : ¬ x = y → Wp p e below s K N Q T (mkF m nx Ls st)) : Wp p e below s K N Q T (mkF m pc Ls (.ref y :: .ref x :: st)) := by
  obtain ⟨d, rfl, q1, q2⟩ := hd
  by_cases q : x = y
  · exact Wp.go (fun t kk => XT.acmpYes X.here hx rfl rfl (hb hby d) rfl rfl rfl (XT.aa_eq_t (congrArg Value.ref q)) q1 q2 kk) (kt q)
  · exact Wp.go (fun t kk => XT.acmpNo X.here hx rfl (hb hby d) rfl rfl rfl (XT.aa_eq_f (fun r => q (Value.ref.inj r))) kk) (kf q)
theorem f_acmpV_eq (X : Stand p l e R s m args below meth c T locs cells slots) (hx : p.tables.exec = Jvm.exec) (hby : c.code = bs) {x y : Value} (hx' : x.isRef = true) (hy' : y.isRef = true) (hd : Jm bs pc (.if_acmp .eq o) o nx tg) (kt : x = y → Wp p e below s K N Q T (mkF m tg Ls st)) (kf : ¬ x = y → Wp p e below s K N Q T (mkF m nx Ls st)) : Wp p e below s K N Q T (mkF m pc Ls (y :: x :: st)) := by
  obtain ⟨d, rfl, q1, q2⟩ := hd
  by_cases q : x = y
  · exact Wp.go (fun t kk => XT.acmpYes X.here hx rfl rfl (hb hby d) rfl hx' hy' (XT.aa_eq_t q) q1 q2 kk) (kt q)
  · exact Wp.go (fun t kk => XT.acmpNo X.here hx rfl (hb hby d) rfl hx' hy' (XT.aa_eq_f q) kk) (kf q)
theorem f_acmp_ne (X : Stand p l e R s m args below meth c T locs cells slots) (hx : p.tables.exec = Jvm.exec) (hby : c.code = bs) {x y : Addr} (hd : Jm bs pc (.if_acmp .ne o) o nx tg) (kt : ¬ x = y → Wp p e below s K N Q T (mkF m tg Ls st)) (kf : x = y → Wp p e below s K N Q T (mkF m nx Ls st)) : Wp p e below s K N Q T (mkF m pc Ls (.ref y :: .ref x :: st)) := by
  obtain ⟨d, rfl, q1, q2⟩ := hd
  by_cases q : x = y
  · exact Wp.go (fun t kk => XT.acmpNo X.here hx rfl (hb hby d) rfl rfl rfl (XT.aa_ne_f (congrArg Value.ref q)) kk) (kf q)
  · exact Wp.go (fun t kk => XT.acmpYes X.here hx rfl rfl (hb hby d) rfl rfl rfl (XT.aa_ne_t (fun r => q (Value.ref.inj r))) q1 q2 kk) (kt q)
theorem f_acmpV_ne (X : Stand p l e R s m args below meth c T locs cells slots) (hx : p.tables.exec = Jvm.exec) (hby : c.code = bs) {x y : Value} (hx' : x.isRef = true) (hy' : y.isRef = true) (hd : Jm bs pc (.if_acmp .ne o) o nx tg) (kt : ¬ x = y → Wp p e below s K N Q T (mkF m tg Ls st)) (kf : x = y → Wp p e below s K N Q T (mkF m nx Ls st)) : Wp p e below s K N Q T (mkF m pc Ls (y :: x :: st)) := by
  obtain ⟨d, rfl, q1, q2⟩ := hd
  by_cases q : x = y
  · exact Wp.go (fun t kk => XT.acmpNo X.here hx rfl (hb hby d) rfl hx' hy' (XT.aa_ne_f q) kk) (kf q)
  · exact Wp.go (fun t kk => XT.acmpYes X.here hx rfl rfl (hb hby d) rfl hx' hy' (XT.aa_ne_t q) q1 q2 kk) (kt q)
theorem w_lswHit (X : Stand p l e R s m args below meth c T locs cells slots) (hx : p.tables.exec = Jvm.exec) (hby : c.code = bs) {x : Int32} {df : Int} {ps : Array (Int × Int)} {len : Nat} {a off : Int} (hd : In bs pc (.lookupswitch df ps) len nx) (hs : (ps.toList.zip (ps.toList.drop 1)).all (fun (a, next) => a.1 < next.1) = true) (hf : ps.find? (·.1 == x.toInt) = some (a, off)) (ho : 0 ≤ (pc : Int) + off) (ht : ((pc : Int) + off).toNat = tg) (k : Wp p e below s K N Q T (mkF m tg Ls st)) : Wp p e below s K N Q T (mkF m pc Ls (.int x :: st)) := by
  obtain ⟨d, -⟩ := hd; subst ht; exact Wp.go (fun t kk => X.lookupswitchHit hx (g := mkF m pc Ls (.int x :: st)) rfl rfl (hb hby d) hs hf ho t kk) k
theorem w_lswMiss (X : Stand p l e R s m args below meth c T locs cells slots) (hx : p.tables.exec = Jvm.exec) (hby : c.code = bs) {x : Int32} {df : Int} {ps : Array (Int × Int)} {len : Nat} (hd : In bs pc (.lookupswitch df ps) len nx) (hs : (ps.toList.zip (ps.toList.drop 1)).all (fun (a, next) => a.1 < next.1) = true) (hf : ps.find? (·.1 == x.toInt) = none) (ho : 0 ≤ (pc : Int) + df) (ht : ((pc : Int) + df).toNat = tg) (k : Wp p e below s K N Q T (mkF m tg Ls st)) : Wp p e below s K N Q T (mkF m pc Ls (.int x :: st)) := by
  obtain ⟨d, -⟩ := hd; subst ht; exact Wp.go (fun t kk => X.lookupswitchMiss hx (g := mkF m pc Ls (.int x :: st)) rfl rfl (hb hby d) hs hf ho t kk) k
theorem w_tswIn (X : Stand p l e R s m args below meth c T locs cells slots) (hx : p.tables.exec = Jvm.exec) (hby : c.code = bs) {x : Int32} {df lo hi : Int} {os : Array Int} {len : Nat} {off : Int} (hd : In bs pc (.tableswitch df lo hi os) len nx) (hin : ¬ (x.toInt < lo ∨ x.toInt > hi)) (hoff : os[(x.toInt - lo).toNat]? = some off) (ho : 0 ≤ (pc : Int) + off) (ht : ((pc : Int) + off).toNat = tg) (k : Wp p e below s K N Q T (mkF m tg Ls st)) : Wp p e below s K N Q T (mkF m pc Ls (.int x :: st)) := by
  obtain ⟨d, -⟩ := hd; exact Wp.go (fun t kk => XS.tswIn X.here hx rfl rfl (hb hby d) rfl hin hoff ho ht kk) k
theorem w_tswOut (X : Stand p l e R s m args below meth c T locs cells slots) (hx : p.tables.exec = Jvm.exec) (hby : c.code = bs) {x : Int32} {df lo hi : Int} {os : Array Int} {len : Nat} (hd : In bs pc (.tableswitch df lo hi os) len nx) (hout : x.toInt < lo ∨ x.toInt > hi) (ho : 0 ≤ (pc : Int) + df) (ht : ((pc : Int) + df).toNat = tg) (k : Wp p e below s K N Q T (mkF m tg Ls st)) : Wp p e below s K N Q T (mkF m pc Ls (.int x :: st)) := by
  obtain ⟨d, -⟩ := hd; exact Wp.go (fun t kk => XS.tswOut X.here hx rfl rfl (hb hby d) rfl hout ho ht kk) k
theorem own_ne32 {x z : Int32} {i : Int} (h : ¬ x = z) (hz : z.toInt = i) : i ≠ x.toInt := fun q => h (Int32.toInt_inj.mp (by rw [hz, q]))
theorem w_ifnonnullRef (X : Stand p l e R s m args below meth c T locs cells slots) (hx : p.tables.exec = Jvm.exec) (hby : c.code = bs) {a : Addr} (hd : Jm bs pc (.ifnonnull o) o nx tg) (k : Wp p e below s K N Q T (mkF m tg Ls st)) : Wp p e below s K N Q T (mkF m pc Ls (.ref a :: st)) := by
  obtain ⟨d, -, q1, q2⟩ := hd; exact Wp.go (fun t kk => XS.ifnonnullYes X.here hx rfl rfl (hb hby d) rfl q1 q2 kk) k
theorem w_ifnonnullNull (X : Stand p l e R s m args below meth c T locs cells slots) (hx : p.tables.exec = Jvm.exec) (hby : c.code = bs) (hd : Jm bs pc (.ifnonnull o) o nx tg) (k : Wp p e below s K N Q T (mkF m nx Ls st)) : Wp p e below s K N Q T (mkF m pc Ls (.null :: st)) := by
  obtain ⟨d, rfl, q1, q2⟩ := hd; exact Wp.go (fun t kk => XS.ifnonnullNo X.here hx rfl (hb hby d) rfl kk) k
theorem w_ifnullRef (X : Stand p l e R s m args below meth c T locs cells slots) (hx : p.tables.exec = Jvm.exec) (hby : c.code = bs) {a : Addr} (hd : Jm bs pc (.ifnull o) o nx tg) (k : Wp p e below s K N Q T (mkF m nx Ls st)) : Wp p e below s K N Q T (mkF m pc Ls (.ref a :: st)) := by
  obtain ⟨d, rfl, q1, q2⟩ := hd; exact Wp.go (fun t kk => XS.ifnullNo X.here hx rfl (hb hby d) rfl kk) k
theorem w_ifnullNull (X : Stand p l e R s m args below meth c T locs cells slots) (hx : p.tables.exec = Jvm.exec) (hby : c.code = bs) (hd : Jm bs pc (.ifnull o) o nx tg) (k : Wp p e below s K N Q T (mkF m tg Ls st)) : Wp p e below s K N Q T (mkF m pc Ls (.null :: st)) := by
  obtain ⟨d, -, q1, q2⟩ := hd; exact Wp.go (fun t kk => XS.ifnullYes X.here hx rfl rfl (hb hby d) rfl q1 q2 kk) k
theorem w_ldcI (X : Stand p l e R s m args below meth c T locs cells slots) (hx : p.tables.exec = Jvm.exec) (hby : c.code = bs) (hZ : Z.Warmed39 s.vm) {own : String} (hown : s.vm.findClass own = some m.cls) {index : Nat} {v : Int32} (w : (Cond.constant own index v).before a0 Z = true) (hd : In bs pc (.ldc index) 2 nx) (k : Wp p e below s K N Q T (mkF m nx Ls (.int v :: st))) : Wp p e below s K N Q T (mkF m pc Ls st) := by
  obtain ⟨d, rfl⟩ := hd; exact Wp.go (fun t kk => X.ldcInt hx hown (mvT hZ w) (g := mkF m pc Ls st) rfl (hb hby d) t kk) k
theorem w_ldcwI (X : Stand p l e R s m args below meth c T locs cells slots) (hx : p.tables.exec = Jvm.exec) (hby : c.code = bs) (hZ : Z.Warmed39 s.vm) {own : String} (hown : s.vm.findClass own = some m.cls) {index : Nat} {v : Int32} (w : (Cond.constant own index v).before a0 Z = true) (hd : In bs pc (.ldc_w index) 3 nx) (k : Wp p e below s K N Q T (mkF m nx Ls (.int v :: st))) : Wp p e below s K N Q T (mkF m pc Ls st) := by
  obtain ⟨d, rfl⟩ := hd; exact Wp.go (fun t kk => X.ldcWI hx hown (mvT hZ w) (g := mkF m pc Ls st) rfl (hb hby d) kk) k
theorem w_ldc2J (X : Stand p l e R s m args below meth c T locs cells slots) (hx : p.tables.exec = Jvm.exec) (hby : c.code = bs) (hZ : Z.Warmed39 s.vm) {own : String} (hown : s.vm.findClass own = some m.cls) {index : Nat} {v : Int64} (w : (Cond.constantLong own index v).before a0 Z = true) (hd : In bs pc (.ldc2_w index) 3 nx) (k : Wp p e below s K N Q T (mkF m nx Ls (.long v :: st))) : Wp p e below s K N Q T (mkF m pc Ls st) := by
  obtain ⟨d, rfl⟩ := hd; exact Wp.go (fun t kk => X.ldc2Long hx hown (mvT hZ w) (g := mkF m pc Ls st) rfl (hb hby d) t kk) k
theorem w_getS (X : Stand p l e R s m args below meth c T locs cells slots) (hx : p.tables.exec = Jvm.exec) (hby : c.code = bs) (hZ : Z.Warmed39 s.vm) {own : String} (hown : s.vm.findClass own = some m.cls) {R0 C n d host : String} {index : Nat} (w : (Cond.fieldLink own index R0 n d).before a0 Z = true ∨ (Cond.fieldLinkNest own index R0 n d host).before a0 Z = true) (via : Via Z R0 C n d) (eT : T.heap = h) {v : Value} (F : Sta Z h C n d v) (hd : In bs pc (.getstatic index) 3 nx) (k : ∀ T', Stand p l e R s m args below meth c T' locs cells slots → T'.heap = h → Wp p e below s K N Q T' (mkF m nx Ls (v :: st))) : Wp p e below s K N Q T (mkF m pc Ls st) := by
  obtain ⟨d, rfl⟩ := hd; obtain ⟨T', X', e', st'⟩ := getS2 X hx hZ hown w via eT F (g := mkF m pc Ls st) rfl (hb hby d); exact Wp.go st' (k T' X' e')
theorem w_getF (X : Stand p l e R s m args below meth c T locs cells slots) (hx : p.tables.exec = Jvm.exec) (hby : c.code = bs) (hZ : Z.Warmed39 s.vm) {own : String} (hown : s.vm.findClass own = some m.cls) {R0 C n d host : String} {index : Nat} (w : (Cond.fieldLink own index R0 n d).before a0 Z = true ∨ (Cond.fieldLinkNest own index R0 n d host).before a0 Z = true) (via : Via Z R0 C n d) (eT : T.heap = h) {a : Addr} {v : Value} (F : Fld Z h a C n d v) (hd : In bs pc (.getfield index) 3 nx) (k : ∀ T', Stand p l e R s m args below meth c T' locs cells slots → T'.heap = h → Wp p e below s K N Q T' (mkF m nx Ls (v :: st))) : Wp p e below s K N Q T (mkF m pc Ls (.ref a :: st)) := by
  obtain ⟨d, rfl⟩ := hd; obtain ⟨T', X', e', st'⟩ := getF X hx hZ hown w via eT F (g := mkF m pc Ls (.ref a :: st)) rfl rfl (hb hby d); exact Wp.go st' (k T' X' e')
theorem w_putF (X : Stand p l e R s m args below meth c T locs cells slots) (hx : p.tables.exec = Jvm.exec) (hby : c.code = bs) (hZ : Z.Warmed39 s.vm) {own : String} (hown : s.vm.findClass own = some m.cls) {R0 C n d host D : String} {index kk : Nat} {ty : FieldType} (w : (Cond.fieldLink own index R0 n d).before a0 Z = true ∨ (Cond.fieldLinkNest own index R0 n d host).before a0 Z = true) (via : Via Z R0 C n d) (eT : T.heap = h) {a : Addr} {v old : Value} (F : Fld Z h a C n d old) (E : Exa Z h a D) (Lw : (Cond.lays D C n d).before a0 Z = true ∨ ((Cond.laysFinal D C n d).before a0 Z = true ∧ own = C ∧ meth.name = "<init>")) (wi : (Cond.instantiable D kk).before a0 Z = true) (hty : parseFieldDescriptor d = some ty) (hn : narrow ty v = v) (hf : fits ty v = true) (hd : In bs pc (.putfield index) 3 nx) (k : ∀ T' h', Stand p l e R s m args below meth c T' (locs ++ [⟨a, Jvm.RoadKit.slotOf Z C n d⟩]) cells slots → T'.heap = h' → Wr h h' a (Jvm.RoadKit.slotOf Z C n d) v → Wp p e below s K N Q T' (mkF m nx Ls st)) : Wp p e below s K N Q T (mkF m pc Ls (v :: .ref a :: st)) := by
  obtain ⟨d, rfl⟩ := hd; obtain ⟨T', h', X', e', W', st'⟩ := putF X hx hZ hown w via eT F E Lw wi hty hn hf (g := mkF m pc Ls (v :: .ref a :: st)) rfl rfl (hb hby d); exact Wp.go st' (k T' h' X' e' W')
theorem w_putFN (X : Stand p l e R s m args below meth c T locs cells slots) (hx : p.tables.exec = Jvm.exec) (hby : c.code = bs) (hZ : Z.Warmed39 s.vm) {own : String} (hown : s.vm.findClass own = some m.cls) {R0 C n d D : String} {index kk : Nat} {ty : FieldType} (w : (Cond.fieldLink own index R0 n d).before a0 Z = true) (via : Via Z R0 C n d) (eT : T.heap = h) {a : Addr} {v v' old : Value} (F : Fld Z h a C n d old) (E : Exa Z h a D) (Lw : (Cond.lays D C n d).before a0 Z = true ∨ ((Cond.laysFinal D C n d).before a0 Z = true ∧ own = C ∧ meth.name = "<init>")) (wi : (Cond.instantiable D kk).before a0 Z = true) (hty : parseFieldDescriptor d = some ty) (hn : narrow ty v = v') (hf : fits ty v' = true) (hd : In bs pc (.putfield index) 3 nx) (k : ∀ T' h', Stand p l e R s m args below meth c T' (locs ++ [⟨a, Jvm.RoadKit.slotOf Z C n d⟩]) cells slots → T'.heap = h' → Wr h h' a (Jvm.RoadKit.slotOf Z C n d) v' → Wp p e below s K N Q T' (mkF m nx Ls st)) : Wp p e below s K N Q T (mkF m pc Ls (v :: .ref a :: st)) := by
  obtain ⟨d, rfl⟩ := hd; obtain ⟨T', h', X', e', W', st'⟩ := putFN X hx hZ hown w via eT F E Lw wi hty hn hf (g := mkF m pc Ls (v :: .ref a :: st)) rfl rfl (hb hby d); exact Wp.go st' (k T' h' X' e' W')
theorem w_newO (X : Stand p l e R s m args below meth c T locs cells slots) (hx : p.tables.exec = Jvm.exec) (hby : c.code = bs) (hZ : Z.Warmed39 s.vm) {own : String} (hown : s.vm.findClass own = some m.cls) {C : String} {index n : Nat} (w : (Cond.classLink own index C).before a0 Z = true) (wi : (Cond.instantiable C n).before a0 Z = true) (wz : (Cond.initialized C).before a0 Z = true) (eT : T.heap = h) (hd : In bs pc (.new index) 3 nx) (hc : cells + 1 ≤ R.cells) (hl : slots + n ≤ R.slots) (k : ∀ T' h' a, a = h.size → Stand p l e R s m args below meth c T' locs (cells + 1) (slots + n) → T'.heap = h' → Ext h h' → Exa Z h' a C → (∀ {D nm d : String} {ty : FieldType}, Laid Z a0 C D nm d → parseFieldDescriptor d = some ty → Fld Z h' a D nm d (defaultValue ty)) → Wp p e below s K N Q T' (mkF m nx Ls (.ref a :: st))) : Wp p e below s K N Q T (mkF m pc Ls st) := by
  obtain ⟨d, rfl⟩ := hd; obtain ⟨T', h', X', e', E', A', D', -, st'⟩ := newO X hx hZ hown w wi wz eT (g := mkF m pc Ls st) rfl (hb hby d) hc hl; exact Wp.go st' (k T' h' _ rfl X' e' E' A' D')
theorem w_newP (X : Stand p l e R s m args below meth c T locs cells slots) (hx : p.tables.exec = Jvm.exec) (hby : c.code = bs) (hZ : Z.Warmed39 s.vm) {aty : ArrayType} (w : (Cond.arrayClass (newarray.typeOf aty)).before a0 Z = true) (eT : T.heap = h) {n : Int32} (hd : In bs pc (.newarray aty) 2 nx) (hn : ¬ n < 0) (cap : Nat) (hcap : n.toNatClampNeg ≤ cap) (hbig : cap * 8 ≤ 536870912) (hc : cells + 1 ≤ R.cells) (hl : slots + cap ≤ R.slots) (k : ∀ T' h' a kA, a = h.size → Stand p l e R s m args below meth c T' locs (cells + 1) (slots + cap) → T'.heap = h' → Ext h h' → Arr Z h' a (newA kA (newarray.typeOf aty) n) (newarray.typeOf aty) → Wp p e below s K N Q T' (mkF m nx Ls (.ref a :: st))) : Wp p e below s K N Q T (mkF m pc Ls (.int n :: st)) := by
  obtain ⟨d, rfl⟩ := hd; obtain ⟨T', h', kA, X', e', E', A', st'⟩ := newP X hx hZ w eT (g := mkF m pc Ls (.int n :: st)) rfl (hb hby d) rfl hn hcap hbig hc hl; exact Wp.go st' (k T' h' _ kA rfl X' e' E' A')
theorem w_newR (X : Stand p l e R s m args below meth c T locs cells slots) (hx : p.tables.exec = Jvm.exec) (hby : c.code = bs) (hZ : Z.Warmed39 s.vm) {own : String} (hown : s.vm.findClass own = some m.cls) {C : String} {index : Nat} (w1 : (Cond.classLink own index C).before a0 Z = true) (w2 : (Cond.arrayOver (.object C)).before a0 Z = true) (eT : T.heap = h) {n : Int32} (hd : In bs pc (.anewarray index) 3 nx) (hn : ¬ n < 0) (cap : Nat) (hcap : n.toNatClampNeg ≤ cap) (hbig : cap * 8 ≤ 536870912) (hc : cells + 1 ≤ R.cells) (hl : slots + cap ≤ R.slots) (k : ∀ T' h' a kA, a = h.size → Stand p l e R s m args below meth c T' locs (cells + 1) (slots + cap) → T'.heap = h' → Ext h h' → Arr Z h' a (newA kA (.object C) n) (.object C) → Ovr Z kA C → Wp p e below s K N Q T' (mkF m nx Ls (.ref a :: st))) : Wp p e below s K N Q T (mkF m pc Ls (.int n :: st)) := by
  obtain ⟨d, rfl⟩ := hd; obtain ⟨T', h', kA, X', e', E', A', O', st'⟩ := newR X hx hZ hown w1 w2 eT (g := mkF m pc Ls (.int n :: st)) rfl (hb hby d) rfl hn hcap hbig hc hl; exact Wp.go st' (k T' h' _ kA rfl X' e' E' A' O')
theorem w_stI (X : Stand p l e R s m args below meth c T locs cells slots) (hx : p.tables.exec = Jvm.exec) (hby : c.code = bs) (hZ : Z.Warmed39 s.vm) (eT : T.heap = h) {a : Addr} {cl : Cell} (A : Arr Z h a cl .int) {j : Int32} {x : Int32} (hj : ¬ (j < 0 ∨ cl.slots.size ≤ j.toNatClampNeg)) (hd : In bs pc .iastore 1 nx) (k : ∀ T' h', Stand p l e R s m args below meth c T' (locs ++ [⟨a, j.toNatClampNeg⟩]) cells slots → T'.heap = h' → Wr h h' a j.toNatClampNeg (.int x) → Wp p e below s K N Q T' (mkF m nx Ls st)) : Wp p e below s K N Q T (mkF m pc Ls (.int x :: .int j :: .ref a :: st)) := by
  obtain ⟨d, rfl⟩ := hd; obtain ⟨T', h', X', e', W', st'⟩ := stI X hx hZ eT A hj (g := mkF m pc Ls (.int x :: .int j :: .ref a :: st)) rfl rfl (hb hby d); exact Wp.go st' (k T' h' X' e' W')
theorem w_stJ (X : Stand p l e R s m args below meth c T locs cells slots) (hx : p.tables.exec = Jvm.exec) (hby : c.code = bs) (hZ : Z.Warmed39 s.vm) (eT : T.heap = h) {a : Addr} {cl : Cell} (A : Arr Z h a cl .long) {j : Int32} {x : Int64} (hj : ¬ (j < 0 ∨ cl.slots.size ≤ j.toNatClampNeg)) (hd : In bs pc .lastore 1 nx) (k : ∀ T' h', Stand p l e R s m args below meth c T' (locs ++ [⟨a, j.toNatClampNeg⟩]) cells slots → T'.heap = h' → Wr h h' a j.toNatClampNeg (.long x) → Wp p e below s K N Q T' (mkF m nx Ls st)) : Wp p e below s K N Q T (mkF m pc Ls (.long x :: .int j :: .ref a :: st)) := by
  obtain ⟨d, rfl⟩ := hd; obtain ⟨T', h', X', e', W', st'⟩ := stJ X hx hZ eT A hj (g := mkF m pc Ls (.long x :: .int j :: .ref a :: st)) rfl rfl (hb hby d); exact Wp.go st' (k T' h' X' e' W')
theorem w_stC (X : Stand p l e R s m args below meth c T locs cells slots) (hx : p.tables.exec = Jvm.exec) (hby : c.code = bs) (hZ : Z.Warmed39 s.vm) (eT : T.heap = h) {a : Addr} {cl : Cell} (A : Arr Z h a cl .char) {j : Int32} {x : Int32} (hj : ¬ (j < 0 ∨ cl.slots.size ≤ j.toNatClampNeg)) (hd : In bs pc .castore 1 nx) (k : ∀ T' h', Stand p l e R s m args below meth c T' (locs ++ [⟨a, j.toNatClampNeg⟩]) cells slots → T'.heap = h' → Wr h h' a j.toNatClampNeg (.int (nar .char x)) → Wp p e below s K N Q T' (mkF m nx Ls st)) : Wp p e below s K N Q T (mkF m pc Ls (.int x :: .int j :: .ref a :: st)) := by
  obtain ⟨d, rfl⟩ := hd; obtain ⟨T', h', X', e', W', st'⟩ := stC X hx hZ eT A hj (g := mkF m pc Ls (.int x :: .int j :: .ref a :: st)) rfl rfl (hb hby d); exact Wp.go st' (k T' h' X' e' W')
theorem w_stB (X : Stand p l e R s m args below meth c T locs cells slots) (hx : p.tables.exec = Jvm.exec) (hby : c.code = bs) (hZ : Z.Warmed39 s.vm) (eT : T.heap = h) {a : Addr} {cl : Cell} (A : Arr Z h a cl .byte) {j : Int32} {x : Int32} (hj : ¬ (j < 0 ∨ cl.slots.size ≤ j.toNatClampNeg)) (hd : In bs pc .bastore 1 nx) (k : ∀ T' h', Stand p l e R s m args below meth c T' (locs ++ [⟨a, j.toNatClampNeg⟩]) cells slots → T'.heap = h' → Wr h h' a j.toNatClampNeg (.int (nar .byte x)) → Wp p e below s K N Q T' (mkF m nx Ls st)) : Wp p e below s K N Q T (mkF m pc Ls (.int x :: .int j :: .ref a :: st)) := by
  obtain ⟨d, rfl⟩ := hd; obtain ⟨T', h', X', e', W', st'⟩ := stB X hx hZ eT A hj (g := mkF m pc Ls (.int x :: .int j :: .ref a :: st)) rfl rfl (hb hby d); exact Wp.go st' (k T' h' X' e' W')
theorem w_stZ (X : Stand p l e R s m args below meth c T locs cells slots) (hx : p.tables.exec = Jvm.exec) (hby : c.code = bs) (hZ : Z.Warmed39 s.vm) (eT : T.heap = h) {a : Addr} {cl : Cell} (A : Arr Z h a cl .boolean) {j : Int32} {x : Int32} (hj : ¬ (j < 0 ∨ cl.slots.size ≤ j.toNatClampNeg)) (hd : In bs pc .bastore 1 nx) (k : ∀ T' h', Stand p l e R s m args below meth c T' (locs ++ [⟨a, j.toNatClampNeg⟩]) cells slots → T'.heap = h' → Wr h h' a j.toNatClampNeg (.int (nar .boolean x)) → Wp p e below s K N Q T' (mkF m nx Ls st)) : Wp p e below s K N Q T (mkF m pc Ls (.int x :: .int j :: .ref a :: st)) := by
  obtain ⟨d, rfl⟩ := hd; obtain ⟨T', h', X', e', W', st'⟩ := stZ X hx hZ eT A hj (g := mkF m pc Ls (.int x :: .int j :: .ref a :: st)) rfl rfl (hb hby d); exact Wp.go st' (k T' h' X' e' W')
theorem w_stR (X : Stand p l e R s m args below meth c T locs cells slots) (hx : p.tables.exec = Jvm.exec) (hby : c.code = bs) (hZ : Z.Warmed39 s.vm) (eT : T.heap = h) {a : Addr} {cl : Cell} {ty : FieldType} (A : Arr Z h a cl ty) {j : Int32} {v : Value} (hj : ¬ (j < 0 ∨ cl.slots.size ≤ j.toNatClampNeg)) (hty : ty.isReference = true) (F : Sto Z h a v) (hd : In bs pc .aastore 1 nx) (k : ∀ T' h', Stand p l e R s m args below meth c T' (locs ++ [⟨a, j.toNatClampNeg⟩]) cells slots → T'.heap = h' → Wr h h' a j.toNatClampNeg v → Wp p e below s K N Q T' (mkF m nx Ls st)) : Wp p e below s K N Q T (mkF m pc Ls (v :: .int j :: .ref a :: st)) := by
  obtain ⟨d, rfl⟩ := hd; obtain ⟨T', h', X', e', W', st'⟩ := stR X hx hZ eT A hj hty F (g := mkF m pc Ls (v :: .int j :: .ref a :: st)) rfl rfl (hb hby d); exact Wp.go st' (k T' h' X' e' W')
theorem w_iaload (X : Stand p l e R s m args below meth c T locs cells slots) (hx : p.tables.exec = Jvm.exec) (hby : c.code = bs) (hZ : Z.Warmed39 s.vm) (eT : T.heap = h) {a : Addr} {cl : Cell} (A : Arr Z h a cl .int) {j : Int32} {v : Value} (hj : ¬ (j < 0 ∨ cl.slots.size ≤ j.toNatClampNeg)) (hv : cl.slots[j.toNatClampNeg]? = some v) (hd : In bs pc .iaload 1 nx) (k : Wp p e below s K N Q T (mkF m nx Ls (v :: st))) : Wp p e below s K N Q T (mkF m pc Ls (.int j :: .ref a :: st)) := by
  obtain ⟨d, rfl⟩ := hd; exact Wp.go (fun t kk => X.iaload hx (by rw [eT]; exact A.1) (State.isArrayOf_alike hZ.alike A.2.1) A.2.2 hj hv (g := mkF m pc Ls (.int j :: .ref a :: st)) rfl rfl (hb hby d) t kk) k
theorem w_laload (X : Stand p l e R s m args below meth c T locs cells slots) (hx : p.tables.exec = Jvm.exec) (hby : c.code = bs) (hZ : Z.Warmed39 s.vm) (eT : T.heap = h) {a : Addr} {cl : Cell} (A : Arr Z h a cl .long) {j : Int32} {v : Value} (hj : ¬ (j < 0 ∨ cl.slots.size ≤ j.toNatClampNeg)) (hv : cl.slots[j.toNatClampNeg]? = some v) (hd : In bs pc .laload 1 nx) (k : Wp p e below s K N Q T (mkF m nx Ls (v :: st))) : Wp p e below s K N Q T (mkF m pc Ls (.int j :: .ref a :: st)) := by
  obtain ⟨d, rfl⟩ := hd; exact Wp.go (fun t kk => X.laload hx (by rw [eT]; exact A.1) (State.isArrayOf_alike hZ.alike A.2.1) A.2.2 hj hv (g := mkF m pc Ls (.int j :: .ref a :: st)) rfl rfl (hb hby d) t kk) k
theorem w_caload (X : Stand p l e R s m args below meth c T locs cells slots) (hx : p.tables.exec = Jvm.exec) (hby : c.code = bs) (hZ : Z.Warmed39 s.vm) (eT : T.heap = h) {a : Addr} {cl : Cell} (A : Arr Z h a cl .char) {j : Int32} {v : Value} (hj : ¬ (j < 0 ∨ cl.slots.size ≤ j.toNatClampNeg)) (hv : cl.slots[j.toNatClampNeg]? = some v) (hd : In bs pc .caload 1 nx) (k : Wp p e below s K N Q T (mkF m nx Ls (v :: st))) : Wp p e below s K N Q T (mkF m pc Ls (.int j :: .ref a :: st)) := by
  obtain ⟨d, rfl⟩ := hd; exact Wp.go (fun t kk => X.caload hx (by rw [eT]; exact A.1) (State.isArrayOf_alike hZ.alike A.2.1) A.2.2 hj hv (g := mkF m pc Ls (.int j :: .ref a :: st)) rfl rfl (hb hby d) t kk) k
theorem w_baload (X : Stand p l e R s m args below meth c T locs cells slots) (hx : p.tables.exec = Jvm.exec) (hby : c.code = bs) (hZ : Z.Warmed39 s.vm) (eT : T.heap = h) {a : Addr} {cl : Cell} (A : Arr Z h a cl .byte) {j : Int32} {v : Value} (hj : ¬ (j < 0 ∨ cl.slots.size ≤ j.toNatClampNeg)) (hv : cl.slots[j.toNatClampNeg]? = some v) (hd : In bs pc .baload 1 nx) (k : Wp p e below s K N Q T (mkF m nx Ls (v :: st))) : Wp p e below s K N Q T (mkF m pc Ls (.int j :: .ref a :: st)) := by
  obtain ⟨d, rfl⟩ := hd; exact Wp.go (fun t kk => X.baloadBytes hx (by rw [eT]; exact A.1) (State.isArrayOf_alike hZ.alike A.2.1) A.2.2 hj hv (g := mkF m pc Ls (.int j :: .ref a :: st)) rfl rfl (hb hby d) t kk) k
theorem w_aaload (X : Stand p l e R s m args below meth c T locs cells slots) (hx : p.tables.exec = Jvm.exec) (hby : c.code = bs) (hZ : Z.Warmed39 s.vm) (eT : T.heap = h) {a : Addr} {cl : Cell} {ty : FieldType} (A : Arr Z h a cl ty) (hty : ty.isReference = true) {j : Int32} {v : Value} (hj : ¬ (j < 0 ∨ cl.slots.size ≤ j.toNatClampNeg)) (hv : cl.slots[j.toNatClampNeg]? = some v) (hd : In bs pc .aaload 1 nx) (k : Wp p e below s K N Q T (mkF m nx Ls (v :: st))) : Wp p e below s K N Q T (mkF m pc Ls (.int j :: .ref a :: st)) := by
  obtain ⟨d, rfl⟩ := hd; exact Wp.go (fun t kk => X.aaload hx (by rw [eT]; exact A.1) (State.isArrayOf_alike hZ.alike A.2.1) hty A.2.2 hj hv (g := mkF m pc Ls (.int j :: .ref a :: st)) rfl rfl (hb hby d) t kk) k
theorem w_arraylength (X : Stand p l e R s m args below meth c T locs cells slots) (hx : p.tables.exec = Jvm.exec) (hby : c.code = bs) (hZ : Z.Warmed39 s.vm) (eT : T.heap = h) {a : Addr} {cl : Cell} {ty : FieldType} (A : Arr Z h a cl ty) {z : Int32} (hz : cl.slots.size.toInt32 = z) (hd : In bs pc .arraylength 1 nx) (k : Wp p e below s K N Q T (mkF m nx Ls (.int z :: st))) : Wp p e below s K N Q T (mkF m pc Ls (.ref a :: st)) := by
  obtain ⟨d, rfl⟩ := hd; subst hz; exact Wp.go (fun t kk => X.arraylength hx (by rw [eT]; exact A.1) (State.isArrayOf_alike hZ.alike A.2.1) (g := mkF m pc Ls (.ref a :: st)) rfl rfl (hb hby d) t kk) k
theorem w_initO (X : Stand p l e R s m args below meth c T locs cells slots) (hx : p.tables.exec = Jvm.exec) (hby : c.code = bs) (hZ : Z.Warmed39 s.vm) {own : String} (hown : s.vm.findClass own = some m.cls) (hml : Ls.size = c.maxLocals) {idx : Nat} (w1 : (Cond.methodLink own idx Lib.objectInit).before a0 Z = true) (w2 : (Cond.instanceMethod Lib.objectInit).before a0 Z = true) (w3 : (Cond.code Lib.objectInit ⟨#[0xb1]⟩ 1 none).before a0 Z = true) (eT : T.heap = h) {a : Addr} (hd : In bs pc (.invokespecial idx) 3 nx) (hf : 1 ≤ R.frames) {Wd : Nat} (hW : (st.map fun v => v.category).sum = Wd) (hl : Wd + 12 ≤ R.locals) (k : ∀ T', Stand p l e R s m args below meth c T' locs cells slots → T'.heap = h → Wp p e below s K N Q T' (mkF m nx Ls st)) : Wp p e below s K N Q T (mkF m pc Ls (.ref a :: st)) := by
  obtain ⟨d, rfl⟩ := hd; obtain ⟨T', X', e', st'⟩ := initO X hx hZ hown w1 w2 w3 eT (g := mkF m pc Ls (.ref a :: st)) rfl hml rfl (hb hby d) hf (W := Wd) (by show 2 * 0 + _ ≤ _; omega) hl; exact Wp.go st' (k T' X' e')
/-- a body's contract: called on as' at the heap h it returns as Q says, within the room rm -/
def Con (l : Launch) (Z : State) (y : MethodName) (bs : ByteArray) (ml : Nat) (rt : Option FieldType) (rm : Room) (as' : Array Value) (h : Heap) (Q : Option Value → Heap → List Loc → Prop) : Prop :=
  ∀ ws : List Jvm.Cond, MetFree l y (head1 (Jvm.Cond.code y bs ml rt :: ws) rm) (fun a U => a = as' ∧ Z.Warmed39 U.vm ∧ U.heap = h) (fun _ _ _ _ _ => True) (fun _ U o U' => ∃ v L, o = .returned v ∧ Q v U'.heap L ∧ FrameEnd U o U' L rm.cells rm.slots)
theorem w_body {y : MethodName} {ml : Nat} {rt : Option FieldType} {rm : Room} {as' : Array Value} (hy : plainFor y = true) (hf : ∀ m, entryFrame m as' ml = mkF m 0 Ls [])
    (k : ∀ (p : Program) (e : Env) (s : State) (m : MethodId) (below : List Frame) (meth : Method) (c : Code) (T : State), Stand p l e rm s m as' below meth c T [] 0 0 → p.tables.exec = Jvm.exec → c.code = bs → c.maxLocals = ml → s.vm.findClass y.cls = some m.cls → meth.name = y.name → meth.sig.returnType = rt → meth.locks = false → Z.Warmed39 s.vm → T.heap = h → Wp p e below s rm.cells rm.slots Q T (mkF m 0 Ls [])) : Con l Z y bs ml rt rm as' h Q := by
  intro ws
  refine MetFree.of_bodySF hy hisR ?_
  intro p e s m args below meth c s₁ Bd hml0 hP hK
  obtain ⟨rfl, hZ, hh⟩ := hP
  have e0 : s₁.heap = h := by rw [← hh, Bd.state]; rfl
  rw [hf m]
  exact k p e s m below meth c s₁ (Stand.of_body Bd) Bd.exec Bd.bytes hml0 (findClass_of_methodNamed Bd.named) (name_of_methodNamed Bd.named Bd.method).1 Bd.returns (BodyLoose.notSynchronized Bd) hZ e0
/-- what a call leaves -/
def Called (p : Program) (l : Launch) (e : Env) (R : Room) (s : State) (m : MethodId) (args : Array Value) (below : List Frame) (meth : Method) (c : Code) (T : State) (locs : List Loc) (cells slots : Nat) (rm : Room) (Qc : Option Value → Heap → List Loc → Prop) (pc nx : Nat) (Ls : Array Slot) (stk rest : List Value) : Prop :=
  ∃ v T' L, Stand p l e R s m args below meth c T' (locs ++ L) (cells + rm.cells) (slots + rm.slots) ∧ Qc v T'.heap L ∧ Steps p.tables e below (T.setTop (mkF m pc Ls stk)) (T'.setTop (mkF m nx Ls (v.toList ++ rest)))
theorem call_S (X : Stand p l e R s m args below meth c T locs cells slots) (hx : p.tables.exec = Jvm.exec) (hby : c.code = bs) (hZ : Z.Warmed39 s.vm) {own : String} (hown : s.vm.findClass own = some m.cls) {y : MethodName} {ml : Nat} {rt : Option FieldType} {rm : Room} {as' : Array Value} {Qc : Option Value → Heap → List Loc → Prop} {index : Nat} {argsL rest : List Value} {Wd : Nat} {bs' : ByteArray} (w1 : (Cond.methodLink own index y).before a0 Z = true) (w2 : (Cond.static y).before a0 Z = true) (wz : (Cond.initialized y.cls).before a0 Z = true) (wc : (Cond.code y bs' ml rt).before a0 Z = true) (hy : y.cls ≠ "java/lang/invoke/MethodHandle" ∧ y.cls ≠ "java/lang/invoke/VarHandle") (con : Con l Z y bs' ml rt rm as' h Qc) (ha : argsL.toArray = as') (hd : In bs pc (.invokestatic index) 3 nx) (hsz : Ls.size = c.maxLocals) (hlen : ∀ sig, parseMethodDescriptor y.desc = some sig → argsL.length = sig.parameters.length) (hW : (rest.map fun v => v.category).sum = Wd) (hfr : rm.frames + 1 ≤ R.frames) (hlo : Wd + (ml + 11) + rm.locals ≤ R.locals) (hce : cells + rm.cells ≤ R.cells) (hso : slots + rm.slots ≤ R.slots) (eT : T.heap = h) : Called p l e R s m args below meth c T locs cells slots rm Qc pc nx Ls (argsL.reverse ++ rest) rest := by
  obtain ⟨d, rfl⟩ := hd
  obtain ⟨v, vm, ⟨T', L', k', n'⟩, -, X', ⟨L, q, l', y', z'⟩, st'⟩ := Jvm.LawKit.callS X hx (y := y) hown (mvT hZ w1) (mvT hZ w2) (mvT hZ wz) (mvT hZ wc) hy (backOf (W := Wd) (con []) hZ wc wz hfr hlo) (g := mkF m pc Ls (argsL.reverse ++ rest)) rfl hsz (argsL := argsL) (rest := rest) hlen rfl (by show 2 * 0 + _ ≤ _; omega) (hb hby d) (fun _ _ => ⟨ha, eT, hce, hso⟩)
  dsimp only [Pt.U, Pt.locs, Pt.cells, Pt.slots] at X' l' y' z' st' q
  subst l' y' z'
  exact ⟨v, T', L, X', q, st' _ (Steps.refl _)⟩
theorem call_N (X : Stand p l e R s m args below meth c T locs cells slots) (hx : p.tables.exec = Jvm.exec) (hby : c.code = bs) (hZ : Z.Warmed39 s.vm) {own : String} (hown : s.vm.findClass own = some m.cls) {y : MethodName} {ml : Nat} {rm : Room} {as' : Array Value} {Qc : Option Value → Heap → List Loc → Prop} {index : Nat} {argsL rest : List Value} {Wd : Nat} {bs' : ByteArray} {a : Addr} (hn : y.name = "<init>") (w1 : (Cond.methodLink own index y).before a0 Z = true) (w2 : (Cond.instanceMethod y).before a0 Z = true) (wz : (Cond.initialized y.cls).before a0 Z = true) (wc : (Cond.code y bs' ml none).before a0 Z = true) (hy : y.cls ≠ "java/lang/invoke/MethodHandle" ∧ y.cls ≠ "java/lang/invoke/VarHandle") (con : Con l Z y bs' ml none rm as' h Qc) (ha : (.ref a :: argsL).toArray = as') (hd : In bs pc (.invokespecial index) 3 nx) (hsz : Ls.size = c.maxLocals) (hlen : ∀ sig, parseMethodDescriptor y.desc = some sig → argsL.length = sig.parameters.length) (hW : (rest.map fun v => v.category).sum = Wd) (hfr : rm.frames + 1 ≤ R.frames) (hlo : Wd + (ml + 11) + rm.locals ≤ R.locals) (hce : cells + rm.cells ≤ R.cells) (hso : slots + rm.slots ≤ R.slots) (eT : T.heap = h) : Called p l e R s m args below meth c T locs cells slots rm Qc pc nx Ls (argsL.reverse ++ .ref a :: rest) rest := by
  obtain ⟨d, rfl⟩ := hd
  obtain ⟨v, vm, ⟨T', L', k', n'⟩, -, X', ⟨L, q, l', y', z'⟩, st'⟩ := X.specialBack hx (y := y) hn hown (mvT hZ w1) (mvT hZ w2) (mvT hZ wc) hy (backOf (W := Wd) (con []) hZ wc wz hfr hlo) (g := mkF m pc Ls (argsL.reverse ++ .ref a :: rest)) rfl hsz (Steps.refl _) (a := a) (argsL := argsL) (rest := rest) hlen rfl (by show 2 * 0 + _ ≤ _; omega) (hb hby d) (fun _ _ => ⟨ha, eT, hce, hso⟩)
  dsimp only [Pt.U, Pt.locs, Pt.cells, Pt.slots] at X' l' y' z' st' q
  subst l' y' z'
  exact ⟨v, T', L, X', q, st'⟩
theorem call_V (X : Stand p l e R s m args below meth c T locs cells slots) (hx : p.tables.exec = Jvm.exec) (hby : c.code = bs) (hZ : Z.Warmed39 s.vm) {own : String} (hown : s.vm.findClass own = some m.cls) {y : MethodName} {ml : Nat} {rt : Option FieldType} {rm : Room} {as' : Array Value} {Qc : Option Value → Heap → List Loc → Prop} {index : Nat} {argsL rest : List Value} {Wd : Nat} {bs' : ByteArray} {a : Addr} {C : String} (w1 : (Cond.methodLink own index y).before a0 Z = true) (w2 : (Cond.declares y).before a0 Z = true) (w3 : (Cond.selects C y y).before a0 Z = true) (w4 : (Cond.instanceMethod y).before a0 Z = true) (wz : (Cond.initialized y.cls).before a0 Z = true) (wc : (Cond.code y bs' ml rt).before a0 Z = true) (hy : y.cls ≠ "java/lang/invoke/MethodHandle" ∧ y.cls ≠ "java/lang/invoke/VarHandle") (E : Exa Z h a C) (con : Con l Z y bs' ml rt rm as' h Qc) (ha : (.ref a :: argsL).toArray = as') (hd : In bs pc (.invokevirtual index) 3 nx) (hsz : Ls.size = c.maxLocals) (hlen : ∀ sig, parseMethodDescriptor y.desc = some sig → argsL.length = sig.parameters.length) (hW : (rest.map fun v => v.category).sum = Wd) (hfr : rm.frames + 1 ≤ R.frames) (hlo : Wd + (ml + 11) + rm.locals ≤ R.locals) (hce : cells + rm.cells ≤ R.cells) (hso : slots + rm.slots ≤ R.slots) (eT : T.heap = h) : Called p l e R s m args below meth c T locs cells slots rm Qc pc nx Ls (argsL.reverse ++ .ref a :: rest) rest := by
  obtain ⟨d, rfl⟩ := hd
  obtain ⟨cq, kq, qa, qb, qc⟩ := isOf hZ eT E
  obtain ⟨v, vm, ⟨T', L', k', n'⟩, -, X', ⟨L, q, l', y', z'⟩, st'⟩ := X.virtualBack hx (y := y) (z := y) hown (mvT hZ w1) (mvT hZ w2) (notFace_of_selects (args := #[]) (mvT hZ w3)) (mvT hZ w3) (mvT hZ w4) hy (backOf (W := Wd) (con []) hZ wc wz hfr hlo) qa qc (g := mkF m pc Ls (argsL.reverse ++ .ref a :: rest)) rfl hsz (Steps.refl _) (argsL := argsL) (rest := rest) hlen rfl (by show 2 * 0 + _ ≤ _; omega) (hb hby d) (fun _ _ => ⟨ha, eT, hce, hso⟩)
  dsimp only [Pt.U, Pt.locs, Pt.cells, Pt.slots] at X' l' y' z' st' q
  subst l' y' z'
  exact ⟨v, T', L, X', q, st'⟩
theorem call_U (X : Stand p l e R s m args below meth c T locs cells slots) (hx : p.tables.exec = Jvm.exec) (hby : c.code = bs) (hZ : Z.Warmed39 s.vm) {own : String} (hown : s.vm.findClass own = some m.cls) {y : MethodName} {ml : Nat} {rt : Option FieldType} {rm : Room} {as' : Array Value} {Qc : Option Value → Heap → List Loc → Prop} {index : Nat} {argsL rest : List Value} {Wd : Nat} {bs' : ByteArray} {x : MethodName} {a : Addr} {C owner : String} (w1 : (Cond.methodLink own index x).before a0 Z = true) (w2 : (Cond.sameMethod x.cls owner x.name x.desc).before a0 Z = true) (w5 : (Cond.declares ⟨owner, x.name, x.desc⟩).before a0 Z = true) (ho : owner ≠ "java/lang/invoke/MethodHandle" ∧ owner ≠ "java/lang/invoke/VarHandle") (w3 : (Cond.selects C x y).before a0 Z = true) (w4 : (Cond.instanceMethod y).before a0 Z = true) (wz : (Cond.initialized y.cls).before a0 Z = true) (wc : (Cond.code y bs' ml rt).before a0 Z = true) (E : Exa Z h a C) (con : Con l Z y bs' ml rt rm as' h Qc) (ha : (.ref a :: argsL).toArray = as') (hd : In bs pc (.invokevirtual index) 3 nx) (hsz : Ls.size = c.maxLocals) (hlen : ∀ sig, parseMethodDescriptor x.desc = some sig → argsL.length = sig.parameters.length) (hW : (rest.map fun v => v.category).sum = Wd) (hfr : rm.frames + 1 ≤ R.frames) (hlo : Wd + (ml + 11) + rm.locals ≤ R.locals) (hce : cells + rm.cells ≤ R.cells) (hso : slots + rm.slots ≤ R.slots) (eT : T.heap = h) : Called p l e R s m args below meth c T locs cells slots rm Qc pc nx Ls (argsL.reverse ++ .ref a :: rest) rest := by
  obtain ⟨d, rfl⟩ := hd
  obtain ⟨cq, kq, qa, qb, qc⟩ := isOf hZ eT E
  obtain ⟨v, vm, ⟨T', L', k', n'⟩, -, X', ⟨L, q, l', y', z'⟩, st'⟩ := X.virtualBackUp hx (x := x) (y := y) hown (mvT hZ w1) (mvT hZ w2) (mvT hZ w5) ho (mvT hZ w3) (mvT hZ w4) (backOf (W := Wd) (con []) hZ wc wz hfr hlo) qa qc (g := mkF m pc Ls (argsL.reverse ++ .ref a :: rest)) rfl hsz (Steps.refl _) (argsL := argsL) (rest := rest) hlen rfl (by show 2 * 0 + _ ≤ _; omega) (hb hby d) (fun _ _ => ⟨ha, eT, hce, hso⟩)
  dsimp only [Pt.U, Pt.locs, Pt.cells, Pt.slots] at X' l' y' z' st' q
  subst l' y' z'
  exact ⟨v, T', L, X', q, st'⟩
theorem call_NK (X : Stand p l e R s m args below meth c T locs cells slots) (hx : p.tables.exec = Jvm.exec) (hby : c.code = bs) (hZ : Z.Warmed39 s.vm) {own : String} (hown : s.vm.findClass own = some m.cls) {y : MethodName} {ml ck cs : Nat} {bs' : ByteArray} {as' : Array Value} {Qc : Option Value → Heap → List Loc → Prop} {index : Nat} {argsL rest : List Value} {Wd : Nat} {a : Addr} (hn : y.name = "<init>") (w1 : (Cond.methodLink own index y).before a0 Z = true) (w2 : (Cond.instanceMethod y).before a0 Z = true) (wc : (Cond.code y bs' ml none).before a0 Z = true) (hy : y.cls ≠ "java/lang/invoke/MethodHandle" ∧ y.cls ≠ "java/lang/invoke/VarHandle") (hK : Back l R p e below s args y 3 Wd (fun P a => a = as' ∧ P.U.heap = h ∧ P.cells + ck ≤ R.cells ∧ P.slots + cs ≤ R.slots) (fun P _ v B => ∃ L, Qc v B.U.heap L ∧ B.locs = P.locs ++ L ∧ B.cells = P.cells + ck ∧ B.slots = P.slots + cs)) (ha : (.ref a :: argsL).toArray = as') (hd : In bs pc (.invokespecial index) 3 nx) (hsz : Ls.size = c.maxLocals) (hlen : ∀ sig, parseMethodDescriptor y.desc = some sig → argsL.length = sig.parameters.length) (hW : (rest.map fun v => v.category).sum = Wd) (hce : cells + ck ≤ R.cells) (hso : slots + cs ≤ R.slots) (eT : T.heap = h) : Called p l e R s m args below meth c T locs cells slots ({ frames := 0, cells := ck, slots := cs, locals := 0 } : Room) Qc pc nx Ls (argsL.reverse ++ .ref a :: rest) rest := by
  obtain ⟨d, rfl⟩ := hd
  obtain ⟨v, vm, ⟨T', L', k', n'⟩, -, X', ⟨L, q, l', y', z'⟩, st'⟩ := X.specialBack hx (y := y) hn hown (mvT hZ w1) (mvT hZ w2) (mvT hZ wc) hy hK (g := mkF m pc Ls (argsL.reverse ++ .ref a :: rest)) rfl hsz (Steps.refl _) (a := a) (argsL := argsL) (rest := rest) hlen rfl (by show 2 * 0 + _ ≤ _; omega) (hb hby d) (fun _ _ => ⟨ha, eT, hce, hso⟩)
  dsimp only [Pt.U, Pt.locs, Pt.cells, Pt.slots] at X' l' y' z' st' q
  subst l' y' z'
  exact ⟨v, T', L, X', q, st'⟩
/-- behind a call -/
theorem w_called {rm : Room} {Qc : Option Value → Heap → List Loc → Prop} {stk rest : List Value} (hc : Called p l e R s m args below meth c T locs cells slots rm Qc pc nx Ls stk rest)
    (k : ∀ v T' L, Stand p l e R s m args below meth c T' (locs ++ L) (cells + rm.cells) (slots + rm.slots) → Qc v T'.heap L → Wp p e below s K N Q T' (mkF m nx Ls (v.toList ++ rest))) : Wp p e below s K N Q T (mkF m pc Ls stk) := by
  obtain ⟨v, T', L, X', q, st'⟩ := hc; exact Wp.tr st' (k v T' L X' q)
/-- behind a call that writes nothing and makes nothing -/
theorem w_calledp {rm : Room} {w : Value} {stk rest : List Value} (hc : Called p l e R s m args below meth c T locs cells slots rm (fun v h' L => v = some w ∧ h' = h ∧ L = []) pc nx Ls stk rest) (h1 : rm.cells = 0) (h2 : rm.slots = 0)
    (k : ∀ T', Stand p l e R s m args below meth c T' locs cells slots → T'.heap = h → Wp p e below s K N Q T' (mkF m nx Ls (w :: rest))) : Wp p e below s K N Q T (mkF m pc Ls stk) := by
  obtain ⟨v, T', L, X', ⟨rfl, q, rfl⟩, st'⟩ := hc
  rw [h1, h2, List.append_nil] at X'
  exact Wp.tr st' (k T' X' q)
theorem w_retI (X : Stand p l e R s m args below meth c T locs cells slots) (hx : p.tables.exec = Jvm.exec) (hby : c.code = bs) (eT : T.heap = h) (hlk : meth.locks = false) {z : Int32} (hret : meth.sig.returnType = some .int) (hd : In bs pc .ireturn 1 nx) (hK : cells ≤ K) (hN : slots ≤ N) (q : Q (some (.int z)) h locs) : Wp p e below s K N Q T (mkF m pc Ls (.int z :: st)) := by
  obtain ⟨fs, hr, hrun, hended, hW, hsame⟩ := X.leave (v := some (.int z)) (fun h => by rw [hret] at h; cases h) hlk
  subst eT
  refine ⟨_, _, ?_, hrun, hended, _, _, rfl, q, ⟨_, rfl⟩, hW, hsame.mono hK hN⟩
  exact retOut X hx hret rfl (Or.inl ⟨rfl, Or.inl rfl, z, rfl⟩) (hb hby hd.1) hr
theorem w_retN (X : Stand p l e R s m args below meth c T locs cells slots) (hx : p.tables.exec = Jvm.exec) (hby : c.code = bs) (eT : T.heap = h) (hlk : meth.locks = false) {z : Int32} {t : FieldType} (hret : meth.sig.returnType = some t) (ht : t = .boolean ∨ t = .byte ∨ t = .char ∨ t = .short) (hd : In bs pc .ireturn 1 nx) (hK : cells ≤ K) (hN : slots ≤ N) (q : Q (some (.int (nar t z))) h locs) : Wp p e below s K N Q T (mkF m pc Ls (.int z :: st)) := by
  obtain ⟨fs, hr, hrun, hended, hW, hsame⟩ := X.leave (v := some (.int (nar t z))) (fun h => by rw [hret] at h; cases h) hlk
  subst eT
  refine ⟨_, _, ?_, hrun, hended, _, _, rfl, q, ⟨_, rfl⟩, hW, hsame.mono hK hN⟩
  exact retN X hx hret ht (hb hby hd.1) hr
theorem w_retJ (X : Stand p l e R s m args below meth c T locs cells slots) (hx : p.tables.exec = Jvm.exec) (hby : c.code = bs) (eT : T.heap = h) (hlk : meth.locks = false) {z : Int64} (hret : meth.sig.returnType = some .long) (hd : In bs pc .lreturn 1 nx) (hK : cells ≤ K) (hN : slots ≤ N) (q : Q (some (.long z)) h locs) : Wp p e below s K N Q T (mkF m pc Ls (.long z :: st)) := by
  obtain ⟨fs, hr, hrun, hended, hW, hsame⟩ := X.leave (v := some (.long z)) (fun h => by rw [hret] at h; cases h) hlk
  subst eT
  refine ⟨_, _, ?_, hrun, hended, _, _, rfl, q, ⟨_, rfl⟩, hW, hsame.mono hK hN⟩
  exact retOut X hx hret rfl (Or.inr (Or.inl ⟨rfl, rfl, z, rfl⟩)) (hb hby hd.1) hr
theorem w_retA (X : Stand p l e R s m args below meth c T locs cells slots) (hx : p.tables.exec = Jvm.exec) (hby : c.code = bs) (eT : T.heap = h) (hlk : meth.locks = false) {w : Value} {t : FieldType} (hret : meth.sig.returnType = some t) (ht : t.isReference = true) (hw : w.isRef = true) (hn : narrow t w = w) (hd : In bs pc .areturn 1 nx) (hK : cells ≤ K) (hN : slots ≤ N) (q : Q (some w) h locs) : Wp p e below s K N Q T (mkF m pc Ls (w :: st)) := by
  obtain ⟨fs, hr, hrun, hended, hW, hsame⟩ := X.leave (v := some w) (fun h => by rw [hret] at h; cases h) hlk
  subst eT
  refine ⟨_, _, ?_, hrun, hended, _, _, rfl, q, ⟨_, rfl⟩, hW, hsame.mono hK hN⟩
  exact retOut X hx hret hn (Or.inr (Or.inr (Or.inr (Or.inr ⟨rfl, ht, hw⟩)))) (hb hby hd.1) hr
theorem w_retV (X : Stand p l e R s m args below meth c T locs cells slots) (hx : p.tables.exec = Jvm.exec) (hby : c.code = bs) (eT : T.heap = h) (hlk : meth.locks = false) (hret : meth.sig.returnType = none) (hd : In bs pc .return_ 1 nx) (hK : cells ≤ K) (hN : slots ≤ N) (q : Q none h locs) : Wp p e below s K N Q T (mkF m pc Ls []) := by
  obtain ⟨fs, hr, hrun, hended, hW, hsame⟩ := X.leave (v := none) (fun _ => rfl) hlk
  subst eT
  refine ⟨_, _, ?_, hrun, hended, _, _, rfl, q, ⟨_, rfl⟩, hW, hsame.mono hK hN⟩
  exact X.returnOut hx hret (hb hby hd.1) hr
theorem own_ns {Z : State} {h : Heap} {a : Addr} {K : String} (E : Exa Z h a K) : ∃ c : Cell, h[a]? = some c ∧ c.vm.isStatics = false := by
  obtain ⟨c, _, h1, -, -, h4, -⟩ := E; exact ⟨c, h1, h4⟩
theorem own_nsV {Z : State} {h : Heap} {a : Addr} {k : ClassId} {ty : FieldType} {n : Int32} {vs : List Value} {dv : Value} (E : Arv Z h a k ty n vs dv) : ∃ c : Cell, h[a]? = some c ∧ c.vm.isStatics = false := by
  obtain ⟨c, A, -⟩ := E; exact ⟨c, A.1, A.plain⟩
theorem own_sta_keep {Z : State} {h h' : Heap} {C n d : String} {v : Value} {ws : List Addr} (F : Sta Z h C n d v) (K : Keep h h' ws) (q : ∀ x ∈ ws, ∃ c : Cell, h[x]? = some c ∧ c.vm.isStatics = false) : Sta Z h' C n d v := by
  obtain ⟨cf, i, k, f, st, cell, h1, h2, h3, h4, h5, h6, h7⟩ := F
  refine ⟨cf, i, k, f, st, cell, h1, h2, h3, h4, K.2.1 _ _ h5 (fun hm => ?_), h6, h7⟩
  obtain ⟨c, e1, e2⟩ := q st hm
  cases h5.symm.trans e1
  rw [h6] at e2; cases e2
theorem own_arr_keep {Z : State} {h h' : Heap} {a : Addr} {c : Cell} {ty : FieldType} {ws : List Addr} (F : Arr Z h a c ty) (K : Keep h h' ws) (q : a ∉ ws) : Arr Z h' a c ty := ⟨K.2.1 a c F.1 q, F.2⟩
theorem own_ext_keep {h h' : Heap} (E : Ext h h') : Keep h h' [] := (Keep.refl h []).ext E
theorem own_keep_ext {h h' : Heap} (K : Keep h h' []) : Ext h h' := ⟨K.1, fun a c q => K.2.1 a c q nin0⟩
end OwnKit
theorem t_0 : (Jvm.Cond.constant "com/example/qingniao/qingniao/packets/PublishFlagsPinLaw" (7 : Nat) (2147483647 : Int32)) ∈ tables_1 := List.mem_of_getElem? (i := 0) rfl
theorem t_1 : (Jvm.Cond.arrayClass Jvm.ClassFile.FieldType.char) ∈ tables_1 := List.mem_of_getElem? (i := 1) rfl
theorem t_2 : (Jvm.Cond.classLink "com/example/qingniao/qingniao/packets/PublishFlagsPinLaw" (8 : Nat) "com/example/qingniao/qingniao/packets/Publish") ∈ tables_1 := List.mem_of_getElem? (i := 2) rfl
theorem t_3 : (Jvm.Cond.instantiable "com/example/qingniao/qingniao/packets/Publish" (6 : Nat)) ∈ tables_1 := List.mem_of_getElem? (i := 3) rfl
theorem t_4 : (Jvm.Cond.initialized "com/example/qingniao/qingniao/packets/Publish") ∈ tables_1 := List.mem_of_getElem? (i := 4) rfl
theorem t_5 : (Jvm.Cond.classLink "com/example/qingniao/qingniao/packets/PublishFlagsPinLaw" (10 : Nat) "java/lang/String") ∈ tables_1 := List.mem_of_getElem? (i := 5) rfl
theorem t_6 : (Jvm.Cond.instantiable "java/lang/String" (4 : Nat)) ∈ tables_1 := List.mem_of_getElem? (i := 6) rfl
theorem t_7 : (Jvm.Cond.initialized "java/lang/String") ∈ tables_1 := List.mem_of_getElem? (i := 7) rfl
theorem t_8 : (Jvm.Cond.methodLink "com/example/qingniao/qingniao/packets/PublishFlagsPinLaw" (12 : Nat) ({ cls := "java/lang/String", name := "<init>", desc := "([C)V" } : Jvm.MethodName)) ∈ tables_1 := List.mem_of_getElem? (i := 8) rfl
theorem t_9 : (Jvm.Cond.instanceMethod ({ cls := "java/lang/String", name := "<init>", desc := "([C)V" } : Jvm.MethodName)) ∈ tables_1 := List.mem_of_getElem? (i := 9) rfl
theorem t_10 : (Jvm.Cond.code ({ cls := "java/lang/String", name := "<init>", desc := "([C)V" } : Jvm.MethodName) jdk_42_method_3_code (2 : Nat) (Option.none : Option Jvm.ClassFile.FieldType)) ∈ tables_1 := List.mem_of_getElem? (i := 10) rfl
theorem t_16 : (Jvm.Cond.instanceMethod ({ cls := "java/lang/Object", name := "<init>", desc := "()V" } : Jvm.MethodName)) ∈ tables_1 := List.mem_of_getElem? (i := 16) rfl
theorem t_17 : (Jvm.Cond.code ({ cls := "java/lang/Object", name := "<init>", desc := "()V" } : Jvm.MethodName) object_method_1_code (1 : Nat) (Option.none : Option Jvm.ClassFile.FieldType)) ∈ tables_1 := List.mem_of_getElem? (i := 17) rfl
theorem t_23 : (Jvm.Cond.arrayClass Jvm.ClassFile.FieldType.byte) ∈ tables_1 := List.mem_of_getElem? (i := 23) rfl
theorem t_31 : (Jvm.Cond.laysFinal "java/lang/String" "java/lang/String" "coder" "B") ∈ tables_1 := List.mem_of_getElem? (i := 31) rfl
theorem t_33 : (Jvm.Cond.laysFinal "java/lang/String" "java/lang/String" "value" "[B") ∈ tables_1 := List.mem_of_getElem? (i := 33) rfl
theorem t_34 : (Jvm.Cond.methodLink "com/example/qingniao/qingniao/packets/PublishFlagsPinLaw" (15 : Nat) ({ cls := "com/example/qingniao/qingniao/packets/Publish", name := "<init>", desc := "(Ljava/lang/String;IZZI[B)V" } : Jvm.MethodName)) ∈ tables_1 := List.mem_of_getElem? (i := 34) rfl
theorem t_35 : (Jvm.Cond.instanceMethod ({ cls := "com/example/qingniao/qingniao/packets/Publish", name := "<init>", desc := "(Ljava/lang/String;IZZI[B)V" } : Jvm.MethodName)) ∈ tables_1 := List.mem_of_getElem? (i := 35) rfl
theorem t_36 : (Jvm.Cond.code ({ cls := "com/example/qingniao/qingniao/packets/Publish", name := "<init>", desc := "(Ljava/lang/String;IZZI[B)V" } : Jvm.MethodName) prog_62_method_1_code (7 : Nat) (Option.none : Option Jvm.ClassFile.FieldType)) ∈ tables_1 := List.mem_of_getElem? (i := 36) rfl
theorem t_37 : (Jvm.Cond.methodLink "com/example/qingniao/qingniao/packets/Publish" (1 : Nat) ({ cls := "java/lang/Record", name := "<init>", desc := "()V" } : Jvm.MethodName)) ∈ tables_1 := List.mem_of_getElem? (i := 37) rfl
theorem t_38 : (Jvm.Cond.instanceMethod ({ cls := "java/lang/Record", name := "<init>", desc := "()V" } : Jvm.MethodName)) ∈ tables_1 := List.mem_of_getElem? (i := 38) rfl
theorem t_40 : (Jvm.Cond.initialized "java/lang/Record") ∈ tables_1 := List.mem_of_getElem? (i := 40) rfl
theorem t_41 : (Jvm.Cond.code ({ cls := "java/lang/Record", name := "<init>", desc := "()V" } : Jvm.MethodName) jdk_30_method_1_code (1 : Nat) (Option.none : Option Jvm.ClassFile.FieldType)) ∈ tables_1 := List.mem_of_getElem? (i := 41) rfl
theorem t_42 : (Jvm.Cond.methodLink "java/lang/Record" (1 : Nat) ({ cls := "java/lang/Object", name := "<init>", desc := "()V" } : Jvm.MethodName)) ∈ tables_1 := List.mem_of_getElem? (i := 42) rfl
theorem t_43 : (Jvm.Cond.fieldLink "com/example/qingniao/qingniao/packets/Publish" (7 : Nat) "com/example/qingniao/qingniao/packets/Publish" "topic" "Ljava/lang/String;") ∈ tables_1 := List.mem_of_getElem? (i := 43) rfl
theorem t_44 : (Jvm.Cond.laysFinal "com/example/qingniao/qingniao/packets/Publish" "com/example/qingniao/qingniao/packets/Publish" "topic" "Ljava/lang/String;") ∈ tables_1 := List.mem_of_getElem? (i := 44) rfl
theorem t_45 : (Jvm.Cond.fieldLink "com/example/qingniao/qingniao/packets/Publish" (13 : Nat) "com/example/qingniao/qingniao/packets/Publish" "qos" "I") ∈ tables_1 := List.mem_of_getElem? (i := 45) rfl
theorem t_46 : (Jvm.Cond.laysFinal "com/example/qingniao/qingniao/packets/Publish" "com/example/qingniao/qingniao/packets/Publish" "qos" "I") ∈ tables_1 := List.mem_of_getElem? (i := 46) rfl
theorem t_47 : (Jvm.Cond.fieldLink "com/example/qingniao/qingniao/packets/Publish" (17 : Nat) "com/example/qingniao/qingniao/packets/Publish" "retain" "Z") ∈ tables_1 := List.mem_of_getElem? (i := 47) rfl
theorem t_48 : (Jvm.Cond.laysFinal "com/example/qingniao/qingniao/packets/Publish" "com/example/qingniao/qingniao/packets/Publish" "retain" "Z") ∈ tables_1 := List.mem_of_getElem? (i := 48) rfl
theorem t_49 : (Jvm.Cond.fieldLink "com/example/qingniao/qingniao/packets/Publish" (21 : Nat) "com/example/qingniao/qingniao/packets/Publish" "dup" "Z") ∈ tables_1 := List.mem_of_getElem? (i := 49) rfl
theorem t_50 : (Jvm.Cond.laysFinal "com/example/qingniao/qingniao/packets/Publish" "com/example/qingniao/qingniao/packets/Publish" "dup" "Z") ∈ tables_1 := List.mem_of_getElem? (i := 50) rfl
theorem t_51 : (Jvm.Cond.fieldLink "com/example/qingniao/qingniao/packets/Publish" (24 : Nat) "com/example/qingniao/qingniao/packets/Publish" "packetId" "I") ∈ tables_1 := List.mem_of_getElem? (i := 51) rfl
theorem t_52 : (Jvm.Cond.laysFinal "com/example/qingniao/qingniao/packets/Publish" "com/example/qingniao/qingniao/packets/Publish" "packetId" "I") ∈ tables_1 := List.mem_of_getElem? (i := 52) rfl
theorem t_53 : (Jvm.Cond.fieldLink "com/example/qingniao/qingniao/packets/Publish" (27 : Nat) "com/example/qingniao/qingniao/packets/Publish" "payload" "[B") ∈ tables_1 := List.mem_of_getElem? (i := 53) rfl
theorem t_54 : (Jvm.Cond.laysFinal "com/example/qingniao/qingniao/packets/Publish" "com/example/qingniao/qingniao/packets/Publish" "payload" "[B") ∈ tables_1 := List.mem_of_getElem? (i := 54) rfl
theorem t_55 : (Jvm.Cond.methodLink "com/example/qingniao/qingniao/packets/PublishFlagsPinLaw" (18 : Nat) ({ cls := "com/example/qingniao/qingniao/packets/Publish", name := "flags", desc := "()I" } : Jvm.MethodName)) ∈ tables_1 := List.mem_of_getElem? (i := 55) rfl
theorem t_56 : (Jvm.Cond.declares ({ cls := "com/example/qingniao/qingniao/packets/Publish", name := "flags", desc := "()I" } : Jvm.MethodName)) ∈ tables_1 := List.mem_of_getElem? (i := 56) rfl
theorem t_57 : (Jvm.Cond.instanceMethod ({ cls := "com/example/qingniao/qingniao/packets/Publish", name := "flags", desc := "()I" } : Jvm.MethodName)) ∈ tables_1 := List.mem_of_getElem? (i := 57) rfl
theorem t_58 : (Jvm.Cond.selects "com/example/qingniao/qingniao/packets/Publish" ({ cls := "com/example/qingniao/qingniao/packets/Publish", name := "flags", desc := "()I" } : Jvm.MethodName) ({ cls := "com/example/qingniao/qingniao/packets/Publish", name := "flags", desc := "()I" } : Jvm.MethodName)) ∈ tables_1 := List.mem_of_getElem? (i := 58) rfl
theorem t_59 : (Jvm.Cond.code ({ cls := "com/example/qingniao/qingniao/packets/Publish", name := "flags", desc := "()I" } : Jvm.MethodName) prog_62_method_3_code (1 : Nat) (Option.some Jvm.ClassFile.FieldType.int)) ∈ tables_1 := List.mem_of_getElem? (i := 59) rfl
theorem n8_0 : In jdk_30_method_1_code 0 (.aload_n 0) 1 1 := ⟨by decide +kernel, rfl⟩
theorem n8_1 : In jdk_30_method_1_code 1 (.invokespecial 1) 3 4 := ⟨by decide +kernel, rfl⟩
theorem n8_4 : In jdk_30_method_1_code 4 (.return_) 1 5 := ⟨by decide +kernel, rfl⟩
theorem pn_8 : plainFor (⟨"java/lang/Record", "<init>", "()V"⟩ : MethodName) = true := plainFor_of_name (by first | (simp [plainName, overriddenIn]; done) | decide +kernel)
theorem n7_0 : In prog_62_method_1_code 0 (.aload_n 0) 1 1 := ⟨by decide +kernel, rfl⟩
theorem n7_1 : In prog_62_method_1_code 1 (.invokespecial 1) 3 4 := ⟨by decide +kernel, rfl⟩
theorem pd_1382 : parseMethodDescriptor "()V" = some ⟨[], none⟩ := by decide +kernel
theorem n7_4 : In prog_62_method_1_code 4 (.aload_n 0) 1 5 := ⟨by decide +kernel, rfl⟩
theorem n7_5 : In prog_62_method_1_code 5 (.aload_n 1) 1 6 := ⟨by decide +kernel, rfl⟩
theorem n7_6 : In prog_62_method_1_code 6 (.putfield 7) 3 9 := ⟨by decide +kernel, rfl⟩
theorem n7_9 : In prog_62_method_1_code 9 (.aload_n 0) 1 10 := ⟨by decide +kernel, rfl⟩
theorem n7_10 : In prog_62_method_1_code 10 (.iload_n 2) 1 11 := ⟨by decide +kernel, rfl⟩
theorem n7_11 : In prog_62_method_1_code 11 (.putfield 13) 3 14 := ⟨by decide +kernel, rfl⟩
theorem n7_14 : In prog_62_method_1_code 14 (.aload_n 0) 1 15 := ⟨by decide +kernel, rfl⟩
theorem n7_15 : In prog_62_method_1_code 15 (.iload_n 3) 1 16 := ⟨by decide +kernel, rfl⟩
theorem n7_16 : In prog_62_method_1_code 16 (.putfield 17) 3 19 := ⟨by decide +kernel, rfl⟩
theorem n7_19 : In prog_62_method_1_code 19 (.aload_n 0) 1 20 := ⟨by decide +kernel, rfl⟩
theorem n7_20 : In prog_62_method_1_code 20 (.iload 4) 2 22 := ⟨by decide +kernel, rfl⟩
theorem n7_22 : In prog_62_method_1_code 22 (.putfield 21) 3 25 := ⟨by decide +kernel, rfl⟩
theorem n7_25 : In prog_62_method_1_code 25 (.aload_n 0) 1 26 := ⟨by decide +kernel, rfl⟩
theorem n7_26 : In prog_62_method_1_code 26 (.iload 5) 2 28 := ⟨by decide +kernel, rfl⟩
theorem n7_28 : In prog_62_method_1_code 28 (.putfield 24) 3 31 := ⟨by decide +kernel, rfl⟩
theorem n7_31 : In prog_62_method_1_code 31 (.aload_n 0) 1 32 := ⟨by decide +kernel, rfl⟩
theorem n7_32 : In prog_62_method_1_code 32 (.aload 6) 2 34 := ⟨by decide +kernel, rfl⟩
theorem n7_34 : In prog_62_method_1_code 34 (.putfield 27) 3 37 := ⟨by decide +kernel, rfl⟩
theorem n7_37 : In prog_62_method_1_code 37 (.return_) 1 38 := ⟨by decide +kernel, rfl⟩
theorem pn_7 : plainFor (⟨"com/example/qingniao/qingniao/packets/Publish", "<init>", "(Ljava/lang/String;IZZI[B)V"⟩ : MethodName) = true := plainFor_of_name (by first | (simp [plainName, overriddenIn]; done) | decide +kernel)
theorem n9_0 : In prog_62_method_3_code 0 (.aload_n 0) 1 1 := ⟨by decide +kernel, rfl⟩
theorem n9_1 : In prog_62_method_3_code 1 (.getfield 21) 3 4 := ⟨by decide +kernel, rfl⟩
theorem n9_4 : Jm prog_62_method_3_code 4 (.ifCond .eq 8) 8 7 12 := ⟨by decide +kernel, rfl, by decide, by decide⟩
theorem n9_12 : In prog_62_method_3_code 12 (.iconst 0) 1 13 := ⟨by decide +kernel, rfl⟩
theorem n9_13 : In prog_62_method_3_code 13 (.aload_n 0) 1 14 := ⟨by decide +kernel, rfl⟩
theorem n9_14 : In prog_62_method_3_code 14 (.getfield 13) 3 17 := ⟨by decide +kernel, rfl⟩
theorem n9_17 : In prog_62_method_3_code 17 (.iconst 1) 1 18 := ⟨by decide +kernel, rfl⟩
theorem n9_18 : In prog_62_method_3_code 18 (.ishl) 1 19 := ⟨by decide +kernel, rfl⟩
theorem n9_19 : In prog_62_method_3_code 19 (.ior) 1 20 := ⟨by decide +kernel, rfl⟩
theorem n9_20 : In prog_62_method_3_code 20 (.aload_n 0) 1 21 := ⟨by decide +kernel, rfl⟩
theorem n9_21 : In prog_62_method_3_code 21 (.getfield 17) 3 24 := ⟨by decide +kernel, rfl⟩
theorem n9_24 : Jm prog_62_method_3_code 24 (.ifCond .eq 7) 7 27 31 := ⟨by decide +kernel, rfl, by decide, by decide⟩
theorem n9_31 : In prog_62_method_3_code 31 (.iconst 0) 1 32 := ⟨by decide +kernel, rfl⟩
theorem n9_32 : In prog_62_method_3_code 32 (.ior) 1 33 := ⟨by decide +kernel, rfl⟩
theorem n9_33 : In prog_62_method_3_code 33 (.ireturn) 1 34 := ⟨by decide +kernel, rfl⟩
theorem n9_27 : In prog_62_method_3_code 27 (.iconst 1) 1 28 := ⟨by decide +kernel, rfl⟩
theorem n9_28 : Jm prog_62_method_3_code 28 (.goto 4) 4 31 32 := ⟨by decide +kernel, rfl, by decide, by decide⟩
theorem n9_7 : In prog_62_method_3_code 7 (.bipush 8) 2 9 := ⟨by decide +kernel, rfl⟩
theorem n9_9 : Jm prog_62_method_3_code 9 (.goto 4) 4 12 13 := ⟨by decide +kernel, rfl, by decide, by decide⟩
theorem pn_9 : plainFor (⟨"com/example/qingniao/qingniao/packets/Publish", "flags", "()I"⟩ : MethodName) = true := plainFor_of_name (by first | (simp [plainName, overriddenIn]; done) | decide +kernel)
theorem n0_0 : In code 0 (.iload_n 0) 1 1 := ⟨at_0, rfl⟩
theorem n0_1 : In code 1 (.ldc 7) 2 3 := ⟨at_1, rfl⟩
theorem n0_3 : In code 3 (.iand) 1 4 := ⟨at_3, rfl⟩
theorem n0_4 : In code 4 (.iconst 3) 1 5 := ⟨at_4, rfl⟩
theorem n0_5 : In code 5 (.irem) 1 6 := ⟨at_5, rfl⟩
theorem n0_6 : In code 6 (.istore 4) 2 8 := ⟨at_6, rfl⟩
theorem n0_8 : In code 8 (.iload_n 1) 1 9 := ⟨at_8, rfl⟩
theorem n0_9 : In code 9 (.iconst 1) 1 10 := ⟨at_9, rfl⟩
theorem n0_10 : In code 10 (.iand) 1 11 := ⟨at_10, rfl⟩
theorem n0_11 : Jm code 11 (.ifCond .eq 7) 7 14 18 := ⟨at_11, rfl, by decide, by decide⟩
theorem n0_18 : In code 18 (.iconst 0) 1 19 := ⟨at_18, rfl⟩
theorem n0_19 : In code 19 (.istore 5) 2 21 := ⟨at_19, rfl⟩
theorem n0_21 : In code 21 (.iload_n 1) 1 22 := ⟨at_21, rfl⟩
theorem n0_22 : In code 22 (.iconst 2) 1 23 := ⟨at_22, rfl⟩
theorem n0_23 : In code 23 (.iand) 1 24 := ⟨at_23, rfl⟩
theorem n0_24 : Jm code 24 (.ifCond .eq 7) 7 27 31 := ⟨at_24, rfl, by decide, by decide⟩
theorem n0_31 : In code 31 (.iconst 0) 1 32 := ⟨at_31, rfl⟩
theorem n0_32 : In code 32 (.istore 6) 2 34 := ⟨at_32, rfl⟩
theorem n0_34 : In code 34 (.iconst 1) 1 35 := ⟨at_34, rfl⟩
theorem n0_35 : In code 35 (.newarray .char) 2 37 := ⟨at_35, rfl⟩
theorem n0_37 : In code 37 (.astore 7) 2 39 := ⟨at_37, rfl⟩
theorem n0_39 : In code 39 (.aload 7) 2 41 := ⟨at_39, rfl⟩
theorem n0_41 : In code 41 (.iconst 0) 1 42 := ⟨at_41, rfl⟩
theorem n0_42 : In code 42 (.iload_n 3) 1 43 := ⟨at_42, rfl⟩
theorem n0_43 : In code 43 (.sipush 255) 3 46 := ⟨at_43, rfl⟩
theorem n0_46 : In code 46 (.iand) 1 47 := ⟨at_46, rfl⟩
theorem n0_47 : In code 47 (.i2c) 1 48 := ⟨at_47, rfl⟩
theorem n0_48 : In code 48 (.castore) 1 49 := ⟨at_48, rfl⟩
theorem n0_49 : In code 49 (.new 8) 3 52 := ⟨at_49, rfl⟩
theorem n0_52 : In code 52 (.dup) 1 53 := ⟨at_52, rfl⟩
theorem n0_53 : In code 53 (.new 10) 3 56 := ⟨at_53, rfl⟩
theorem n0_56 : In code 56 (.dup) 1 57 := ⟨at_56, rfl⟩
theorem n0_57 : In code 57 (.aload 7) 2 59 := ⟨at_57, rfl⟩
theorem n0_59 : In code 59 (.invokespecial 12) 3 62 := ⟨at_59, rfl⟩
theorem pd_2967 : parseMethodDescriptor "([C)V" = some ⟨[(.array .char)], none⟩ := by decide +kernel
theorem n0_62 : In code 62 (.iload 4) 2 64 := ⟨at_62, rfl⟩
theorem n0_64 : In code 64 (.iload 5) 2 66 := ⟨at_64, rfl⟩
theorem n0_66 : In code 66 (.iload 6) 2 68 := ⟨at_66, rfl⟩
theorem n0_68 : In code 68 (.iload_n 2) 1 69 := ⟨at_68, rfl⟩
theorem n0_69 : In code 69 (.iconst 0) 1 70 := ⟨at_69, rfl⟩
theorem n0_70 : In code 70 (.newarray .byte) 2 72 := ⟨at_70, rfl⟩
theorem n0_72 : In code 72 (.invokespecial 15) 3 75 := ⟨at_72, rfl⟩
theorem pd_46178 : parseMethodDescriptor "(Ljava/lang/String;IZZI[B)V" = some ⟨[(.object "java/lang/String"), .int, .boolean, .boolean, .int, (.array .byte)], none⟩ := by decide +kernel
theorem n0_75 : In code 75 (.astore 8) 2 77 := ⟨at_75, rfl⟩
theorem n0_77 : In code 77 (.aload 8) 2 79 := ⟨at_77, rfl⟩
theorem n0_79 : In code 79 (.invokevirtual 18) 3 82 := ⟨at_79, rfl⟩
theorem pd_1265 : parseMethodDescriptor "()I" = some ⟨[], some .int⟩ := by decide +kernel
theorem n0_82 : In code 82 (.istore 9) 2 84 := ⟨at_82, rfl⟩
theorem n0_84 : In code 84 (.iload 6) 2 86 := ⟨at_84, rfl⟩
theorem n0_86 : Jm code 86 (.ifCond .eq 8) 8 89 94 := ⟨at_86, rfl, by decide, by decide⟩
theorem n0_94 : In code 94 (.iconst 0) 1 95 := ⟨at_94, rfl⟩
theorem n0_95 : In code 95 (.iload 4) 2 97 := ⟨at_95, rfl⟩
theorem n0_97 : In code 97 (.iconst 2) 1 98 := ⟨at_97, rfl⟩
theorem n0_98 : In code 98 (.imul) 1 99 := ⟨at_98, rfl⟩
theorem n0_99 : In code 99 (.iadd) 1 100 := ⟨at_99, rfl⟩
theorem n0_100 : In code 100 (.iload 5) 2 102 := ⟨at_100, rfl⟩
theorem n0_102 : Jm code 102 (.ifCond .eq 7) 7 105 109 := ⟨at_102, rfl, by decide, by decide⟩
theorem n0_109 : In code 109 (.iconst 0) 1 110 := ⟨at_109, rfl⟩
theorem n0_110 : In code 110 (.iadd) 1 111 := ⟨at_110, rfl⟩
theorem n0_111 : In code 111 (.istore 10) 2 113 := ⟨at_111, rfl⟩
theorem n0_113 : In code 113 (.iload 9) 2 115 := ⟨at_113, rfl⟩
theorem n0_115 : Jm code 115 (.ifCond .lt 14) 14 118 129 := ⟨at_115, rfl, by decide, by decide⟩
theorem n0_118 : In code 118 (.iload 9) 2 120 := ⟨at_118, rfl⟩
theorem n0_120 : In code 120 (.bipush 15) 2 122 := ⟨at_120, rfl⟩
theorem n0_122 : Jm code 122 (.if_icmp .gt 7) 7 125 129 := ⟨at_122, rfl, by decide, by decide⟩
theorem n0_125 : In code 125 (.iconst 1) 1 126 := ⟨at_125, rfl⟩
theorem n0_126 : Jm code 126 (.goto 4) 4 129 130 := ⟨at_126, rfl, by decide, by decide⟩
theorem n0_130 : In code 130 (.istore 11) 2 132 := ⟨at_130, rfl⟩
theorem n0_132 : In code 132 (.iload 9) 2 134 := ⟨at_132, rfl⟩
theorem n0_134 : In code 134 (.iconst 1) 1 135 := ⟨at_134, rfl⟩
theorem n0_135 : In code 135 (.iushr) 1 136 := ⟨at_135, rfl⟩
theorem n0_136 : In code 136 (.iconst 3) 1 137 := ⟨at_136, rfl⟩
theorem n0_137 : In code 137 (.iand) 1 138 := ⟨at_137, rfl⟩
theorem n0_138 : In code 138 (.iload 4) 2 140 := ⟨at_138, rfl⟩
theorem n0_140 : Jm code 140 (.if_icmp .ne 7) 7 143 147 := ⟨at_140, rfl, by decide, by decide⟩
theorem n0_143 : In code 143 (.iconst 1) 1 144 := ⟨at_143, rfl⟩
theorem n0_144 : Jm code 144 (.goto 4) 4 147 148 := ⟨at_144, rfl, by decide, by decide⟩
theorem n0_148 : In code 148 (.istore 12) 2 150 := ⟨at_148, rfl⟩
theorem n0_150 : In code 150 (.iload 9) 2 152 := ⟨at_150, rfl⟩
theorem n0_152 : In code 152 (.bipush 8) 2 154 := ⟨at_152, rfl⟩
theorem n0_154 : In code 154 (.iand) 1 155 := ⟨at_154, rfl⟩
theorem n0_155 : Jm code 155 (.ifCond .eq 7) 7 158 162 := ⟨at_155, rfl, by decide, by decide⟩
theorem n0_162 : In code 162 (.iconst 0) 1 163 := ⟨at_162, rfl⟩
theorem n0_163 : In code 163 (.iload 6) 2 165 := ⟨at_163, rfl⟩
theorem n0_165 : Jm code 165 (.if_icmp .ne 7) 7 168 172 := ⟨at_165, rfl, by decide, by decide⟩
theorem n0_168 : In code 168 (.iconst 1) 1 169 := ⟨at_168, rfl⟩
theorem n0_169 : Jm code 169 (.goto 4) 4 172 173 := ⟨at_169, rfl, by decide, by decide⟩
theorem n0_173 : In code 173 (.istore 13) 2 175 := ⟨at_173, rfl⟩
theorem n0_175 : In code 175 (.iload 9) 2 177 := ⟨at_175, rfl⟩
theorem n0_177 : In code 177 (.iconst 1) 1 178 := ⟨at_177, rfl⟩
theorem n0_178 : In code 178 (.iand) 1 179 := ⟨at_178, rfl⟩
theorem n0_179 : Jm code 179 (.ifCond .eq 7) 7 182 186 := ⟨at_179, rfl, by decide, by decide⟩
theorem n0_186 : In code 186 (.iconst 0) 1 187 := ⟨at_186, rfl⟩
theorem n0_187 : In code 187 (.iload 5) 2 189 := ⟨at_187, rfl⟩
theorem n0_189 : Jm code 189 (.if_icmp .ne 7) 7 192 196 := ⟨at_189, rfl, by decide, by decide⟩
theorem n0_192 : In code 192 (.iconst 1) 1 193 := ⟨at_192, rfl⟩
theorem n0_193 : Jm code 193 (.goto 4) 4 196 197 := ⟨at_193, rfl, by decide, by decide⟩
theorem n0_197 : In code 197 (.istore 14) 2 199 := ⟨at_197, rfl⟩
theorem n0_199 : In code 199 (.iload 9) 2 201 := ⟨at_199, rfl⟩
theorem n0_201 : In code 201 (.iload 10) 2 203 := ⟨at_201, rfl⟩
theorem n0_203 : Jm code 203 (.if_icmp .ne 27) 27 206 230 := ⟨at_203, rfl, by decide, by decide⟩
theorem n0_206 : In code 206 (.iload 11) 2 208 := ⟨at_206, rfl⟩
theorem n0_208 : Jm code 208 (.ifCond .eq 22) 22 211 230 := ⟨at_208, rfl, by decide, by decide⟩
theorem n0_211 : In code 211 (.iload 12) 2 213 := ⟨at_211, rfl⟩
theorem n0_213 : Jm code 213 (.ifCond .eq 17) 17 216 230 := ⟨at_213, rfl, by decide, by decide⟩
theorem n0_216 : In code 216 (.iload 13) 2 218 := ⟨at_216, rfl⟩
theorem n0_218 : Jm code 218 (.ifCond .eq 12) 12 221 230 := ⟨at_218, rfl, by decide, by decide⟩
theorem n0_221 : In code 221 (.iload 14) 2 223 := ⟨at_221, rfl⟩
theorem n0_223 : Jm code 223 (.ifCond .eq 7) 7 226 230 := ⟨at_223, rfl, by decide, by decide⟩
theorem n0_226 : In code 226 (.iconst 1) 1 227 := ⟨at_226, rfl⟩
theorem n0_227 : Jm code 227 (.goto 4) 4 230 231 := ⟨at_227, rfl, by decide, by decide⟩
theorem n0_231 : In code 231 (.ireturn) 1 232 := ⟨at_231, rfl⟩
theorem n0_27 : In code 27 (.iconst 1) 1 28 := ⟨at_27, rfl⟩
theorem n0_28 : Jm code 28 (.goto 4) 4 31 32 := ⟨at_28, rfl, by decide, by decide⟩
theorem n0_89 : In code 89 (.bipush 8) 2 91 := ⟨at_89, rfl⟩
theorem n0_91 : Jm code 91 (.goto 4) 4 94 95 := ⟨at_91, rfl, by decide, by decide⟩
theorem n0_158 : In code 158 (.iconst 1) 1 159 := ⟨at_158, rfl⟩
theorem n0_159 : Jm code 159 (.goto 4) 4 162 163 := ⟨at_159, rfl, by decide, by decide⟩
theorem n0_14 : In code 14 (.iconst 1) 1 15 := ⟨at_14, rfl⟩
theorem n0_15 : Jm code 15 (.goto 4) 4 18 19 := ⟨at_15, rfl, by decide, by decide⟩
theorem n0_105 : In code 105 (.iconst 1) 1 106 := ⟨at_105, rfl⟩
theorem n0_106 : Jm code 106 (.goto 4) 4 109 110 := ⟨at_106, rfl, by decide, by decide⟩
theorem n0_182 : In code 182 (.iconst 1) 1 183 := ⟨at_182, rfl⟩
theorem n0_183 : Jm code 183 (.goto 4) 4 186 187 := ⟨at_183, rfl, by decide, by decide⟩
theorem pn_0 : plainFor (⟨"com/example/qingniao/qingniao/packets/PublishFlagsPinLaw", "law", "(IIII)Z"⟩ : MethodName) = true := plainFor_of_name (by first | (simp [plainName, overriddenIn]; done) | decide +kernel)
theorem own_eqI {t : Term} {k : Int32} {args : Array Value} {s : State} (h : (Cond.eq t (.int k)).value args s none s [] = some true) : t.eval args s none [] s = some (.int k) := by
  obtain ⟨x, y, h1, h2, h3, -⟩ := cmp_v (Or.inl h)
  cases (Option.some.inj h2 : (Value.int k) = y)
  cases x <;> first | (have := gotT (Cond.eq_ints h1 h2) h; rw [h1, this]; done) | (simp [Kin, Value.isRef] at h3; done)
theorem own_eqL {t : Term} {k : Int64} {args : Array Value} {s : State} (h : (Cond.eq t (.long k)).value args s none s [] = some true) : t.eval args s none [] s = some (.long k) := by
  obtain ⟨x, y, h1, h2, h3, -⟩ := cmp_v (Or.inl h)
  cases (Option.some.inj h2 : (Value.long k) = y)
  cases x <;> first | (have := gotT (eq_L h1 h2) h; rw [h1, this]; done) | (simp [Kin, Value.isRef] at h3; done)
theorem own_eqR {a b : Term} {y : Addr} {args : Array Value} {s : State} (h : (Cond.eq a b).value args s none s [] = some true) (hb : b.eval args s none [] s = some (.ref y)) : a.eval args s none [] s = some (.ref y) := by
  obtain ⟨x, y', h1, h2, h3, h4⟩ := cmp_v (Or.inl h)
  cases h2.symm.trans hb
  have hx : x.isRef = true := h4.2
  have := gotT (eq_R h1 h2 hx rfl) h
  rw [h1, this]
theorem own_nar1 : nar .boolean 1 = 1 := rfl
theorem own_nar0 : nar .boolean 0 = 0 := rfl
def own_fl (d q r : Int32) : Int32 := ((if d = 0 then 0 else 8) ||| (q <<< ((1 : Int32) &&& 31))) ||| (if r = 0 then 0 else 1)
theorem own_three (x : Int32) : (x &&& 2147483647) % 3 = 0 ∨ (x &&& 2147483647) % 3 = 1 ∨ (x &&& 2147483647) % 3 = 2 := by
  have h1 := c_mask x 2147483647 31 (by decide) (by decide)
  have h2 := (c_irem (x &&& 2147483647) 3 3 (by decide)).1 (by rw [h1]; omega)
  rw [← Int32.toInt_inj, ← Int32.toInt_inj, ← Int32.toInt_inj, h2]
  have k0 : (0 : Int32).toInt = 0 := by decide
  have k1 : (1 : Int32).toInt = 1 := by decide
  have k2 : (2 : Int32).toInt = 2 := by decide
  omega
theorem own_narc (y : Int32) : nar .char y = y.toUInt32.toUInt16.toUInt32.toInt32 := rfl
theorem own_lat (x : Int32) : ∀ c ∈ [nar .char ((x &&& (255 : Int32)).toUInt32.toUInt16.toUInt32.toInt32)], ¬ c < 0 ∧ ¬ (255 : Int32) < c := by
  intro c hc
  rw [List.mem_singleton] at hc
  subst hc
  rw [own_narc, i2c_mask, i2c_mask, Int32.lt_iff_toInt_lt, Int32.lt_iff_toInt_lt, c_mask x 255 8 (by decide) (by decide)]
  have k0 : (0 : Int32).toInt = 0 := by decide
  have k1 : (255 : Int32).toInt = 255 := by decide
  omega

set_option maxRecDepth 65536 in
set_option maxHeartbeats 4000000 in
theorem ef_rm0r (m : MethodId) (x0 : Addr) : entryFrame m #[(.ref x0)] 1 = mkF m 0 #[.val (.ref x0)] [] := by first | (simp [entryFrame, mkF, argsToLocals, Value.category]; done) | rfl
set_option maxRecDepth 65536 in
set_option maxHeartbeats 40000000 in
theorem rm0r (l : Launch) (Z : State) (a0 : Array Value) (hw : ∀ d ∈ tables_1, d.before a0 Z = true) (a1 : Addr) (h0 : Heap) : Con l Z (⟨"java/lang/Record", "<init>", "()V"⟩ : MethodName) jdk_30_method_1_code 1 none ({ frames := 1, cells := 0, slots := 0, locals := 12 } : Room) #[(.ref a1)] h0 (fun v h L => v = none ∧ h = h0 ∧ L = []) := by
  refine w_body (Ls := #[.val (.ref a1)]) pn_8 (fun m => ef_rm0r m a1) ?_
  intro p e s m below meth c T0 X0 hx hby hml hown hnm hret hlk hZ e0
  refine w_aloadN X0 hx hby n8_0 rfl rfl ?_
  refine w_initO X0 hx hby hZ hown (by rw [hml]; rfl) (Wd := 0) (hw _ t_42) (hw _ t_16) (hw _ t_17) e0 n8_1 (by decide) rfl (by decide) fun T1 X1 e1 => ?_
  refine w_retV X1 hx hby e1 hlk hret n8_4 (by decide) (by decide) ?_
  exact ⟨rfl, rfl, rfl⟩
set_option maxRecDepth 65536 in
set_option maxHeartbeats 4000000 in
theorem ef_rm1 (m : MethodId) (x0 : Addr) (x1 : Addr) (x2 : Int32) (x3 : Int32) (x4 : Int32) (x5 : Int32) (x6 : Addr) : entryFrame m #[(.ref x0), (.ref x1), (.int x2), (.int x3), (.int x4), (.int x5), (.ref x6)] 7 = mkF m 0 #[.val (.ref x0), .val (.ref x1), .val (.int x2), .val (.int x3), .val (.int x4), .val (.int x5), .val (.ref x6)] [] := by first | (simp [entryFrame, mkF, argsToLocals, Value.category]; done) | rfl
set_option maxRecDepth 65536 in
set_option maxHeartbeats 40000000 in
theorem rm1 (l : Launch) (Z : State) (a0 : Array Value) (hw : ∀ d ∈ tables_1, d.before a0 Z = true) (a1 : Addr) (y1 : Addr) (x2 : Int32) (x3 : Int32) (x4 : Int32) (x5 : Int32) (y6 : Addr) (h0 : Heap) (n0 : Nat) (Z0 : n0 ≤ h0.size) (g1 : n0 ≤ a1) (E1 : Exa Z h0 a1 "com/example/qingniao/qingniao/packets/Publish") (F_topic : Fld Z h0 a1 "com/example/qingniao/qingniao/packets/Publish" "topic" "Ljava/lang/String;" .null) (F_qos : Fld Z h0 a1 "com/example/qingniao/qingniao/packets/Publish" "qos" "I" (.int (0 : Int32))) (F_retain : Fld Z h0 a1 "com/example/qingniao/qingniao/packets/Publish" "retain" "Z" (.int (0 : Int32))) (F_dup : Fld Z h0 a1 "com/example/qingniao/qingniao/packets/Publish" "dup" "Z" (.int (0 : Int32))) (F_packetId : Fld Z h0 a1 "com/example/qingniao/qingniao/packets/Publish" "packetId" "I" (.int (0 : Int32))) (F_payload : Fld Z h0 a1 "com/example/qingniao/qingniao/packets/Publish" "payload" "[B" .null) : Con l Z (⟨"com/example/qingniao/qingniao/packets/Publish", "<init>", "(Ljava/lang/String;IZZI[B)V"⟩ : MethodName) prog_62_method_1_code 7 none ({ frames := 2, cells := 0, slots := 0, locals := 24 } : Room) #[(.ref a1), (.ref y1), (.int x2), (.int x3), (.int x4), (.int x5), (.ref y6)] h0 (fun v h L => v = none ∧ Fr n0 L ∧ Keep h0 h [a1] ∧ Exa Z h a1 "com/example/qingniao/qingniao/packets/Publish" ∧ Fld Z h a1 "com/example/qingniao/qingniao/packets/Publish" "topic" "Ljava/lang/String;" (.ref y1) ∧ Fld Z h a1 "com/example/qingniao/qingniao/packets/Publish" "qos" "I" (.int x2) ∧ Fld Z h a1 "com/example/qingniao/qingniao/packets/Publish" "retain" "Z" (.int (nar .boolean x3)) ∧ Fld Z h a1 "com/example/qingniao/qingniao/packets/Publish" "dup" "Z" (.int (nar .boolean x4)) ∧ Fld Z h a1 "com/example/qingniao/qingniao/packets/Publish" "packetId" "I" (.int x5) ∧ Fld Z h a1 "com/example/qingniao/qingniao/packets/Publish" "payload" "[B" (.ref y6)) := by
  refine w_body (Ls := #[.val (.ref a1), .val (.ref y1), .val (.int x2), .val (.int x3), .val (.int x4), .val (.int x5), .val (.ref y6)]) pn_7 (fun m => ef_rm1 m a1 y1 x2 x3 x4 x5 y6) ?_
  intro p e s m below meth c T0 X0 hx hby hml hown hnm hret hlk hZ e0
  refine w_aloadN X0 hx hby n7_0 rfl rfl ?_
  refine w_called (call_N X0 hx hby hZ hown (argsL := []) (rest := []) (Wd := 0) (a := a1) rfl (hw _ t_37) (hw _ t_38) (hw _ t_40) (hw _ t_41) (by decide) (rm0r l Z a0 hw a1 h0) rfl n7_1 (by rw [hml]; rfl) (lenOf pd_1382 rfl) rfl (by decide) (by decide) (by decide) (by decide) e0) fun v1 T1 L1 X1 Q1 => ?_
  obtain ⟨rfl, hh1, rfl⟩ := Q1
  rw [List.append_nil] at X1
  show Wp p e below s _ _ _ T1 (mkF m 4 #[.val (.ref a1), .val (.ref y1), .val (.int x2), .val (.int x3), .val (.int x4), .val (.int x5), .val (.ref y6)] [])
  refine w_aloadN X1 hx hby n7_4 rfl rfl ?_
  refine w_aloadN X1 hx hby n7_5 rfl rfl ?_
  refine w_putFN X1 hx hby hZ hown (hw _ t_43) Via.refl hh1 F_topic E1 (Or.inr ⟨(hw _ t_44), rfl, hnm⟩) (hw _ t_3) (ty := (.object "java/lang/String")) (by decide) rfl rfl n7_6 fun T2 h2 X2 e2 W2 => ?_
  have P2 := F_topic.same W2
  have N2 := Fr.snoc X2 (Fr.nil n0) g1
  have z3 : h0.size ≤ h2.size := Nat.le_trans (Nat.le_refl h0.size) (Keep.of_wr W2).1
  have k3 : Keep h0 h2 [a1] := (Keep.refl h0 [a1]).wr W2 (Or.inl (List.mem_of_getElem? (i := 0) rfl))
  refine w_aloadN X2 hx hby n7_9 rfl rfl ?_
  refine w_iloadN X2 hx hby n7_10 rfl ?_
  have f4 := (F_qos.other W2 (Or.inr (slot_ne (Or.inr (hw _ t_46)) (Or.inr (hw _ t_44)) (by decide) (t := .int) (t' := (.object "java/lang/String")) (by decide) (by decide))))
  have f5 := (E1.wr W2)
  refine w_putFN X2 hx hby hZ hown (hw _ t_45) Via.refl e2 f4 f5 (Or.inr ⟨(hw _ t_46), rfl, hnm⟩) (hw _ t_3) (ty := .int) (by decide) rfl rfl n7_11 fun T6 h6 X6 e6 W6 => ?_
  have P6 := f4.same W6
  have N6 := Fr.snoc X6 N2 g1
  have z7 : h0.size ≤ h6.size := Nat.le_trans z3 (Keep.of_wr W6).1
  have k7 : Keep h0 h6 [a1] := k3.wr W6 (Or.inl (List.mem_of_getElem? (i := 0) rfl))
  refine w_aloadN X6 hx hby n7_14 rfl rfl ?_
  refine w_iloadN X6 hx hby n7_15 rfl ?_
  have f8 := ((F_retain.other W2 (Or.inr (slot_ne (Or.inr (hw _ t_48)) (Or.inr (hw _ t_44)) (by decide) (t := .boolean) (t' := (.object "java/lang/String")) (by decide) (by decide)))).other W6 (Or.inr (slot_ne (Or.inr (hw _ t_48)) (Or.inr (hw _ t_46)) (by decide) (t := .boolean) (t' := .int) (by decide) (by decide))))
  have f9 := (f5.wr W6)
  refine w_putFN X6 hx hby hZ hown (hw _ t_47) Via.refl e6 f8 f9 (Or.inr ⟨(hw _ t_48), rfl, hnm⟩) (hw _ t_3) (ty := .boolean) (by decide) rfl (fits_nar_bool _) n7_16 fun T10 h10 X10 e10 W10 => ?_
  have P10 := f8.same W10
  have N10 := Fr.snoc X10 N6 g1
  have z11 : h0.size ≤ h10.size := Nat.le_trans z7 (Keep.of_wr W10).1
  have k11 : Keep h0 h10 [a1] := k7.wr W10 (Or.inl (List.mem_of_getElem? (i := 0) rfl))
  refine w_aloadN X10 hx hby n7_19 rfl rfl ?_
  refine w_iload X10 hx hby n7_20 rfl ?_
  have f12 := (((F_dup.other W2 (Or.inr (slot_ne (Or.inr (hw _ t_50)) (Or.inr (hw _ t_44)) (by decide) (t := .boolean) (t' := (.object "java/lang/String")) (by decide) (by decide)))).other W6 (Or.inr (slot_ne (Or.inr (hw _ t_50)) (Or.inr (hw _ t_46)) (by decide) (t := .boolean) (t' := .int) (by decide) (by decide)))).other W10 (Or.inr (slot_ne (Or.inr (hw _ t_50)) (Or.inr (hw _ t_48)) (by decide) (t := .boolean) (t' := .boolean) (by decide) (by decide))))
  have f13 := (f9.wr W10)
  refine w_putFN X10 hx hby hZ hown (hw _ t_49) Via.refl e10 f12 f13 (Or.inr ⟨(hw _ t_50), rfl, hnm⟩) (hw _ t_3) (ty := .boolean) (by decide) rfl (fits_nar_bool _) n7_22 fun T14 h14 X14 e14 W14 => ?_
  have P14 := f12.same W14
  have N14 := Fr.snoc X14 N10 g1
  have z15 : h0.size ≤ h14.size := Nat.le_trans z11 (Keep.of_wr W14).1
  have k15 : Keep h0 h14 [a1] := k11.wr W14 (Or.inl (List.mem_of_getElem? (i := 0) rfl))
  refine w_aloadN X14 hx hby n7_25 rfl rfl ?_
  refine w_iload X14 hx hby n7_26 rfl ?_
  have f16 := ((((F_packetId.other W2 (Or.inr (slot_ne (Or.inr (hw _ t_52)) (Or.inr (hw _ t_44)) (by decide) (t := .int) (t' := (.object "java/lang/String")) (by decide) (by decide)))).other W6 (Or.inr (slot_ne (Or.inr (hw _ t_52)) (Or.inr (hw _ t_46)) (by decide) (t := .int) (t' := .int) (by decide) (by decide)))).other W10 (Or.inr (slot_ne (Or.inr (hw _ t_52)) (Or.inr (hw _ t_48)) (by decide) (t := .int) (t' := .boolean) (by decide) (by decide)))).other W14 (Or.inr (slot_ne (Or.inr (hw _ t_52)) (Or.inr (hw _ t_50)) (by decide) (t := .int) (t' := .boolean) (by decide) (by decide))))
  have f17 := (f13.wr W14)
  refine w_putFN X14 hx hby hZ hown (hw _ t_51) Via.refl e14 f16 f17 (Or.inr ⟨(hw _ t_52), rfl, hnm⟩) (hw _ t_3) (ty := .int) (by decide) rfl rfl n7_28 fun T18 h18 X18 e18 W18 => ?_
  have P18 := f16.same W18
  have N18 := Fr.snoc X18 N14 g1
  have z19 : h0.size ≤ h18.size := Nat.le_trans z15 (Keep.of_wr W18).1
  have k19 : Keep h0 h18 [a1] := k15.wr W18 (Or.inl (List.mem_of_getElem? (i := 0) rfl))
  refine w_aloadN X18 hx hby n7_31 rfl rfl ?_
  refine w_aload X18 hx hby n7_32 rfl rfl ?_
  have f20 := (((((F_payload.other W2 (Or.inr (slot_ne (Or.inr (hw _ t_54)) (Or.inr (hw _ t_44)) (by decide) (t := (.array .byte)) (t' := (.object "java/lang/String")) (by decide) (by decide)))).other W6 (Or.inr (slot_ne (Or.inr (hw _ t_54)) (Or.inr (hw _ t_46)) (by decide) (t := (.array .byte)) (t' := .int) (by decide) (by decide)))).other W10 (Or.inr (slot_ne (Or.inr (hw _ t_54)) (Or.inr (hw _ t_48)) (by decide) (t := (.array .byte)) (t' := .boolean) (by decide) (by decide)))).other W14 (Or.inr (slot_ne (Or.inr (hw _ t_54)) (Or.inr (hw _ t_50)) (by decide) (t := (.array .byte)) (t' := .boolean) (by decide) (by decide)))).other W18 (Or.inr (slot_ne (Or.inr (hw _ t_54)) (Or.inr (hw _ t_52)) (by decide) (t := (.array .byte)) (t' := .int) (by decide) (by decide))))
  have f21 := (f17.wr W18)
  refine w_putFN X18 hx hby hZ hown (hw _ t_53) Via.refl e18 f20 f21 (Or.inr ⟨(hw _ t_54), rfl, hnm⟩) (hw _ t_3) (ty := (.array .byte)) (by decide) rfl rfl n7_34 fun T22 h22 X22 e22 W22 => ?_
  have P22 := f20.same W22
  have N22 := Fr.snoc X22 N18 g1
  have z23 : h0.size ≤ h22.size := Nat.le_trans z19 (Keep.of_wr W22).1
  have k23 : Keep h0 h22 [a1] := k19.wr W22 (Or.inl (List.mem_of_getElem? (i := 0) rfl))
  refine w_retV X22 hx hby e22 hlk hret n7_37 (by decide) (by decide) ?_
  have f24 := (f21.wr W22)
  have f25 := (((((P2.other W6 (Or.inr (slot_ne (Or.inr (hw _ t_44)) (Or.inr (hw _ t_46)) (by decide) (t := (.object "java/lang/String")) (t' := .int) (by decide) (by decide)))).other W10 (Or.inr (slot_ne (Or.inr (hw _ t_44)) (Or.inr (hw _ t_48)) (by decide) (t := (.object "java/lang/String")) (t' := .boolean) (by decide) (by decide)))).other W14 (Or.inr (slot_ne (Or.inr (hw _ t_44)) (Or.inr (hw _ t_50)) (by decide) (t := (.object "java/lang/String")) (t' := .boolean) (by decide) (by decide)))).other W18 (Or.inr (slot_ne (Or.inr (hw _ t_44)) (Or.inr (hw _ t_52)) (by decide) (t := (.object "java/lang/String")) (t' := .int) (by decide) (by decide)))).other W22 (Or.inr (slot_ne (Or.inr (hw _ t_44)) (Or.inr (hw _ t_54)) (by decide) (t := (.object "java/lang/String")) (t' := (.array .byte)) (by decide) (by decide))))
  have f26 := ((((P6.other W10 (Or.inr (slot_ne (Or.inr (hw _ t_46)) (Or.inr (hw _ t_48)) (by decide) (t := .int) (t' := .boolean) (by decide) (by decide)))).other W14 (Or.inr (slot_ne (Or.inr (hw _ t_46)) (Or.inr (hw _ t_50)) (by decide) (t := .int) (t' := .boolean) (by decide) (by decide)))).other W18 (Or.inr (slot_ne (Or.inr (hw _ t_46)) (Or.inr (hw _ t_52)) (by decide) (t := .int) (t' := .int) (by decide) (by decide)))).other W22 (Or.inr (slot_ne (Or.inr (hw _ t_46)) (Or.inr (hw _ t_54)) (by decide) (t := .int) (t' := (.array .byte)) (by decide) (by decide))))
  have f27 := (((P10.other W14 (Or.inr (slot_ne (Or.inr (hw _ t_48)) (Or.inr (hw _ t_50)) (by decide) (t := .boolean) (t' := .boolean) (by decide) (by decide)))).other W18 (Or.inr (slot_ne (Or.inr (hw _ t_48)) (Or.inr (hw _ t_52)) (by decide) (t := .boolean) (t' := .int) (by decide) (by decide)))).other W22 (Or.inr (slot_ne (Or.inr (hw _ t_48)) (Or.inr (hw _ t_54)) (by decide) (t := .boolean) (t' := (.array .byte)) (by decide) (by decide))))
  have f28 := ((P14.other W18 (Or.inr (slot_ne (Or.inr (hw _ t_50)) (Or.inr (hw _ t_52)) (by decide) (t := .boolean) (t' := .int) (by decide) (by decide)))).other W22 (Or.inr (slot_ne (Or.inr (hw _ t_50)) (Or.inr (hw _ t_54)) (by decide) (t := .boolean) (t' := (.array .byte)) (by decide) (by decide))))
  have f29 := (P18.other W22 (Or.inr (slot_ne (Or.inr (hw _ t_52)) (Or.inr (hw _ t_54)) (by decide) (t := .int) (t' := (.array .byte)) (by decide) (by decide))))
  exact ⟨rfl, N22, k23, f24, f25, f26, f27, f28, f29, P22⟩
set_option maxRecDepth 65536 in
set_option maxHeartbeats 4000000 in
theorem ef_rm2 (m : MethodId) (x0 : Addr) : entryFrame m #[(.ref x0)] 1 = mkF m 0 #[.val (.ref x0)] [] := by first | (simp [entryFrame, mkF, argsToLocals, Value.category]; done) | rfl
set_option maxRecDepth 65536 in
set_option maxHeartbeats 40000000 in
theorem rm2 (l : Launch) (Z : State) (a0 : Array Value) (hw : ∀ d ∈ tables_1, d.before a0 Z = true) (a1 : Addr) (x1 x2 x3 : Int32) (h0 : Heap) (F1 : Fld Z h0 a1 "com/example/qingniao/qingniao/packets/Publish" "dup" "Z" (.int x1)) (F2 : Fld Z h0 a1 "com/example/qingniao/qingniao/packets/Publish" "qos" "I" (.int x2)) (F3 : Fld Z h0 a1 "com/example/qingniao/qingniao/packets/Publish" "retain" "Z" (.int x3)) : Con l Z (⟨"com/example/qingniao/qingniao/packets/Publish", "flags", "()I"⟩ : MethodName) prog_62_method_3_code 1 (some .int) ({ frames := 0, cells := 0, slots := 0, locals := 0 } : Room) #[(.ref a1)] h0 (fun v h L => v = some (.int (own_fl x1 x2 x3)) ∧ h = h0 ∧ L = []) := by
  refine w_body (Ls := #[.val (.ref a1)]) pn_9 (fun m => ef_rm2 m a1) ?_
  intro p e s m below meth c T0 X0 hx hby hml hown hnm hret hlk hZ e0
  refine w_aloadN X0 hx hby n9_0 rfl rfl ?_
  refine w_getF X0 hx hby hZ hown (host := "") (Or.inl (hw _ t_49)) Via.refl e0 F1 n9_1 fun T1 X1 e1 => ?_
  refine f_if_eq X1 hx hby n9_4 (fun q4 => ?_) (fun q4 => ?_)
  · refine w_iconst X1 hx hby (0 : Int32) n9_12 rfl ?_
    refine w_aloadN X1 hx hby n9_13 rfl rfl ?_
    refine w_getF X1 hx hby hZ hown (host := "") (Or.inl (hw _ t_45)) Via.refl e1 F2 n9_14 fun T2 X2 e2 => ?_
    refine w_iconst X2 hx hby (1 : Int32) n9_17 rfl ?_
    refine w_ishl X2 hx hby n9_18 ?_
    refine w_ior X2 hx hby n9_19 ?_
    refine w_aloadN X2 hx hby n9_20 rfl rfl ?_
    refine w_getF X2 hx hby hZ hown (host := "") (Or.inl (hw _ t_47)) Via.refl e2 F3 n9_21 fun T3 X3 e3 => ?_
    refine f_if_eq X3 hx hby n9_24 (fun q24 => ?_) (fun q24 => ?_)
    · refine w_iconst X3 hx hby (0 : Int32) n9_31 rfl ?_
      refine w_ior X3 hx hby n9_32 ?_
      refine w_retI X3 hx hby e3 hlk hret n9_33 (by decide) (by decide) ?_
      exact ⟨congrArg (fun q => some (Value.int q)) (by first | (unfold own_fl; rw [if_pos q4, if_pos q24] <;> rfl) | simp [own_fl, own_nar1, own_nar0, q4, q24]), rfl, rfl⟩
    · refine w_iconst X3 hx hby (1 : Int32) n9_27 rfl ?_
      refine w_goto X3 hx hby n9_28 ?_
      refine w_ior X3 hx hby n9_32 ?_
      refine w_retI X3 hx hby e3 hlk hret n9_33 (by decide) (by decide) ?_
      exact ⟨congrArg (fun q => some (Value.int q)) (by first | (unfold own_fl; rw [if_pos q4, if_neg q24] <;> rfl) | simp [own_fl, own_nar1, own_nar0, q4, q24]), rfl, rfl⟩
  · refine w_bipush X1 hx hby (8 : Int32) n9_7 rfl ?_
    refine w_goto X1 hx hby n9_9 ?_
    refine w_aloadN X1 hx hby n9_13 rfl rfl ?_
    refine w_getF X1 hx hby hZ hown (host := "") (Or.inl (hw _ t_45)) Via.refl e1 F2 n9_14 fun T4 X4 e4 => ?_
    refine w_iconst X4 hx hby (1 : Int32) n9_17 rfl ?_
    refine w_ishl X4 hx hby n9_18 ?_
    refine w_ior X4 hx hby n9_19 ?_
    refine w_aloadN X4 hx hby n9_20 rfl rfl ?_
    refine w_getF X4 hx hby hZ hown (host := "") (Or.inl (hw _ t_47)) Via.refl e4 F3 n9_21 fun T5 X5 e5 => ?_
    refine f_if_eq X5 hx hby n9_24 (fun q24 => ?_) (fun q24 => ?_)
    · refine w_iconst X5 hx hby (0 : Int32) n9_31 rfl ?_
      refine w_ior X5 hx hby n9_32 ?_
      refine w_retI X5 hx hby e5 hlk hret n9_33 (by decide) (by decide) ?_
      exact ⟨congrArg (fun q => some (Value.int q)) (by first | (unfold own_fl; rw [if_neg q4, if_pos q24] <;> rfl) | simp [own_fl, own_nar1, own_nar0, q4, q24]), rfl, rfl⟩
    · refine w_iconst X5 hx hby (1 : Int32) n9_27 rfl ?_
      refine w_goto X5 hx hby n9_28 ?_
      refine w_ior X5 hx hby n9_32 ?_
      refine w_retI X5 hx hby e5 hlk hret n9_33 (by decide) (by decide) ?_
      exact ⟨congrArg (fun q => some (Value.int q)) (by first | (unfold own_fl; rw [if_neg q4, if_neg q24] <;> rfl) | simp [own_fl, own_nar1, own_nar0, q4, q24]), rfl, rfl⟩
set_option maxRecDepth 65536 in
set_option maxHeartbeats 4000000 in
theorem ef_law0 (m : MethodId) (x0 : Int32) (x1 : Int32) (x2 : Int32) (x3 : Int32) : entryFrame m #[(.int x0), (.int x1), (.int x2), (.int x3)] maxLocals = mkF m 0 #[.val (.int x0), .val (.int x1), .val (.int x2), .val (.int x3), .unset, .unset, .unset, .unset, .unset, .unset, .unset, .unset, .unset, .unset, .unset] [] := by first | (simp [entryFrame, mkF, argsToLocals, Value.category, maxLocals]; done) | rfl
set_option maxRecDepth 65536 in
set_option maxHeartbeats 40000000 in
theorem law0 (l : Launch) (Z : State) (a0 : Array Value) (hw : ∀ d ∈ tables_1, d.before a0 Z = true) (zc y1 y2 y3 y4 : Int32) (h0 : Heap) (S_C : Sta Z h0 "java/lang/String" "COMPACT_STRINGS" "Z" (.int zc)) (P3 : ¬ zc = 0) : Con l Z x code maxLocals ret room_1 #[(.int y1), (.int y2), (.int y3), (.int y4)] h0 (fun v h L => v = some (.int 1) ∧ Fr h0.size L) := by
  refine w_body (Ls := #[.val (.int y1), .val (.int y2), .val (.int y3), .val (.int y4), .unset, .unset, .unset, .unset, .unset, .unset, .unset, .unset, .unset, .unset, .unset]) pn_0 (fun m => ef_law0 m y1 y2 y3 y4) ?_
  intro p e s m below meth c T0 X0 hx hby hml hown hnm hret hlk hZ e0
  have hml : c.maxLocals = 15 := hml
  refine w_iloadN X0 hx hby n0_0 rfl ?_
  refine w_ldcI X0 hx hby hZ hown (hw _ t_0) n0_1 ?_
  refine w_iand X0 hx hby n0_3 ?_
  refine w_iconst X0 hx hby (3 : Int32) n0_4 rfl ?_
  refine w_irem X0 hx hby n0_5 (by decide) ?_
  refine w_istore X0 hx hby #[.val (.int y1), .val (.int y2), .val (.int y3), .val (.int y4), .val (.int ((y1 &&& (2147483647 : Int32)) % (3 : Int32))), .unset, .unset, .unset, .unset, .unset, .unset, .unset, .unset, .unset, .unset] n0_6 rfl ?_
  refine w_iloadN X0 hx hby n0_8 rfl ?_
  refine w_iconst X0 hx hby (1 : Int32) n0_9 rfl ?_
  refine w_iand X0 hx hby n0_10 ?_
  refine f_if_eq X0 hx hby n0_11 (fun q11 => ?_) (fun q11 => ?_)
  · refine w_iconst X0 hx hby (0 : Int32) n0_18 rfl ?_
    refine w_istore X0 hx hby #[.val (.int y1), .val (.int y2), .val (.int y3), .val (.int y4), .val (.int ((y1 &&& (2147483647 : Int32)) % (3 : Int32))), .val (.int (0 : Int32)), .unset, .unset, .unset, .unset, .unset, .unset, .unset, .unset, .unset] n0_19 rfl ?_
    refine w_iloadN X0 hx hby n0_21 rfl ?_
    refine w_iconst X0 hx hby (2 : Int32) n0_22 rfl ?_
    refine w_iand X0 hx hby n0_23 ?_
    refine f_if_eq X0 hx hby n0_24 (fun q24 => ?_) (fun q24 => ?_)
    · refine w_iconst X0 hx hby (0 : Int32) n0_31 rfl ?_
      refine w_istore X0 hx hby #[.val (.int y1), .val (.int y2), .val (.int y3), .val (.int y4), .val (.int ((y1 &&& (2147483647 : Int32)) % (3 : Int32))), .val (.int (0 : Int32)), .val (.int (0 : Int32)), .unset, .unset, .unset, .unset, .unset, .unset, .unset, .unset] n0_32 rfl ?_
      refine w_iconst X0 hx hby (1 : Int32) n0_34 rfl ?_
      refine w_newP X0 hx hby hZ (aty := .char) (hw _ t_1) e0 n0_35 (by decide) 1 (by decide) (by decide) (by decide) (by decide) fun T1 h1 b1 k1 g1 X1 e1 E1 A1 => ?_
      have old_b1 : h0.size ≤ b1 := Nat.le_trans (Nat.le_refl h0.size) (Nat.le_of_eq g1.symm)
      have z2 : h0.size ≤ h1.size := Nat.le_trans (Nat.le_refl h0.size) E1.1
      have V1 : Arv Z h1 b1 k1 .char (1 : Int32) [(.int (0 : Int32))] (.int (0 : Int32)) := (Arv.new A1 (by decide)).pad (pad_rep [] (.int (0 : Int32)) 1)
      refine w_astore X1 hx hby #[.val (.int y1), .val (.int y2), .val (.int y3), .val (.int y4), .val (.int ((y1 &&& (2147483647 : Int32)) % (3 : Int32))), .val (.int (0 : Int32)), .val (.int (0 : Int32)), .val (.ref b1), .unset, .unset, .unset, .unset, .unset, .unset, .unset] n0_37 rfl rfl ?_
      refine w_aload X1 hx hby n0_39 rfl rfl ?_
      refine w_iconst X1 hx hby (0 : Int32) n0_41 rfl ?_
      refine w_iloadN X1 hx hby n0_42 rfl ?_
      refine w_sipush X1 hx hby (255 : Int32) n0_43 rfl ?_
      refine w_iand X1 hx hby n0_46 ?_
      refine w_i2c X1 hx hby n0_47 ?_
      obtain ⟨cl3, Ar3, qk3, Sz3, Nn3, Ha3, Gf3⟩ := id V1
      refine w_stC X1 hx hby hZ e1 Ar3 (j := (0 : Int32)) (inb_of Sz3 ⟨by decide, by decide⟩) n0_48 fun T3 h3 X3 e3 W3 => ?_
      have V3 : Arv Z h3 b1 k1 .char (1 : Int32) [(.int (nar .char ((y4 &&& (255 : Int32)).toUInt32.toUInt16.toUInt32.toInt32)))] (.int (0 : Int32)) := Arv.set Ar3 qk3 Sz3 Nn3 Ha3 Gf3 (fits_nar_char _) W3 0 rfl (Nat.le_of_ble_eq_true rfl)
      have N3 := Fr.snoc X3 (Fr.nil h0.size) old_b1
      have z4 : h0.size ≤ h3.size := Nat.le_trans z2 (Keep.of_wr W3).1
      refine w_newO X3 hx hby hZ hown (hw _ t_2) (hw _ t_3) (hw _ t_4) e3 n0_49 (by decide) (by decide) fun T5 h5 b5 g5 X5 e5 E5 A5 D5 => ?_
      have ne_b1_b5 : b1 ≠ b5 := Nat.ne_of_lt (Nat.lt_of_lt_of_eq V3.lt g5.symm)
      have old_b5 : h0.size ≤ b5 := Nat.le_trans z4 (Nat.le_of_eq g5.symm)
      have z6 : h0.size ≤ h5.size := Nat.le_trans z4 E5.1
      have F5_topic : Fld Z h5 b5 "com/example/qingniao/qingniao/packets/Publish" "topic" "Ljava/lang/String;" .null := D5 (Or.inr (hw _ t_44)) (ty := (.object "java/lang/String")) (by decide)
      have F5_qos : Fld Z h5 b5 "com/example/qingniao/qingniao/packets/Publish" "qos" "I" (.int (0 : Int32)) := D5 (Or.inr (hw _ t_46)) (ty := .int) (by decide)
      have F5_retain : Fld Z h5 b5 "com/example/qingniao/qingniao/packets/Publish" "retain" "Z" (.int (0 : Int32)) := D5 (Or.inr (hw _ t_48)) (ty := .boolean) (by decide)
      have F5_dup : Fld Z h5 b5 "com/example/qingniao/qingniao/packets/Publish" "dup" "Z" (.int (0 : Int32)) := D5 (Or.inr (hw _ t_50)) (ty := .boolean) (by decide)
      have F5_packetId : Fld Z h5 b5 "com/example/qingniao/qingniao/packets/Publish" "packetId" "I" (.int (0 : Int32)) := D5 (Or.inr (hw _ t_52)) (ty := .int) (by decide)
      have F5_payload : Fld Z h5 b5 "com/example/qingniao/qingniao/packets/Publish" "payload" "[B" .null := D5 (Or.inr (hw _ t_54)) (ty := (.array .byte)) (by decide)
      refine w_dup X5 hx hby n0_52 rfl ?_
      refine w_newO X5 hx hby hZ hown (hw _ t_5) (hw _ t_6) (hw _ t_7) e5 n0_53 (by decide) (by decide) fun T7 h7 b7 g7 X7 e7 E7 A7 D7 => ?_
      have f8 := (V3.ext E5)
      have ne_b1_b7 : b1 ≠ b7 := Nat.ne_of_lt (Nat.lt_of_lt_of_eq f8.lt g7.symm)
      have ne_b5_b7 : b5 ≠ b7 := Nat.ne_of_lt (Nat.lt_of_lt_of_eq A5.lt g7.symm)
      have old_b7 : h0.size ≤ b7 := Nat.le_trans z6 (Nat.le_of_eq g7.symm)
      have z9 : h0.size ≤ h7.size := Nat.le_trans z6 E7.1
      have F7_coder : Fld Z h7 b7 "java/lang/String" "coder" "B" (.int (0 : Int32)) := D7 (Or.inr (hw _ t_31)) (ty := .byte) (by decide)
      have F7_value : Fld Z h7 b7 "java/lang/String" "value" "[B" .null := D7 (Or.inr (hw _ t_33)) (ty := (.array .byte)) (by decide)
      refine w_dup X7 hx hby n0_56 rfl ?_
      refine w_aload X7 hx hby n0_57 rfl rfl ?_
      have f10 := (f8.ext E7)
      have f11 := ((((S_C.ext E1).wr W3).ext E5).ext E7)
      have hws12 : ∀ d ∈ StrChars.Road.words, d.before a0 Z = true := fun d hd => hw d ((by decide +kernel : ∀ d ∈ StrChars.Road.words, d ∈ tables_1) d hd)
      refine w_called (call_NK X7 hx hby hZ hown (y := (⟨"java/lang/String", "<init>", "([C)V"⟩ : MethodName)) (argsL := [(.ref b1)]) (rest := [(.ref b7), (.ref b5), (.ref b5)]) (Wd := 3) (a := b7) rfl (hw _ t_8) (hw _ t_9) (hw _ t_10) (by decide) (StrChars.Road.backV (W := 3) hZ hws12 (kI := 4) (hw _ t_6) (cs := [nar .char ((y4 &&& (255 : Int32)).toUInt32.toUInt16.toUInt32.toInt32)]) (bs := [(nar .char ((y4 &&& (255 : Int32)).toUInt32.toUInt16.toUInt32.toInt32)).toInt8.toInt32]) (n := 1) old_b7 z9 A7 F7_value F7_coder f10 f11 P3 rfl rfl (by decide) (by decide) (own_lat y4) rfl (by decide) (by decide)) rfl n0_59 (by rw [hml]; rfl) (lenOf pd_2967 rfl) rfl (by decide) (by decide) e7) fun v12 T12 L12 X12 Q12 => ?_
      obtain ⟨rfl, n12, k12, ea12, cc12, tt12, kb12, -, -, -, cv12, -⟩ := Q12
      have N12 := Fr.app N3 n12
      have z13 : h0.size ≤ T12.heap.size := Nat.le_trans z9 k12.1
      show Wp p e below s _ _ _ T12 (mkF m 62 #[.val (.int y1), .val (.int y2), .val (.int y3), .val (.int y4), .val (.int ((y1 &&& (2147483647 : Int32)) % (3 : Int32))), .val (.int (0 : Int32)), .val (.int (0 : Int32)), .val (.ref b1), .unset, .unset, .unset, .unset, .unset, .unset, .unset] [(.ref b7), (.ref b5), (.ref b5)])
      refine w_iload X12 hx hby n0_62 rfl ?_
      refine w_iload X12 hx hby n0_64 rfl ?_
      refine w_iload X12 hx hby n0_66 rfl ?_
      refine w_iloadN X12 hx hby n0_68 rfl ?_
      refine w_iconst X12 hx hby (0 : Int32) n0_69 rfl ?_
      refine w_newP X12 hx hby hZ (aty := .byte) (hw _ t_23) rfl n0_70 (by decide) 0 (by decide) (by decide) (by decide) (by decide) fun T14 h14 b14 k14 g14 X14 e14 E14 A14 => ?_
      have f15 := (f10.keep k12 (ninS ne_b1_b7 nin0))
      have ne_b1_b14 : b1 ≠ b14 := Nat.ne_of_lt (Nat.lt_of_lt_of_eq f15.lt g14.symm)
      have f16 := ((A5.ext E7).keep k12)
      have ne_b5_b14 : b5 ≠ b14 := Nat.ne_of_lt (Nat.lt_of_lt_of_eq f16.lt g14.symm)
      have ne_b7_b14 : b7 ≠ b14 := Nat.ne_of_lt (Nat.lt_of_lt_of_eq ea12.lt g14.symm)
      have old_b14 : h0.size ≤ b14 := Nat.le_trans z13 (Nat.le_of_eq g14.symm)
      have z17 : h0.size ≤ h14.size := Nat.le_trans z13 E14.1
      have V14 : Arv Z h14 b14 k14 .byte (0 : Int32) [] (.int (0 : Int32)) := (Arv.new A14 (by decide)).pad (pad_rep [] (.int (0 : Int32)) 0)
      have f18 := (f16.ext E14)
      have f19 := (((F5_topic.ext E7).keep k12 (ninS ne_b5_b7 nin0)).ext E14)
      have f20 := (((F5_qos.ext E7).keep k12 (ninS ne_b5_b7 nin0)).ext E14)
      have f21 := (((F5_retain.ext E7).keep k12 (ninS ne_b5_b7 nin0)).ext E14)
      have f22 := (((F5_dup.ext E7).keep k12 (ninS ne_b5_b7 nin0)).ext E14)
      have f23 := (((F5_packetId.ext E7).keep k12 (ninS ne_b5_b7 nin0)).ext E14)
      have f24 := (((F5_payload.ext E7).keep k12 (ninS ne_b5_b7 nin0)).ext E14)
      refine w_called (call_N X14 hx hby hZ hown (argsL := [(.ref b7), (.int ((y1 &&& (2147483647 : Int32)) % (3 : Int32))), (.int (0 : Int32)), (.int (0 : Int32)), (.int y3), (.ref b14)]) (rest := [(.ref b5)]) (Wd := 1) (a := b5) rfl (hw _ t_34) (hw _ t_35) (hw _ t_4) (hw _ t_36) (by decide) (rm1 l Z a0 hw b5 b7 ((y1 &&& (2147483647 : Int32)) % (3 : Int32)) (0 : Int32) (0 : Int32) y3 b14 h14 h0.size z17 old_b5 f18 f19 f20 f21 f22 f23 f24) rfl n0_72 (by rw [hml]; rfl) (lenOf pd_46178 rfl) rfl (by decide) (by decide) (by decide) (by decide) e14) fun v25 T25 L25 X25 Q25 => ?_
      obtain ⟨rfl, n25, k25, ea25, c25_topic, c25_qos, c25_retain, c25_dup, c25_packetId, c25_payload⟩ := Q25
      have N25 := Fr.app N12 n25
      have z26 : h0.size ≤ T25.heap.size := Nat.le_trans z17 k25.1
      show Wp p e below s _ _ _ T25 (mkF m 75 #[.val (.int y1), .val (.int y2), .val (.int y3), .val (.int y4), .val (.int ((y1 &&& (2147483647 : Int32)) % (3 : Int32))), .val (.int (0 : Int32)), .val (.int (0 : Int32)), .val (.ref b1), .unset, .unset, .unset, .unset, .unset, .unset, .unset] [(.ref b5)])
      refine w_astore X25 hx hby #[.val (.int y1), .val (.int y2), .val (.int y3), .val (.int y4), .val (.int ((y1 &&& (2147483647 : Int32)) % (3 : Int32))), .val (.int (0 : Int32)), .val (.int (0 : Int32)), .val (.ref b1), .val (.ref b5), .unset, .unset, .unset, .unset, .unset, .unset] n0_75 rfl rfl ?_
      refine w_aload X25 hx hby n0_77 rfl rfl ?_
      refine w_calledp (call_V X25 hx hby hZ hown (argsL := []) (rest := []) (Wd := 0) (a := b5) (hw _ t_55) (hw _ t_56) (hw _ t_58) (hw _ t_57) (hw _ t_4) (hw _ t_59) (by decide) ea25 (rm2 l Z a0 hw b5 (nar .boolean (0 : Int32)) ((y1 &&& (2147483647 : Int32)) % (3 : Int32)) (nar .boolean (0 : Int32)) T25.heap c25_dup c25_qos c25_retain) rfl n0_79 (by rw [hml]; rfl) (lenOf pd_1265 rfl) rfl (by decide) (by decide) (by decide) (by decide) rfl) rfl rfl fun T27 X27 e27 => ?_
      rcases own_three y1 with hq | hq | hq
      · rw [hq, show (own_fl (nar .boolean (0 : Int32)) (0 : Int32) (nar .boolean (0 : Int32))) = (0 : Int32) from by decide]
        refine w_istore X27 hx hby #[.val (.int y1), .val (.int y2), .val (.int y3), .val (.int y4), .val (.int (0 : Int32)), .val (.int (0 : Int32)), .val (.int (0 : Int32)), .val (.ref b1), .val (.ref b5), .val (.int (0 : Int32)), .unset, .unset, .unset, .unset, .unset] n0_82 rfl ?_
        refine w_iload X27 hx hby n0_84 rfl ?_
        refine f_if_eq X27 hx hby n0_86 (fun q86 => ?_) (fun q86 => by exact absurd q86 (by decide))
        refine w_iconst X27 hx hby (0 : Int32) n0_94 rfl ?_
        refine w_iload X27 hx hby n0_95 rfl ?_
        refine w_iconst X27 hx hby (2 : Int32) n0_97 rfl ?_
        refine w_imul X27 hx hby n0_98 ?_
        refine w_iadd X27 hx hby n0_99 ?_
        refine w_iload X27 hx hby n0_100 rfl ?_
        refine f_if_eq X27 hx hby n0_102 (fun q102 => ?_) (fun q102 => by exact absurd q102 (by decide))
        refine w_iconst X27 hx hby (0 : Int32) n0_109 rfl ?_
        refine w_iadd X27 hx hby n0_110 ?_
        refine w_istore X27 hx hby #[.val (.int y1), .val (.int y2), .val (.int y3), .val (.int y4), .val (.int (0 : Int32)), .val (.int (0 : Int32)), .val (.int (0 : Int32)), .val (.ref b1), .val (.ref b5), .val (.int (0 : Int32)), .val (.int (((0 : Int32) + ((0 : Int32) * (2 : Int32))) + (0 : Int32))), .unset, .unset, .unset, .unset] n0_111 rfl ?_
        refine w_iload X27 hx hby n0_113 rfl ?_
        refine f_if_lt X27 hx hby n0_115 (fun q115 => by exact absurd q115 (by decide)) (fun q115 => ?_)
        refine w_iload X27 hx hby n0_118 rfl ?_
        refine w_bipush X27 hx hby (15 : Int32) n0_120 rfl ?_
        refine f_icmp_gt X27 hx hby n0_122 (fun q122 => by exact absurd q122 (by decide)) (fun q122 => ?_)
        refine w_iconst X27 hx hby (1 : Int32) n0_125 rfl ?_
        refine w_goto X27 hx hby n0_126 ?_
        refine w_istore X27 hx hby #[.val (.int y1), .val (.int y2), .val (.int y3), .val (.int y4), .val (.int (0 : Int32)), .val (.int (0 : Int32)), .val (.int (0 : Int32)), .val (.ref b1), .val (.ref b5), .val (.int (0 : Int32)), .val (.int (((0 : Int32) + ((0 : Int32) * (2 : Int32))) + (0 : Int32))), .val (.int (1 : Int32)), .unset, .unset, .unset] n0_130 rfl ?_
        refine w_iload X27 hx hby n0_132 rfl ?_
        refine w_iconst X27 hx hby (1 : Int32) n0_134 rfl ?_
        refine w_iushr X27 hx hby n0_135 ?_
        refine w_iconst X27 hx hby (3 : Int32) n0_136 rfl ?_
        refine w_iand X27 hx hby n0_137 ?_
        refine w_iload X27 hx hby n0_138 rfl ?_
        refine f_icmp_ne X27 hx hby n0_140 (fun q140 => by exact absurd q140 (by decide)) (fun q140 => ?_)
        refine w_iconst X27 hx hby (1 : Int32) n0_143 rfl ?_
        refine w_goto X27 hx hby n0_144 ?_
        refine w_istore X27 hx hby #[.val (.int y1), .val (.int y2), .val (.int y3), .val (.int y4), .val (.int (0 : Int32)), .val (.int (0 : Int32)), .val (.int (0 : Int32)), .val (.ref b1), .val (.ref b5), .val (.int (0 : Int32)), .val (.int (((0 : Int32) + ((0 : Int32) * (2 : Int32))) + (0 : Int32))), .val (.int (1 : Int32)), .val (.int (1 : Int32)), .unset, .unset] n0_148 rfl ?_
        refine w_iload X27 hx hby n0_150 rfl ?_
        refine w_bipush X27 hx hby (8 : Int32) n0_152 rfl ?_
        refine w_iand X27 hx hby n0_154 ?_
        refine f_if_eq X27 hx hby n0_155 (fun q155 => ?_) (fun q155 => by exact absurd q155 (by decide))
        refine w_iconst X27 hx hby (0 : Int32) n0_162 rfl ?_
        refine w_iload X27 hx hby n0_163 rfl ?_
        refine f_icmp_ne X27 hx hby n0_165 (fun q165 => by exact absurd q165 (by decide)) (fun q165 => ?_)
        refine w_iconst X27 hx hby (1 : Int32) n0_168 rfl ?_
        refine w_goto X27 hx hby n0_169 ?_
        refine w_istore X27 hx hby #[.val (.int y1), .val (.int y2), .val (.int y3), .val (.int y4), .val (.int (0 : Int32)), .val (.int (0 : Int32)), .val (.int (0 : Int32)), .val (.ref b1), .val (.ref b5), .val (.int (0 : Int32)), .val (.int (((0 : Int32) + ((0 : Int32) * (2 : Int32))) + (0 : Int32))), .val (.int (1 : Int32)), .val (.int (1 : Int32)), .val (.int (1 : Int32)), .unset] n0_173 rfl ?_
        refine w_iload X27 hx hby n0_175 rfl ?_
        refine w_iconst X27 hx hby (1 : Int32) n0_177 rfl ?_
        refine w_iand X27 hx hby n0_178 ?_
        refine f_if_eq X27 hx hby n0_179 (fun q179 => ?_) (fun q179 => by exact absurd q179 (by decide))
        refine w_iconst X27 hx hby (0 : Int32) n0_186 rfl ?_
        refine w_iload X27 hx hby n0_187 rfl ?_
        refine f_icmp_ne X27 hx hby n0_189 (fun q189 => by exact absurd q189 (by decide)) (fun q189 => ?_)
        refine w_iconst X27 hx hby (1 : Int32) n0_192 rfl ?_
        refine w_goto X27 hx hby n0_193 ?_
        refine w_istore X27 hx hby #[.val (.int y1), .val (.int y2), .val (.int y3), .val (.int y4), .val (.int (0 : Int32)), .val (.int (0 : Int32)), .val (.int (0 : Int32)), .val (.ref b1), .val (.ref b5), .val (.int (0 : Int32)), .val (.int (((0 : Int32) + ((0 : Int32) * (2 : Int32))) + (0 : Int32))), .val (.int (1 : Int32)), .val (.int (1 : Int32)), .val (.int (1 : Int32)), .val (.int (1 : Int32))] n0_197 rfl ?_
        refine w_iload X27 hx hby n0_199 rfl ?_
        refine w_iload X27 hx hby n0_201 rfl ?_
        refine f_icmp_ne X27 hx hby n0_203 (fun q203 => by exact absurd q203 (by decide)) (fun q203 => ?_)
        refine w_iload X27 hx hby n0_206 rfl ?_
        refine f_if_eq X27 hx hby n0_208 (fun q208 => by exact absurd q208 (by decide)) (fun q208 => ?_)
        refine w_iload X27 hx hby n0_211 rfl ?_
        refine f_if_eq X27 hx hby n0_213 (fun q213 => by exact absurd q213 (by decide)) (fun q213 => ?_)
        refine w_iload X27 hx hby n0_216 rfl ?_
        refine f_if_eq X27 hx hby n0_218 (fun q218 => by exact absurd q218 (by decide)) (fun q218 => ?_)
        refine w_iload X27 hx hby n0_221 rfl ?_
        refine f_if_eq X27 hx hby n0_223 (fun q223 => by exact absurd q223 (by decide)) (fun q223 => ?_)
        refine w_iconst X27 hx hby (1 : Int32) n0_226 rfl ?_
        refine w_goto X27 hx hby n0_227 ?_
        refine w_retN X27 hx hby e27 hlk hret (by simp) n0_231 (by decide) (by decide) ?_
        exact ⟨rfl, N25⟩
      · rw [hq, show (own_fl (nar .boolean (0 : Int32)) (1 : Int32) (nar .boolean (0 : Int32))) = (2 : Int32) from by decide]
        refine w_istore X27 hx hby #[.val (.int y1), .val (.int y2), .val (.int y3), .val (.int y4), .val (.int (1 : Int32)), .val (.int (0 : Int32)), .val (.int (0 : Int32)), .val (.ref b1), .val (.ref b5), .val (.int (2 : Int32)), .unset, .unset, .unset, .unset, .unset] n0_82 rfl ?_
        refine w_iload X27 hx hby n0_84 rfl ?_
        refine f_if_eq X27 hx hby n0_86 (fun q86 => ?_) (fun q86 => by exact absurd q86 (by decide))
        refine w_iconst X27 hx hby (0 : Int32) n0_94 rfl ?_
        refine w_iload X27 hx hby n0_95 rfl ?_
        refine w_iconst X27 hx hby (2 : Int32) n0_97 rfl ?_
        refine w_imul X27 hx hby n0_98 ?_
        refine w_iadd X27 hx hby n0_99 ?_
        refine w_iload X27 hx hby n0_100 rfl ?_
        refine f_if_eq X27 hx hby n0_102 (fun q102 => ?_) (fun q102 => by exact absurd q102 (by decide))
        refine w_iconst X27 hx hby (0 : Int32) n0_109 rfl ?_
        refine w_iadd X27 hx hby n0_110 ?_
        refine w_istore X27 hx hby #[.val (.int y1), .val (.int y2), .val (.int y3), .val (.int y4), .val (.int (1 : Int32)), .val (.int (0 : Int32)), .val (.int (0 : Int32)), .val (.ref b1), .val (.ref b5), .val (.int (2 : Int32)), .val (.int (((0 : Int32) + ((1 : Int32) * (2 : Int32))) + (0 : Int32))), .unset, .unset, .unset, .unset] n0_111 rfl ?_
        refine w_iload X27 hx hby n0_113 rfl ?_
        refine f_if_lt X27 hx hby n0_115 (fun q115 => by exact absurd q115 (by decide)) (fun q115 => ?_)
        refine w_iload X27 hx hby n0_118 rfl ?_
        refine w_bipush X27 hx hby (15 : Int32) n0_120 rfl ?_
        refine f_icmp_gt X27 hx hby n0_122 (fun q122 => by exact absurd q122 (by decide)) (fun q122 => ?_)
        refine w_iconst X27 hx hby (1 : Int32) n0_125 rfl ?_
        refine w_goto X27 hx hby n0_126 ?_
        refine w_istore X27 hx hby #[.val (.int y1), .val (.int y2), .val (.int y3), .val (.int y4), .val (.int (1 : Int32)), .val (.int (0 : Int32)), .val (.int (0 : Int32)), .val (.ref b1), .val (.ref b5), .val (.int (2 : Int32)), .val (.int (((0 : Int32) + ((1 : Int32) * (2 : Int32))) + (0 : Int32))), .val (.int (1 : Int32)), .unset, .unset, .unset] n0_130 rfl ?_
        refine w_iload X27 hx hby n0_132 rfl ?_
        refine w_iconst X27 hx hby (1 : Int32) n0_134 rfl ?_
        refine w_iushr X27 hx hby n0_135 ?_
        refine w_iconst X27 hx hby (3 : Int32) n0_136 rfl ?_
        refine w_iand X27 hx hby n0_137 ?_
        refine w_iload X27 hx hby n0_138 rfl ?_
        refine f_icmp_ne X27 hx hby n0_140 (fun q140 => by exact absurd q140 (by decide)) (fun q140 => ?_)
        refine w_iconst X27 hx hby (1 : Int32) n0_143 rfl ?_
        refine w_goto X27 hx hby n0_144 ?_
        refine w_istore X27 hx hby #[.val (.int y1), .val (.int y2), .val (.int y3), .val (.int y4), .val (.int (1 : Int32)), .val (.int (0 : Int32)), .val (.int (0 : Int32)), .val (.ref b1), .val (.ref b5), .val (.int (2 : Int32)), .val (.int (((0 : Int32) + ((1 : Int32) * (2 : Int32))) + (0 : Int32))), .val (.int (1 : Int32)), .val (.int (1 : Int32)), .unset, .unset] n0_148 rfl ?_
        refine w_iload X27 hx hby n0_150 rfl ?_
        refine w_bipush X27 hx hby (8 : Int32) n0_152 rfl ?_
        refine w_iand X27 hx hby n0_154 ?_
        refine f_if_eq X27 hx hby n0_155 (fun q155 => ?_) (fun q155 => by exact absurd q155 (by decide))
        refine w_iconst X27 hx hby (0 : Int32) n0_162 rfl ?_
        refine w_iload X27 hx hby n0_163 rfl ?_
        refine f_icmp_ne X27 hx hby n0_165 (fun q165 => by exact absurd q165 (by decide)) (fun q165 => ?_)
        refine w_iconst X27 hx hby (1 : Int32) n0_168 rfl ?_
        refine w_goto X27 hx hby n0_169 ?_
        refine w_istore X27 hx hby #[.val (.int y1), .val (.int y2), .val (.int y3), .val (.int y4), .val (.int (1 : Int32)), .val (.int (0 : Int32)), .val (.int (0 : Int32)), .val (.ref b1), .val (.ref b5), .val (.int (2 : Int32)), .val (.int (((0 : Int32) + ((1 : Int32) * (2 : Int32))) + (0 : Int32))), .val (.int (1 : Int32)), .val (.int (1 : Int32)), .val (.int (1 : Int32)), .unset] n0_173 rfl ?_
        refine w_iload X27 hx hby n0_175 rfl ?_
        refine w_iconst X27 hx hby (1 : Int32) n0_177 rfl ?_
        refine w_iand X27 hx hby n0_178 ?_
        refine f_if_eq X27 hx hby n0_179 (fun q179 => ?_) (fun q179 => by exact absurd q179 (by decide))
        refine w_iconst X27 hx hby (0 : Int32) n0_186 rfl ?_
        refine w_iload X27 hx hby n0_187 rfl ?_
        refine f_icmp_ne X27 hx hby n0_189 (fun q189 => by exact absurd q189 (by decide)) (fun q189 => ?_)
        refine w_iconst X27 hx hby (1 : Int32) n0_192 rfl ?_
        refine w_goto X27 hx hby n0_193 ?_
        refine w_istore X27 hx hby #[.val (.int y1), .val (.int y2), .val (.int y3), .val (.int y4), .val (.int (1 : Int32)), .val (.int (0 : Int32)), .val (.int (0 : Int32)), .val (.ref b1), .val (.ref b5), .val (.int (2 : Int32)), .val (.int (((0 : Int32) + ((1 : Int32) * (2 : Int32))) + (0 : Int32))), .val (.int (1 : Int32)), .val (.int (1 : Int32)), .val (.int (1 : Int32)), .val (.int (1 : Int32))] n0_197 rfl ?_
        refine w_iload X27 hx hby n0_199 rfl ?_
        refine w_iload X27 hx hby n0_201 rfl ?_
        refine f_icmp_ne X27 hx hby n0_203 (fun q203 => by exact absurd q203 (by decide)) (fun q203 => ?_)
        refine w_iload X27 hx hby n0_206 rfl ?_
        refine f_if_eq X27 hx hby n0_208 (fun q208 => by exact absurd q208 (by decide)) (fun q208 => ?_)
        refine w_iload X27 hx hby n0_211 rfl ?_
        refine f_if_eq X27 hx hby n0_213 (fun q213 => by exact absurd q213 (by decide)) (fun q213 => ?_)
        refine w_iload X27 hx hby n0_216 rfl ?_
        refine f_if_eq X27 hx hby n0_218 (fun q218 => by exact absurd q218 (by decide)) (fun q218 => ?_)
        refine w_iload X27 hx hby n0_221 rfl ?_
        refine f_if_eq X27 hx hby n0_223 (fun q223 => by exact absurd q223 (by decide)) (fun q223 => ?_)
        refine w_iconst X27 hx hby (1 : Int32) n0_226 rfl ?_
        refine w_goto X27 hx hby n0_227 ?_
        refine w_retN X27 hx hby e27 hlk hret (by simp) n0_231 (by decide) (by decide) ?_
        exact ⟨rfl, N25⟩
      · rw [hq, show (own_fl (nar .boolean (0 : Int32)) (2 : Int32) (nar .boolean (0 : Int32))) = (4 : Int32) from by decide]
        refine w_istore X27 hx hby #[.val (.int y1), .val (.int y2), .val (.int y3), .val (.int y4), .val (.int (2 : Int32)), .val (.int (0 : Int32)), .val (.int (0 : Int32)), .val (.ref b1), .val (.ref b5), .val (.int (4 : Int32)), .unset, .unset, .unset, .unset, .unset] n0_82 rfl ?_
        refine w_iload X27 hx hby n0_84 rfl ?_
        refine f_if_eq X27 hx hby n0_86 (fun q86 => ?_) (fun q86 => by exact absurd q86 (by decide))
        refine w_iconst X27 hx hby (0 : Int32) n0_94 rfl ?_
        refine w_iload X27 hx hby n0_95 rfl ?_
        refine w_iconst X27 hx hby (2 : Int32) n0_97 rfl ?_
        refine w_imul X27 hx hby n0_98 ?_
        refine w_iadd X27 hx hby n0_99 ?_
        refine w_iload X27 hx hby n0_100 rfl ?_
        refine f_if_eq X27 hx hby n0_102 (fun q102 => ?_) (fun q102 => by exact absurd q102 (by decide))
        refine w_iconst X27 hx hby (0 : Int32) n0_109 rfl ?_
        refine w_iadd X27 hx hby n0_110 ?_
        refine w_istore X27 hx hby #[.val (.int y1), .val (.int y2), .val (.int y3), .val (.int y4), .val (.int (2 : Int32)), .val (.int (0 : Int32)), .val (.int (0 : Int32)), .val (.ref b1), .val (.ref b5), .val (.int (4 : Int32)), .val (.int (((0 : Int32) + ((2 : Int32) * (2 : Int32))) + (0 : Int32))), .unset, .unset, .unset, .unset] n0_111 rfl ?_
        refine w_iload X27 hx hby n0_113 rfl ?_
        refine f_if_lt X27 hx hby n0_115 (fun q115 => by exact absurd q115 (by decide)) (fun q115 => ?_)
        refine w_iload X27 hx hby n0_118 rfl ?_
        refine w_bipush X27 hx hby (15 : Int32) n0_120 rfl ?_
        refine f_icmp_gt X27 hx hby n0_122 (fun q122 => by exact absurd q122 (by decide)) (fun q122 => ?_)
        refine w_iconst X27 hx hby (1 : Int32) n0_125 rfl ?_
        refine w_goto X27 hx hby n0_126 ?_
        refine w_istore X27 hx hby #[.val (.int y1), .val (.int y2), .val (.int y3), .val (.int y4), .val (.int (2 : Int32)), .val (.int (0 : Int32)), .val (.int (0 : Int32)), .val (.ref b1), .val (.ref b5), .val (.int (4 : Int32)), .val (.int (((0 : Int32) + ((2 : Int32) * (2 : Int32))) + (0 : Int32))), .val (.int (1 : Int32)), .unset, .unset, .unset] n0_130 rfl ?_
        refine w_iload X27 hx hby n0_132 rfl ?_
        refine w_iconst X27 hx hby (1 : Int32) n0_134 rfl ?_
        refine w_iushr X27 hx hby n0_135 ?_
        refine w_iconst X27 hx hby (3 : Int32) n0_136 rfl ?_
        refine w_iand X27 hx hby n0_137 ?_
        refine w_iload X27 hx hby n0_138 rfl ?_
        refine f_icmp_ne X27 hx hby n0_140 (fun q140 => by exact absurd q140 (by decide)) (fun q140 => ?_)
        refine w_iconst X27 hx hby (1 : Int32) n0_143 rfl ?_
        refine w_goto X27 hx hby n0_144 ?_
        refine w_istore X27 hx hby #[.val (.int y1), .val (.int y2), .val (.int y3), .val (.int y4), .val (.int (2 : Int32)), .val (.int (0 : Int32)), .val (.int (0 : Int32)), .val (.ref b1), .val (.ref b5), .val (.int (4 : Int32)), .val (.int (((0 : Int32) + ((2 : Int32) * (2 : Int32))) + (0 : Int32))), .val (.int (1 : Int32)), .val (.int (1 : Int32)), .unset, .unset] n0_148 rfl ?_
        refine w_iload X27 hx hby n0_150 rfl ?_
        refine w_bipush X27 hx hby (8 : Int32) n0_152 rfl ?_
        refine w_iand X27 hx hby n0_154 ?_
        refine f_if_eq X27 hx hby n0_155 (fun q155 => ?_) (fun q155 => by exact absurd q155 (by decide))
        refine w_iconst X27 hx hby (0 : Int32) n0_162 rfl ?_
        refine w_iload X27 hx hby n0_163 rfl ?_
        refine f_icmp_ne X27 hx hby n0_165 (fun q165 => by exact absurd q165 (by decide)) (fun q165 => ?_)
        refine w_iconst X27 hx hby (1 : Int32) n0_168 rfl ?_
        refine w_goto X27 hx hby n0_169 ?_
        refine w_istore X27 hx hby #[.val (.int y1), .val (.int y2), .val (.int y3), .val (.int y4), .val (.int (2 : Int32)), .val (.int (0 : Int32)), .val (.int (0 : Int32)), .val (.ref b1), .val (.ref b5), .val (.int (4 : Int32)), .val (.int (((0 : Int32) + ((2 : Int32) * (2 : Int32))) + (0 : Int32))), .val (.int (1 : Int32)), .val (.int (1 : Int32)), .val (.int (1 : Int32)), .unset] n0_173 rfl ?_
        refine w_iload X27 hx hby n0_175 rfl ?_
        refine w_iconst X27 hx hby (1 : Int32) n0_177 rfl ?_
        refine w_iand X27 hx hby n0_178 ?_
        refine f_if_eq X27 hx hby n0_179 (fun q179 => ?_) (fun q179 => by exact absurd q179 (by decide))
        refine w_iconst X27 hx hby (0 : Int32) n0_186 rfl ?_
        refine w_iload X27 hx hby n0_187 rfl ?_
        refine f_icmp_ne X27 hx hby n0_189 (fun q189 => by exact absurd q189 (by decide)) (fun q189 => ?_)
        refine w_iconst X27 hx hby (1 : Int32) n0_192 rfl ?_
        refine w_goto X27 hx hby n0_193 ?_
        refine w_istore X27 hx hby #[.val (.int y1), .val (.int y2), .val (.int y3), .val (.int y4), .val (.int (2 : Int32)), .val (.int (0 : Int32)), .val (.int (0 : Int32)), .val (.ref b1), .val (.ref b5), .val (.int (4 : Int32)), .val (.int (((0 : Int32) + ((2 : Int32) * (2 : Int32))) + (0 : Int32))), .val (.int (1 : Int32)), .val (.int (1 : Int32)), .val (.int (1 : Int32)), .val (.int (1 : Int32))] n0_197 rfl ?_
        refine w_iload X27 hx hby n0_199 rfl ?_
        refine w_iload X27 hx hby n0_201 rfl ?_
        refine f_icmp_ne X27 hx hby n0_203 (fun q203 => by exact absurd q203 (by decide)) (fun q203 => ?_)
        refine w_iload X27 hx hby n0_206 rfl ?_
        refine f_if_eq X27 hx hby n0_208 (fun q208 => by exact absurd q208 (by decide)) (fun q208 => ?_)
        refine w_iload X27 hx hby n0_211 rfl ?_
        refine f_if_eq X27 hx hby n0_213 (fun q213 => by exact absurd q213 (by decide)) (fun q213 => ?_)
        refine w_iload X27 hx hby n0_216 rfl ?_
        refine f_if_eq X27 hx hby n0_218 (fun q218 => by exact absurd q218 (by decide)) (fun q218 => ?_)
        refine w_iload X27 hx hby n0_221 rfl ?_
        refine f_if_eq X27 hx hby n0_223 (fun q223 => by exact absurd q223 (by decide)) (fun q223 => ?_)
        refine w_iconst X27 hx hby (1 : Int32) n0_226 rfl ?_
        refine w_goto X27 hx hby n0_227 ?_
        refine w_retN X27 hx hby e27 hlk hret (by simp) n0_231 (by decide) (by decide) ?_
        exact ⟨rfl, N25⟩
    · refine w_iconst X0 hx hby (1 : Int32) n0_27 rfl ?_
      refine w_goto X0 hx hby n0_28 ?_
      refine w_istore X0 hx hby #[.val (.int y1), .val (.int y2), .val (.int y3), .val (.int y4), .val (.int ((y1 &&& (2147483647 : Int32)) % (3 : Int32))), .val (.int (0 : Int32)), .val (.int (1 : Int32)), .unset, .unset, .unset, .unset, .unset, .unset, .unset, .unset] n0_32 rfl ?_
      refine w_iconst X0 hx hby (1 : Int32) n0_34 rfl ?_
      refine w_newP X0 hx hby hZ (aty := .char) (hw _ t_1) e0 n0_35 (by decide) 1 (by decide) (by decide) (by decide) (by decide) fun T28 h28 b28 k28 g28 X28 e28 E28 A28 => ?_
      have old_b28 : h0.size ≤ b28 := Nat.le_trans (Nat.le_refl h0.size) (Nat.le_of_eq g28.symm)
      have z29 : h0.size ≤ h28.size := Nat.le_trans (Nat.le_refl h0.size) E28.1
      have V28 : Arv Z h28 b28 k28 .char (1 : Int32) [(.int (0 : Int32))] (.int (0 : Int32)) := (Arv.new A28 (by decide)).pad (pad_rep [] (.int (0 : Int32)) 1)
      refine w_astore X28 hx hby #[.val (.int y1), .val (.int y2), .val (.int y3), .val (.int y4), .val (.int ((y1 &&& (2147483647 : Int32)) % (3 : Int32))), .val (.int (0 : Int32)), .val (.int (1 : Int32)), .val (.ref b28), .unset, .unset, .unset, .unset, .unset, .unset, .unset] n0_37 rfl rfl ?_
      refine w_aload X28 hx hby n0_39 rfl rfl ?_
      refine w_iconst X28 hx hby (0 : Int32) n0_41 rfl ?_
      refine w_iloadN X28 hx hby n0_42 rfl ?_
      refine w_sipush X28 hx hby (255 : Int32) n0_43 rfl ?_
      refine w_iand X28 hx hby n0_46 ?_
      refine w_i2c X28 hx hby n0_47 ?_
      obtain ⟨cl30, Ar30, qk30, Sz30, Nn30, Ha30, Gf30⟩ := id V28
      refine w_stC X28 hx hby hZ e28 Ar30 (j := (0 : Int32)) (inb_of Sz30 ⟨by decide, by decide⟩) n0_48 fun T30 h30 X30 e30 W30 => ?_
      have V30 : Arv Z h30 b28 k28 .char (1 : Int32) [(.int (nar .char ((y4 &&& (255 : Int32)).toUInt32.toUInt16.toUInt32.toInt32)))] (.int (0 : Int32)) := Arv.set Ar30 qk30 Sz30 Nn30 Ha30 Gf30 (fits_nar_char _) W30 0 rfl (Nat.le_of_ble_eq_true rfl)
      have N30 := Fr.snoc X30 (Fr.nil h0.size) old_b28
      have z31 : h0.size ≤ h30.size := Nat.le_trans z29 (Keep.of_wr W30).1
      refine w_newO X30 hx hby hZ hown (hw _ t_2) (hw _ t_3) (hw _ t_4) e30 n0_49 (by decide) (by decide) fun T32 h32 b32 g32 X32 e32 E32 A32 D32 => ?_
      have ne_b28_b32 : b28 ≠ b32 := Nat.ne_of_lt (Nat.lt_of_lt_of_eq V30.lt g32.symm)
      have old_b32 : h0.size ≤ b32 := Nat.le_trans z31 (Nat.le_of_eq g32.symm)
      have z33 : h0.size ≤ h32.size := Nat.le_trans z31 E32.1
      have F32_topic : Fld Z h32 b32 "com/example/qingniao/qingniao/packets/Publish" "topic" "Ljava/lang/String;" .null := D32 (Or.inr (hw _ t_44)) (ty := (.object "java/lang/String")) (by decide)
      have F32_qos : Fld Z h32 b32 "com/example/qingniao/qingniao/packets/Publish" "qos" "I" (.int (0 : Int32)) := D32 (Or.inr (hw _ t_46)) (ty := .int) (by decide)
      have F32_retain : Fld Z h32 b32 "com/example/qingniao/qingniao/packets/Publish" "retain" "Z" (.int (0 : Int32)) := D32 (Or.inr (hw _ t_48)) (ty := .boolean) (by decide)
      have F32_dup : Fld Z h32 b32 "com/example/qingniao/qingniao/packets/Publish" "dup" "Z" (.int (0 : Int32)) := D32 (Or.inr (hw _ t_50)) (ty := .boolean) (by decide)
      have F32_packetId : Fld Z h32 b32 "com/example/qingniao/qingniao/packets/Publish" "packetId" "I" (.int (0 : Int32)) := D32 (Or.inr (hw _ t_52)) (ty := .int) (by decide)
      have F32_payload : Fld Z h32 b32 "com/example/qingniao/qingniao/packets/Publish" "payload" "[B" .null := D32 (Or.inr (hw _ t_54)) (ty := (.array .byte)) (by decide)
      refine w_dup X32 hx hby n0_52 rfl ?_
      refine w_newO X32 hx hby hZ hown (hw _ t_5) (hw _ t_6) (hw _ t_7) e32 n0_53 (by decide) (by decide) fun T34 h34 b34 g34 X34 e34 E34 A34 D34 => ?_
      have f35 := (V30.ext E32)
      have ne_b28_b34 : b28 ≠ b34 := Nat.ne_of_lt (Nat.lt_of_lt_of_eq f35.lt g34.symm)
      have ne_b32_b34 : b32 ≠ b34 := Nat.ne_of_lt (Nat.lt_of_lt_of_eq A32.lt g34.symm)
      have old_b34 : h0.size ≤ b34 := Nat.le_trans z33 (Nat.le_of_eq g34.symm)
      have z36 : h0.size ≤ h34.size := Nat.le_trans z33 E34.1
      have F34_coder : Fld Z h34 b34 "java/lang/String" "coder" "B" (.int (0 : Int32)) := D34 (Or.inr (hw _ t_31)) (ty := .byte) (by decide)
      have F34_value : Fld Z h34 b34 "java/lang/String" "value" "[B" .null := D34 (Or.inr (hw _ t_33)) (ty := (.array .byte)) (by decide)
      refine w_dup X34 hx hby n0_56 rfl ?_
      refine w_aload X34 hx hby n0_57 rfl rfl ?_
      have f37 := (f35.ext E34)
      have f38 := ((((S_C.ext E28).wr W30).ext E32).ext E34)
      have hws39 : ∀ d ∈ StrChars.Road.words, d.before a0 Z = true := fun d hd => hw d ((by decide +kernel : ∀ d ∈ StrChars.Road.words, d ∈ tables_1) d hd)
      refine w_called (call_NK X34 hx hby hZ hown (y := (⟨"java/lang/String", "<init>", "([C)V"⟩ : MethodName)) (argsL := [(.ref b28)]) (rest := [(.ref b34), (.ref b32), (.ref b32)]) (Wd := 3) (a := b34) rfl (hw _ t_8) (hw _ t_9) (hw _ t_10) (by decide) (StrChars.Road.backV (W := 3) hZ hws39 (kI := 4) (hw _ t_6) (cs := [nar .char ((y4 &&& (255 : Int32)).toUInt32.toUInt16.toUInt32.toInt32)]) (bs := [(nar .char ((y4 &&& (255 : Int32)).toUInt32.toUInt16.toUInt32.toInt32)).toInt8.toInt32]) (n := 1) old_b34 z36 A34 F34_value F34_coder f37 f38 P3 rfl rfl (by decide) (by decide) (own_lat y4) rfl (by decide) (by decide)) rfl n0_59 (by rw [hml]; rfl) (lenOf pd_2967 rfl) rfl (by decide) (by decide) e34) fun v39 T39 L39 X39 Q39 => ?_
      obtain ⟨rfl, n39, k39, ea39, cc39, tt39, kb39, -, -, -, cv39, -⟩ := Q39
      have N39 := Fr.app N30 n39
      have z40 : h0.size ≤ T39.heap.size := Nat.le_trans z36 k39.1
      show Wp p e below s _ _ _ T39 (mkF m 62 #[.val (.int y1), .val (.int y2), .val (.int y3), .val (.int y4), .val (.int ((y1 &&& (2147483647 : Int32)) % (3 : Int32))), .val (.int (0 : Int32)), .val (.int (1 : Int32)), .val (.ref b28), .unset, .unset, .unset, .unset, .unset, .unset, .unset] [(.ref b34), (.ref b32), (.ref b32)])
      refine w_iload X39 hx hby n0_62 rfl ?_
      refine w_iload X39 hx hby n0_64 rfl ?_
      refine w_iload X39 hx hby n0_66 rfl ?_
      refine w_iloadN X39 hx hby n0_68 rfl ?_
      refine w_iconst X39 hx hby (0 : Int32) n0_69 rfl ?_
      refine w_newP X39 hx hby hZ (aty := .byte) (hw _ t_23) rfl n0_70 (by decide) 0 (by decide) (by decide) (by decide) (by decide) fun T41 h41 b41 k41 g41 X41 e41 E41 A41 => ?_
      have f42 := (f37.keep k39 (ninS ne_b28_b34 nin0))
      have ne_b28_b41 : b28 ≠ b41 := Nat.ne_of_lt (Nat.lt_of_lt_of_eq f42.lt g41.symm)
      have f43 := ((A32.ext E34).keep k39)
      have ne_b32_b41 : b32 ≠ b41 := Nat.ne_of_lt (Nat.lt_of_lt_of_eq f43.lt g41.symm)
      have ne_b34_b41 : b34 ≠ b41 := Nat.ne_of_lt (Nat.lt_of_lt_of_eq ea39.lt g41.symm)
      have old_b41 : h0.size ≤ b41 := Nat.le_trans z40 (Nat.le_of_eq g41.symm)
      have z44 : h0.size ≤ h41.size := Nat.le_trans z40 E41.1
      have V41 : Arv Z h41 b41 k41 .byte (0 : Int32) [] (.int (0 : Int32)) := (Arv.new A41 (by decide)).pad (pad_rep [] (.int (0 : Int32)) 0)
      have f45 := (f43.ext E41)
      have f46 := (((F32_topic.ext E34).keep k39 (ninS ne_b32_b34 nin0)).ext E41)
      have f47 := (((F32_qos.ext E34).keep k39 (ninS ne_b32_b34 nin0)).ext E41)
      have f48 := (((F32_retain.ext E34).keep k39 (ninS ne_b32_b34 nin0)).ext E41)
      have f49 := (((F32_dup.ext E34).keep k39 (ninS ne_b32_b34 nin0)).ext E41)
      have f50 := (((F32_packetId.ext E34).keep k39 (ninS ne_b32_b34 nin0)).ext E41)
      have f51 := (((F32_payload.ext E34).keep k39 (ninS ne_b32_b34 nin0)).ext E41)
      refine w_called (call_N X41 hx hby hZ hown (argsL := [(.ref b34), (.int ((y1 &&& (2147483647 : Int32)) % (3 : Int32))), (.int (0 : Int32)), (.int (1 : Int32)), (.int y3), (.ref b41)]) (rest := [(.ref b32)]) (Wd := 1) (a := b32) rfl (hw _ t_34) (hw _ t_35) (hw _ t_4) (hw _ t_36) (by decide) (rm1 l Z a0 hw b32 b34 ((y1 &&& (2147483647 : Int32)) % (3 : Int32)) (0 : Int32) (1 : Int32) y3 b41 h41 h0.size z44 old_b32 f45 f46 f47 f48 f49 f50 f51) rfl n0_72 (by rw [hml]; rfl) (lenOf pd_46178 rfl) rfl (by decide) (by decide) (by decide) (by decide) e41) fun v52 T52 L52 X52 Q52 => ?_
      obtain ⟨rfl, n52, k52, ea52, c52_topic, c52_qos, c52_retain, c52_dup, c52_packetId, c52_payload⟩ := Q52
      have N52 := Fr.app N39 n52
      have z53 : h0.size ≤ T52.heap.size := Nat.le_trans z44 k52.1
      show Wp p e below s _ _ _ T52 (mkF m 75 #[.val (.int y1), .val (.int y2), .val (.int y3), .val (.int y4), .val (.int ((y1 &&& (2147483647 : Int32)) % (3 : Int32))), .val (.int (0 : Int32)), .val (.int (1 : Int32)), .val (.ref b28), .unset, .unset, .unset, .unset, .unset, .unset, .unset] [(.ref b32)])
      refine w_astore X52 hx hby #[.val (.int y1), .val (.int y2), .val (.int y3), .val (.int y4), .val (.int ((y1 &&& (2147483647 : Int32)) % (3 : Int32))), .val (.int (0 : Int32)), .val (.int (1 : Int32)), .val (.ref b28), .val (.ref b32), .unset, .unset, .unset, .unset, .unset, .unset] n0_75 rfl rfl ?_
      refine w_aload X52 hx hby n0_77 rfl rfl ?_
      refine w_calledp (call_V X52 hx hby hZ hown (argsL := []) (rest := []) (Wd := 0) (a := b32) (hw _ t_55) (hw _ t_56) (hw _ t_58) (hw _ t_57) (hw _ t_4) (hw _ t_59) (by decide) ea52 (rm2 l Z a0 hw b32 (nar .boolean (1 : Int32)) ((y1 &&& (2147483647 : Int32)) % (3 : Int32)) (nar .boolean (0 : Int32)) T52.heap c52_dup c52_qos c52_retain) rfl n0_79 (by rw [hml]; rfl) (lenOf pd_1265 rfl) rfl (by decide) (by decide) (by decide) (by decide) rfl) rfl rfl fun T54 X54 e54 => ?_
      rcases own_three y1 with hq | hq | hq
      · rw [hq, show (own_fl (nar .boolean (1 : Int32)) (0 : Int32) (nar .boolean (0 : Int32))) = (8 : Int32) from by decide]
        refine w_istore X54 hx hby #[.val (.int y1), .val (.int y2), .val (.int y3), .val (.int y4), .val (.int (0 : Int32)), .val (.int (0 : Int32)), .val (.int (1 : Int32)), .val (.ref b28), .val (.ref b32), .val (.int (8 : Int32)), .unset, .unset, .unset, .unset, .unset] n0_82 rfl ?_
        refine w_iload X54 hx hby n0_84 rfl ?_
        refine f_if_eq X54 hx hby n0_86 (fun q86 => by exact absurd q86 (by decide)) (fun q86 => ?_)
        refine w_bipush X54 hx hby (8 : Int32) n0_89 rfl ?_
        refine w_goto X54 hx hby n0_91 ?_
        refine w_iload X54 hx hby n0_95 rfl ?_
        refine w_iconst X54 hx hby (2 : Int32) n0_97 rfl ?_
        refine w_imul X54 hx hby n0_98 ?_
        refine w_iadd X54 hx hby n0_99 ?_
        refine w_iload X54 hx hby n0_100 rfl ?_
        refine f_if_eq X54 hx hby n0_102 (fun q102 => ?_) (fun q102 => by exact absurd q102 (by decide))
        refine w_iconst X54 hx hby (0 : Int32) n0_109 rfl ?_
        refine w_iadd X54 hx hby n0_110 ?_
        refine w_istore X54 hx hby #[.val (.int y1), .val (.int y2), .val (.int y3), .val (.int y4), .val (.int (0 : Int32)), .val (.int (0 : Int32)), .val (.int (1 : Int32)), .val (.ref b28), .val (.ref b32), .val (.int (8 : Int32)), .val (.int (((8 : Int32) + ((0 : Int32) * (2 : Int32))) + (0 : Int32))), .unset, .unset, .unset, .unset] n0_111 rfl ?_
        refine w_iload X54 hx hby n0_113 rfl ?_
        refine f_if_lt X54 hx hby n0_115 (fun q115 => by exact absurd q115 (by decide)) (fun q115 => ?_)
        refine w_iload X54 hx hby n0_118 rfl ?_
        refine w_bipush X54 hx hby (15 : Int32) n0_120 rfl ?_
        refine f_icmp_gt X54 hx hby n0_122 (fun q122 => by exact absurd q122 (by decide)) (fun q122 => ?_)
        refine w_iconst X54 hx hby (1 : Int32) n0_125 rfl ?_
        refine w_goto X54 hx hby n0_126 ?_
        refine w_istore X54 hx hby #[.val (.int y1), .val (.int y2), .val (.int y3), .val (.int y4), .val (.int (0 : Int32)), .val (.int (0 : Int32)), .val (.int (1 : Int32)), .val (.ref b28), .val (.ref b32), .val (.int (8 : Int32)), .val (.int (((8 : Int32) + ((0 : Int32) * (2 : Int32))) + (0 : Int32))), .val (.int (1 : Int32)), .unset, .unset, .unset] n0_130 rfl ?_
        refine w_iload X54 hx hby n0_132 rfl ?_
        refine w_iconst X54 hx hby (1 : Int32) n0_134 rfl ?_
        refine w_iushr X54 hx hby n0_135 ?_
        refine w_iconst X54 hx hby (3 : Int32) n0_136 rfl ?_
        refine w_iand X54 hx hby n0_137 ?_
        refine w_iload X54 hx hby n0_138 rfl ?_
        refine f_icmp_ne X54 hx hby n0_140 (fun q140 => by exact absurd q140 (by decide)) (fun q140 => ?_)
        refine w_iconst X54 hx hby (1 : Int32) n0_143 rfl ?_
        refine w_goto X54 hx hby n0_144 ?_
        refine w_istore X54 hx hby #[.val (.int y1), .val (.int y2), .val (.int y3), .val (.int y4), .val (.int (0 : Int32)), .val (.int (0 : Int32)), .val (.int (1 : Int32)), .val (.ref b28), .val (.ref b32), .val (.int (8 : Int32)), .val (.int (((8 : Int32) + ((0 : Int32) * (2 : Int32))) + (0 : Int32))), .val (.int (1 : Int32)), .val (.int (1 : Int32)), .unset, .unset] n0_148 rfl ?_
        refine w_iload X54 hx hby n0_150 rfl ?_
        refine w_bipush X54 hx hby (8 : Int32) n0_152 rfl ?_
        refine w_iand X54 hx hby n0_154 ?_
        refine f_if_eq X54 hx hby n0_155 (fun q155 => by exact absurd q155 (by decide)) (fun q155 => ?_)
        refine w_iconst X54 hx hby (1 : Int32) n0_158 rfl ?_
        refine w_goto X54 hx hby n0_159 ?_
        refine w_iload X54 hx hby n0_163 rfl ?_
        refine f_icmp_ne X54 hx hby n0_165 (fun q165 => by exact absurd q165 (by decide)) (fun q165 => ?_)
        refine w_iconst X54 hx hby (1 : Int32) n0_168 rfl ?_
        refine w_goto X54 hx hby n0_169 ?_
        refine w_istore X54 hx hby #[.val (.int y1), .val (.int y2), .val (.int y3), .val (.int y4), .val (.int (0 : Int32)), .val (.int (0 : Int32)), .val (.int (1 : Int32)), .val (.ref b28), .val (.ref b32), .val (.int (8 : Int32)), .val (.int (((8 : Int32) + ((0 : Int32) * (2 : Int32))) + (0 : Int32))), .val (.int (1 : Int32)), .val (.int (1 : Int32)), .val (.int (1 : Int32)), .unset] n0_173 rfl ?_
        refine w_iload X54 hx hby n0_175 rfl ?_
        refine w_iconst X54 hx hby (1 : Int32) n0_177 rfl ?_
        refine w_iand X54 hx hby n0_178 ?_
        refine f_if_eq X54 hx hby n0_179 (fun q179 => ?_) (fun q179 => by exact absurd q179 (by decide))
        refine w_iconst X54 hx hby (0 : Int32) n0_186 rfl ?_
        refine w_iload X54 hx hby n0_187 rfl ?_
        refine f_icmp_ne X54 hx hby n0_189 (fun q189 => by exact absurd q189 (by decide)) (fun q189 => ?_)
        refine w_iconst X54 hx hby (1 : Int32) n0_192 rfl ?_
        refine w_goto X54 hx hby n0_193 ?_
        refine w_istore X54 hx hby #[.val (.int y1), .val (.int y2), .val (.int y3), .val (.int y4), .val (.int (0 : Int32)), .val (.int (0 : Int32)), .val (.int (1 : Int32)), .val (.ref b28), .val (.ref b32), .val (.int (8 : Int32)), .val (.int (((8 : Int32) + ((0 : Int32) * (2 : Int32))) + (0 : Int32))), .val (.int (1 : Int32)), .val (.int (1 : Int32)), .val (.int (1 : Int32)), .val (.int (1 : Int32))] n0_197 rfl ?_
        refine w_iload X54 hx hby n0_199 rfl ?_
        refine w_iload X54 hx hby n0_201 rfl ?_
        refine f_icmp_ne X54 hx hby n0_203 (fun q203 => by exact absurd q203 (by decide)) (fun q203 => ?_)
        refine w_iload X54 hx hby n0_206 rfl ?_
        refine f_if_eq X54 hx hby n0_208 (fun q208 => by exact absurd q208 (by decide)) (fun q208 => ?_)
        refine w_iload X54 hx hby n0_211 rfl ?_
        refine f_if_eq X54 hx hby n0_213 (fun q213 => by exact absurd q213 (by decide)) (fun q213 => ?_)
        refine w_iload X54 hx hby n0_216 rfl ?_
        refine f_if_eq X54 hx hby n0_218 (fun q218 => by exact absurd q218 (by decide)) (fun q218 => ?_)
        refine w_iload X54 hx hby n0_221 rfl ?_
        refine f_if_eq X54 hx hby n0_223 (fun q223 => by exact absurd q223 (by decide)) (fun q223 => ?_)
        refine w_iconst X54 hx hby (1 : Int32) n0_226 rfl ?_
        refine w_goto X54 hx hby n0_227 ?_
        refine w_retN X54 hx hby e54 hlk hret (by simp) n0_231 (by decide) (by decide) ?_
        exact ⟨rfl, N52⟩
      · rw [hq, show (own_fl (nar .boolean (1 : Int32)) (1 : Int32) (nar .boolean (0 : Int32))) = (10 : Int32) from by decide]
        refine w_istore X54 hx hby #[.val (.int y1), .val (.int y2), .val (.int y3), .val (.int y4), .val (.int (1 : Int32)), .val (.int (0 : Int32)), .val (.int (1 : Int32)), .val (.ref b28), .val (.ref b32), .val (.int (10 : Int32)), .unset, .unset, .unset, .unset, .unset] n0_82 rfl ?_
        refine w_iload X54 hx hby n0_84 rfl ?_
        refine f_if_eq X54 hx hby n0_86 (fun q86 => by exact absurd q86 (by decide)) (fun q86 => ?_)
        refine w_bipush X54 hx hby (8 : Int32) n0_89 rfl ?_
        refine w_goto X54 hx hby n0_91 ?_
        refine w_iload X54 hx hby n0_95 rfl ?_
        refine w_iconst X54 hx hby (2 : Int32) n0_97 rfl ?_
        refine w_imul X54 hx hby n0_98 ?_
        refine w_iadd X54 hx hby n0_99 ?_
        refine w_iload X54 hx hby n0_100 rfl ?_
        refine f_if_eq X54 hx hby n0_102 (fun q102 => ?_) (fun q102 => by exact absurd q102 (by decide))
        refine w_iconst X54 hx hby (0 : Int32) n0_109 rfl ?_
        refine w_iadd X54 hx hby n0_110 ?_
        refine w_istore X54 hx hby #[.val (.int y1), .val (.int y2), .val (.int y3), .val (.int y4), .val (.int (1 : Int32)), .val (.int (0 : Int32)), .val (.int (1 : Int32)), .val (.ref b28), .val (.ref b32), .val (.int (10 : Int32)), .val (.int (((8 : Int32) + ((1 : Int32) * (2 : Int32))) + (0 : Int32))), .unset, .unset, .unset, .unset] n0_111 rfl ?_
        refine w_iload X54 hx hby n0_113 rfl ?_
        refine f_if_lt X54 hx hby n0_115 (fun q115 => by exact absurd q115 (by decide)) (fun q115 => ?_)
        refine w_iload X54 hx hby n0_118 rfl ?_
        refine w_bipush X54 hx hby (15 : Int32) n0_120 rfl ?_
        refine f_icmp_gt X54 hx hby n0_122 (fun q122 => by exact absurd q122 (by decide)) (fun q122 => ?_)
        refine w_iconst X54 hx hby (1 : Int32) n0_125 rfl ?_
        refine w_goto X54 hx hby n0_126 ?_
        refine w_istore X54 hx hby #[.val (.int y1), .val (.int y2), .val (.int y3), .val (.int y4), .val (.int (1 : Int32)), .val (.int (0 : Int32)), .val (.int (1 : Int32)), .val (.ref b28), .val (.ref b32), .val (.int (10 : Int32)), .val (.int (((8 : Int32) + ((1 : Int32) * (2 : Int32))) + (0 : Int32))), .val (.int (1 : Int32)), .unset, .unset, .unset] n0_130 rfl ?_
        refine w_iload X54 hx hby n0_132 rfl ?_
        refine w_iconst X54 hx hby (1 : Int32) n0_134 rfl ?_
        refine w_iushr X54 hx hby n0_135 ?_
        refine w_iconst X54 hx hby (3 : Int32) n0_136 rfl ?_
        refine w_iand X54 hx hby n0_137 ?_
        refine w_iload X54 hx hby n0_138 rfl ?_
        refine f_icmp_ne X54 hx hby n0_140 (fun q140 => by exact absurd q140 (by decide)) (fun q140 => ?_)
        refine w_iconst X54 hx hby (1 : Int32) n0_143 rfl ?_
        refine w_goto X54 hx hby n0_144 ?_
        refine w_istore X54 hx hby #[.val (.int y1), .val (.int y2), .val (.int y3), .val (.int y4), .val (.int (1 : Int32)), .val (.int (0 : Int32)), .val (.int (1 : Int32)), .val (.ref b28), .val (.ref b32), .val (.int (10 : Int32)), .val (.int (((8 : Int32) + ((1 : Int32) * (2 : Int32))) + (0 : Int32))), .val (.int (1 : Int32)), .val (.int (1 : Int32)), .unset, .unset] n0_148 rfl ?_
        refine w_iload X54 hx hby n0_150 rfl ?_
        refine w_bipush X54 hx hby (8 : Int32) n0_152 rfl ?_
        refine w_iand X54 hx hby n0_154 ?_
        refine f_if_eq X54 hx hby n0_155 (fun q155 => by exact absurd q155 (by decide)) (fun q155 => ?_)
        refine w_iconst X54 hx hby (1 : Int32) n0_158 rfl ?_
        refine w_goto X54 hx hby n0_159 ?_
        refine w_iload X54 hx hby n0_163 rfl ?_
        refine f_icmp_ne X54 hx hby n0_165 (fun q165 => by exact absurd q165 (by decide)) (fun q165 => ?_)
        refine w_iconst X54 hx hby (1 : Int32) n0_168 rfl ?_
        refine w_goto X54 hx hby n0_169 ?_
        refine w_istore X54 hx hby #[.val (.int y1), .val (.int y2), .val (.int y3), .val (.int y4), .val (.int (1 : Int32)), .val (.int (0 : Int32)), .val (.int (1 : Int32)), .val (.ref b28), .val (.ref b32), .val (.int (10 : Int32)), .val (.int (((8 : Int32) + ((1 : Int32) * (2 : Int32))) + (0 : Int32))), .val (.int (1 : Int32)), .val (.int (1 : Int32)), .val (.int (1 : Int32)), .unset] n0_173 rfl ?_
        refine w_iload X54 hx hby n0_175 rfl ?_
        refine w_iconst X54 hx hby (1 : Int32) n0_177 rfl ?_
        refine w_iand X54 hx hby n0_178 ?_
        refine f_if_eq X54 hx hby n0_179 (fun q179 => ?_) (fun q179 => by exact absurd q179 (by decide))
        refine w_iconst X54 hx hby (0 : Int32) n0_186 rfl ?_
        refine w_iload X54 hx hby n0_187 rfl ?_
        refine f_icmp_ne X54 hx hby n0_189 (fun q189 => by exact absurd q189 (by decide)) (fun q189 => ?_)
        refine w_iconst X54 hx hby (1 : Int32) n0_192 rfl ?_
        refine w_goto X54 hx hby n0_193 ?_
        refine w_istore X54 hx hby #[.val (.int y1), .val (.int y2), .val (.int y3), .val (.int y4), .val (.int (1 : Int32)), .val (.int (0 : Int32)), .val (.int (1 : Int32)), .val (.ref b28), .val (.ref b32), .val (.int (10 : Int32)), .val (.int (((8 : Int32) + ((1 : Int32) * (2 : Int32))) + (0 : Int32))), .val (.int (1 : Int32)), .val (.int (1 : Int32)), .val (.int (1 : Int32)), .val (.int (1 : Int32))] n0_197 rfl ?_
        refine w_iload X54 hx hby n0_199 rfl ?_
        refine w_iload X54 hx hby n0_201 rfl ?_
        refine f_icmp_ne X54 hx hby n0_203 (fun q203 => by exact absurd q203 (by decide)) (fun q203 => ?_)
        refine w_iload X54 hx hby n0_206 rfl ?_
        refine f_if_eq X54 hx hby n0_208 (fun q208 => by exact absurd q208 (by decide)) (fun q208 => ?_)
        refine w_iload X54 hx hby n0_211 rfl ?_
        refine f_if_eq X54 hx hby n0_213 (fun q213 => by exact absurd q213 (by decide)) (fun q213 => ?_)
        refine w_iload X54 hx hby n0_216 rfl ?_
        refine f_if_eq X54 hx hby n0_218 (fun q218 => by exact absurd q218 (by decide)) (fun q218 => ?_)
        refine w_iload X54 hx hby n0_221 rfl ?_
        refine f_if_eq X54 hx hby n0_223 (fun q223 => by exact absurd q223 (by decide)) (fun q223 => ?_)
        refine w_iconst X54 hx hby (1 : Int32) n0_226 rfl ?_
        refine w_goto X54 hx hby n0_227 ?_
        refine w_retN X54 hx hby e54 hlk hret (by simp) n0_231 (by decide) (by decide) ?_
        exact ⟨rfl, N52⟩
      · rw [hq, show (own_fl (nar .boolean (1 : Int32)) (2 : Int32) (nar .boolean (0 : Int32))) = (12 : Int32) from by decide]
        refine w_istore X54 hx hby #[.val (.int y1), .val (.int y2), .val (.int y3), .val (.int y4), .val (.int (2 : Int32)), .val (.int (0 : Int32)), .val (.int (1 : Int32)), .val (.ref b28), .val (.ref b32), .val (.int (12 : Int32)), .unset, .unset, .unset, .unset, .unset] n0_82 rfl ?_
        refine w_iload X54 hx hby n0_84 rfl ?_
        refine f_if_eq X54 hx hby n0_86 (fun q86 => by exact absurd q86 (by decide)) (fun q86 => ?_)
        refine w_bipush X54 hx hby (8 : Int32) n0_89 rfl ?_
        refine w_goto X54 hx hby n0_91 ?_
        refine w_iload X54 hx hby n0_95 rfl ?_
        refine w_iconst X54 hx hby (2 : Int32) n0_97 rfl ?_
        refine w_imul X54 hx hby n0_98 ?_
        refine w_iadd X54 hx hby n0_99 ?_
        refine w_iload X54 hx hby n0_100 rfl ?_
        refine f_if_eq X54 hx hby n0_102 (fun q102 => ?_) (fun q102 => by exact absurd q102 (by decide))
        refine w_iconst X54 hx hby (0 : Int32) n0_109 rfl ?_
        refine w_iadd X54 hx hby n0_110 ?_
        refine w_istore X54 hx hby #[.val (.int y1), .val (.int y2), .val (.int y3), .val (.int y4), .val (.int (2 : Int32)), .val (.int (0 : Int32)), .val (.int (1 : Int32)), .val (.ref b28), .val (.ref b32), .val (.int (12 : Int32)), .val (.int (((8 : Int32) + ((2 : Int32) * (2 : Int32))) + (0 : Int32))), .unset, .unset, .unset, .unset] n0_111 rfl ?_
        refine w_iload X54 hx hby n0_113 rfl ?_
        refine f_if_lt X54 hx hby n0_115 (fun q115 => by exact absurd q115 (by decide)) (fun q115 => ?_)
        refine w_iload X54 hx hby n0_118 rfl ?_
        refine w_bipush X54 hx hby (15 : Int32) n0_120 rfl ?_
        refine f_icmp_gt X54 hx hby n0_122 (fun q122 => by exact absurd q122 (by decide)) (fun q122 => ?_)
        refine w_iconst X54 hx hby (1 : Int32) n0_125 rfl ?_
        refine w_goto X54 hx hby n0_126 ?_
        refine w_istore X54 hx hby #[.val (.int y1), .val (.int y2), .val (.int y3), .val (.int y4), .val (.int (2 : Int32)), .val (.int (0 : Int32)), .val (.int (1 : Int32)), .val (.ref b28), .val (.ref b32), .val (.int (12 : Int32)), .val (.int (((8 : Int32) + ((2 : Int32) * (2 : Int32))) + (0 : Int32))), .val (.int (1 : Int32)), .unset, .unset, .unset] n0_130 rfl ?_
        refine w_iload X54 hx hby n0_132 rfl ?_
        refine w_iconst X54 hx hby (1 : Int32) n0_134 rfl ?_
        refine w_iushr X54 hx hby n0_135 ?_
        refine w_iconst X54 hx hby (3 : Int32) n0_136 rfl ?_
        refine w_iand X54 hx hby n0_137 ?_
        refine w_iload X54 hx hby n0_138 rfl ?_
        refine f_icmp_ne X54 hx hby n0_140 (fun q140 => by exact absurd q140 (by decide)) (fun q140 => ?_)
        refine w_iconst X54 hx hby (1 : Int32) n0_143 rfl ?_
        refine w_goto X54 hx hby n0_144 ?_
        refine w_istore X54 hx hby #[.val (.int y1), .val (.int y2), .val (.int y3), .val (.int y4), .val (.int (2 : Int32)), .val (.int (0 : Int32)), .val (.int (1 : Int32)), .val (.ref b28), .val (.ref b32), .val (.int (12 : Int32)), .val (.int (((8 : Int32) + ((2 : Int32) * (2 : Int32))) + (0 : Int32))), .val (.int (1 : Int32)), .val (.int (1 : Int32)), .unset, .unset] n0_148 rfl ?_
        refine w_iload X54 hx hby n0_150 rfl ?_
        refine w_bipush X54 hx hby (8 : Int32) n0_152 rfl ?_
        refine w_iand X54 hx hby n0_154 ?_
        refine f_if_eq X54 hx hby n0_155 (fun q155 => by exact absurd q155 (by decide)) (fun q155 => ?_)
        refine w_iconst X54 hx hby (1 : Int32) n0_158 rfl ?_
        refine w_goto X54 hx hby n0_159 ?_
        refine w_iload X54 hx hby n0_163 rfl ?_
        refine f_icmp_ne X54 hx hby n0_165 (fun q165 => by exact absurd q165 (by decide)) (fun q165 => ?_)
        refine w_iconst X54 hx hby (1 : Int32) n0_168 rfl ?_
        refine w_goto X54 hx hby n0_169 ?_
        refine w_istore X54 hx hby #[.val (.int y1), .val (.int y2), .val (.int y3), .val (.int y4), .val (.int (2 : Int32)), .val (.int (0 : Int32)), .val (.int (1 : Int32)), .val (.ref b28), .val (.ref b32), .val (.int (12 : Int32)), .val (.int (((8 : Int32) + ((2 : Int32) * (2 : Int32))) + (0 : Int32))), .val (.int (1 : Int32)), .val (.int (1 : Int32)), .val (.int (1 : Int32)), .unset] n0_173 rfl ?_
        refine w_iload X54 hx hby n0_175 rfl ?_
        refine w_iconst X54 hx hby (1 : Int32) n0_177 rfl ?_
        refine w_iand X54 hx hby n0_178 ?_
        refine f_if_eq X54 hx hby n0_179 (fun q179 => ?_) (fun q179 => by exact absurd q179 (by decide))
        refine w_iconst X54 hx hby (0 : Int32) n0_186 rfl ?_
        refine w_iload X54 hx hby n0_187 rfl ?_
        refine f_icmp_ne X54 hx hby n0_189 (fun q189 => by exact absurd q189 (by decide)) (fun q189 => ?_)
        refine w_iconst X54 hx hby (1 : Int32) n0_192 rfl ?_
        refine w_goto X54 hx hby n0_193 ?_
        refine w_istore X54 hx hby #[.val (.int y1), .val (.int y2), .val (.int y3), .val (.int y4), .val (.int (2 : Int32)), .val (.int (0 : Int32)), .val (.int (1 : Int32)), .val (.ref b28), .val (.ref b32), .val (.int (12 : Int32)), .val (.int (((8 : Int32) + ((2 : Int32) * (2 : Int32))) + (0 : Int32))), .val (.int (1 : Int32)), .val (.int (1 : Int32)), .val (.int (1 : Int32)), .val (.int (1 : Int32))] n0_197 rfl ?_
        refine w_iload X54 hx hby n0_199 rfl ?_
        refine w_iload X54 hx hby n0_201 rfl ?_
        refine f_icmp_ne X54 hx hby n0_203 (fun q203 => by exact absurd q203 (by decide)) (fun q203 => ?_)
        refine w_iload X54 hx hby n0_206 rfl ?_
        refine f_if_eq X54 hx hby n0_208 (fun q208 => by exact absurd q208 (by decide)) (fun q208 => ?_)
        refine w_iload X54 hx hby n0_211 rfl ?_
        refine f_if_eq X54 hx hby n0_213 (fun q213 => by exact absurd q213 (by decide)) (fun q213 => ?_)
        refine w_iload X54 hx hby n0_216 rfl ?_
        refine f_if_eq X54 hx hby n0_218 (fun q218 => by exact absurd q218 (by decide)) (fun q218 => ?_)
        refine w_iload X54 hx hby n0_221 rfl ?_
        refine f_if_eq X54 hx hby n0_223 (fun q223 => by exact absurd q223 (by decide)) (fun q223 => ?_)
        refine w_iconst X54 hx hby (1 : Int32) n0_226 rfl ?_
        refine w_goto X54 hx hby n0_227 ?_
        refine w_retN X54 hx hby e54 hlk hret (by simp) n0_231 (by decide) (by decide) ?_
        exact ⟨rfl, N52⟩
  · refine w_iconst X0 hx hby (1 : Int32) n0_14 rfl ?_
    refine w_goto X0 hx hby n0_15 ?_
    refine w_istore X0 hx hby #[.val (.int y1), .val (.int y2), .val (.int y3), .val (.int y4), .val (.int ((y1 &&& (2147483647 : Int32)) % (3 : Int32))), .val (.int (1 : Int32)), .unset, .unset, .unset, .unset, .unset, .unset, .unset, .unset, .unset] n0_19 rfl ?_
    refine w_iloadN X0 hx hby n0_21 rfl ?_
    refine w_iconst X0 hx hby (2 : Int32) n0_22 rfl ?_
    refine w_iand X0 hx hby n0_23 ?_
    refine f_if_eq X0 hx hby n0_24 (fun q24 => ?_) (fun q24 => ?_)
    · refine w_iconst X0 hx hby (0 : Int32) n0_31 rfl ?_
      refine w_istore X0 hx hby #[.val (.int y1), .val (.int y2), .val (.int y3), .val (.int y4), .val (.int ((y1 &&& (2147483647 : Int32)) % (3 : Int32))), .val (.int (1 : Int32)), .val (.int (0 : Int32)), .unset, .unset, .unset, .unset, .unset, .unset, .unset, .unset] n0_32 rfl ?_
      refine w_iconst X0 hx hby (1 : Int32) n0_34 rfl ?_
      refine w_newP X0 hx hby hZ (aty := .char) (hw _ t_1) e0 n0_35 (by decide) 1 (by decide) (by decide) (by decide) (by decide) fun T55 h55 b55 k55 g55 X55 e55 E55 A55 => ?_
      have old_b55 : h0.size ≤ b55 := Nat.le_trans (Nat.le_refl h0.size) (Nat.le_of_eq g55.symm)
      have z56 : h0.size ≤ h55.size := Nat.le_trans (Nat.le_refl h0.size) E55.1
      have V55 : Arv Z h55 b55 k55 .char (1 : Int32) [(.int (0 : Int32))] (.int (0 : Int32)) := (Arv.new A55 (by decide)).pad (pad_rep [] (.int (0 : Int32)) 1)
      refine w_astore X55 hx hby #[.val (.int y1), .val (.int y2), .val (.int y3), .val (.int y4), .val (.int ((y1 &&& (2147483647 : Int32)) % (3 : Int32))), .val (.int (1 : Int32)), .val (.int (0 : Int32)), .val (.ref b55), .unset, .unset, .unset, .unset, .unset, .unset, .unset] n0_37 rfl rfl ?_
      refine w_aload X55 hx hby n0_39 rfl rfl ?_
      refine w_iconst X55 hx hby (0 : Int32) n0_41 rfl ?_
      refine w_iloadN X55 hx hby n0_42 rfl ?_
      refine w_sipush X55 hx hby (255 : Int32) n0_43 rfl ?_
      refine w_iand X55 hx hby n0_46 ?_
      refine w_i2c X55 hx hby n0_47 ?_
      obtain ⟨cl57, Ar57, qk57, Sz57, Nn57, Ha57, Gf57⟩ := id V55
      refine w_stC X55 hx hby hZ e55 Ar57 (j := (0 : Int32)) (inb_of Sz57 ⟨by decide, by decide⟩) n0_48 fun T57 h57 X57 e57 W57 => ?_
      have V57 : Arv Z h57 b55 k55 .char (1 : Int32) [(.int (nar .char ((y4 &&& (255 : Int32)).toUInt32.toUInt16.toUInt32.toInt32)))] (.int (0 : Int32)) := Arv.set Ar57 qk57 Sz57 Nn57 Ha57 Gf57 (fits_nar_char _) W57 0 rfl (Nat.le_of_ble_eq_true rfl)
      have N57 := Fr.snoc X57 (Fr.nil h0.size) old_b55
      have z58 : h0.size ≤ h57.size := Nat.le_trans z56 (Keep.of_wr W57).1
      refine w_newO X57 hx hby hZ hown (hw _ t_2) (hw _ t_3) (hw _ t_4) e57 n0_49 (by decide) (by decide) fun T59 h59 b59 g59 X59 e59 E59 A59 D59 => ?_
      have ne_b55_b59 : b55 ≠ b59 := Nat.ne_of_lt (Nat.lt_of_lt_of_eq V57.lt g59.symm)
      have old_b59 : h0.size ≤ b59 := Nat.le_trans z58 (Nat.le_of_eq g59.symm)
      have z60 : h0.size ≤ h59.size := Nat.le_trans z58 E59.1
      have F59_topic : Fld Z h59 b59 "com/example/qingniao/qingniao/packets/Publish" "topic" "Ljava/lang/String;" .null := D59 (Or.inr (hw _ t_44)) (ty := (.object "java/lang/String")) (by decide)
      have F59_qos : Fld Z h59 b59 "com/example/qingniao/qingniao/packets/Publish" "qos" "I" (.int (0 : Int32)) := D59 (Or.inr (hw _ t_46)) (ty := .int) (by decide)
      have F59_retain : Fld Z h59 b59 "com/example/qingniao/qingniao/packets/Publish" "retain" "Z" (.int (0 : Int32)) := D59 (Or.inr (hw _ t_48)) (ty := .boolean) (by decide)
      have F59_dup : Fld Z h59 b59 "com/example/qingniao/qingniao/packets/Publish" "dup" "Z" (.int (0 : Int32)) := D59 (Or.inr (hw _ t_50)) (ty := .boolean) (by decide)
      have F59_packetId : Fld Z h59 b59 "com/example/qingniao/qingniao/packets/Publish" "packetId" "I" (.int (0 : Int32)) := D59 (Or.inr (hw _ t_52)) (ty := .int) (by decide)
      have F59_payload : Fld Z h59 b59 "com/example/qingniao/qingniao/packets/Publish" "payload" "[B" .null := D59 (Or.inr (hw _ t_54)) (ty := (.array .byte)) (by decide)
      refine w_dup X59 hx hby n0_52 rfl ?_
      refine w_newO X59 hx hby hZ hown (hw _ t_5) (hw _ t_6) (hw _ t_7) e59 n0_53 (by decide) (by decide) fun T61 h61 b61 g61 X61 e61 E61 A61 D61 => ?_
      have f62 := (V57.ext E59)
      have ne_b55_b61 : b55 ≠ b61 := Nat.ne_of_lt (Nat.lt_of_lt_of_eq f62.lt g61.symm)
      have ne_b59_b61 : b59 ≠ b61 := Nat.ne_of_lt (Nat.lt_of_lt_of_eq A59.lt g61.symm)
      have old_b61 : h0.size ≤ b61 := Nat.le_trans z60 (Nat.le_of_eq g61.symm)
      have z63 : h0.size ≤ h61.size := Nat.le_trans z60 E61.1
      have F61_coder : Fld Z h61 b61 "java/lang/String" "coder" "B" (.int (0 : Int32)) := D61 (Or.inr (hw _ t_31)) (ty := .byte) (by decide)
      have F61_value : Fld Z h61 b61 "java/lang/String" "value" "[B" .null := D61 (Or.inr (hw _ t_33)) (ty := (.array .byte)) (by decide)
      refine w_dup X61 hx hby n0_56 rfl ?_
      refine w_aload X61 hx hby n0_57 rfl rfl ?_
      have f64 := (f62.ext E61)
      have f65 := ((((S_C.ext E55).wr W57).ext E59).ext E61)
      have hws66 : ∀ d ∈ StrChars.Road.words, d.before a0 Z = true := fun d hd => hw d ((by decide +kernel : ∀ d ∈ StrChars.Road.words, d ∈ tables_1) d hd)
      refine w_called (call_NK X61 hx hby hZ hown (y := (⟨"java/lang/String", "<init>", "([C)V"⟩ : MethodName)) (argsL := [(.ref b55)]) (rest := [(.ref b61), (.ref b59), (.ref b59)]) (Wd := 3) (a := b61) rfl (hw _ t_8) (hw _ t_9) (hw _ t_10) (by decide) (StrChars.Road.backV (W := 3) hZ hws66 (kI := 4) (hw _ t_6) (cs := [nar .char ((y4 &&& (255 : Int32)).toUInt32.toUInt16.toUInt32.toInt32)]) (bs := [(nar .char ((y4 &&& (255 : Int32)).toUInt32.toUInt16.toUInt32.toInt32)).toInt8.toInt32]) (n := 1) old_b61 z63 A61 F61_value F61_coder f64 f65 P3 rfl rfl (by decide) (by decide) (own_lat y4) rfl (by decide) (by decide)) rfl n0_59 (by rw [hml]; rfl) (lenOf pd_2967 rfl) rfl (by decide) (by decide) e61) fun v66 T66 L66 X66 Q66 => ?_
      obtain ⟨rfl, n66, k66, ea66, cc66, tt66, kb66, -, -, -, cv66, -⟩ := Q66
      have N66 := Fr.app N57 n66
      have z67 : h0.size ≤ T66.heap.size := Nat.le_trans z63 k66.1
      show Wp p e below s _ _ _ T66 (mkF m 62 #[.val (.int y1), .val (.int y2), .val (.int y3), .val (.int y4), .val (.int ((y1 &&& (2147483647 : Int32)) % (3 : Int32))), .val (.int (1 : Int32)), .val (.int (0 : Int32)), .val (.ref b55), .unset, .unset, .unset, .unset, .unset, .unset, .unset] [(.ref b61), (.ref b59), (.ref b59)])
      refine w_iload X66 hx hby n0_62 rfl ?_
      refine w_iload X66 hx hby n0_64 rfl ?_
      refine w_iload X66 hx hby n0_66 rfl ?_
      refine w_iloadN X66 hx hby n0_68 rfl ?_
      refine w_iconst X66 hx hby (0 : Int32) n0_69 rfl ?_
      refine w_newP X66 hx hby hZ (aty := .byte) (hw _ t_23) rfl n0_70 (by decide) 0 (by decide) (by decide) (by decide) (by decide) fun T68 h68 b68 k68 g68 X68 e68 E68 A68 => ?_
      have f69 := (f64.keep k66 (ninS ne_b55_b61 nin0))
      have ne_b55_b68 : b55 ≠ b68 := Nat.ne_of_lt (Nat.lt_of_lt_of_eq f69.lt g68.symm)
      have f70 := ((A59.ext E61).keep k66)
      have ne_b59_b68 : b59 ≠ b68 := Nat.ne_of_lt (Nat.lt_of_lt_of_eq f70.lt g68.symm)
      have ne_b61_b68 : b61 ≠ b68 := Nat.ne_of_lt (Nat.lt_of_lt_of_eq ea66.lt g68.symm)
      have old_b68 : h0.size ≤ b68 := Nat.le_trans z67 (Nat.le_of_eq g68.symm)
      have z71 : h0.size ≤ h68.size := Nat.le_trans z67 E68.1
      have V68 : Arv Z h68 b68 k68 .byte (0 : Int32) [] (.int (0 : Int32)) := (Arv.new A68 (by decide)).pad (pad_rep [] (.int (0 : Int32)) 0)
      have f72 := (f70.ext E68)
      have f73 := (((F59_topic.ext E61).keep k66 (ninS ne_b59_b61 nin0)).ext E68)
      have f74 := (((F59_qos.ext E61).keep k66 (ninS ne_b59_b61 nin0)).ext E68)
      have f75 := (((F59_retain.ext E61).keep k66 (ninS ne_b59_b61 nin0)).ext E68)
      have f76 := (((F59_dup.ext E61).keep k66 (ninS ne_b59_b61 nin0)).ext E68)
      have f77 := (((F59_packetId.ext E61).keep k66 (ninS ne_b59_b61 nin0)).ext E68)
      have f78 := (((F59_payload.ext E61).keep k66 (ninS ne_b59_b61 nin0)).ext E68)
      refine w_called (call_N X68 hx hby hZ hown (argsL := [(.ref b61), (.int ((y1 &&& (2147483647 : Int32)) % (3 : Int32))), (.int (1 : Int32)), (.int (0 : Int32)), (.int y3), (.ref b68)]) (rest := [(.ref b59)]) (Wd := 1) (a := b59) rfl (hw _ t_34) (hw _ t_35) (hw _ t_4) (hw _ t_36) (by decide) (rm1 l Z a0 hw b59 b61 ((y1 &&& (2147483647 : Int32)) % (3 : Int32)) (1 : Int32) (0 : Int32) y3 b68 h68 h0.size z71 old_b59 f72 f73 f74 f75 f76 f77 f78) rfl n0_72 (by rw [hml]; rfl) (lenOf pd_46178 rfl) rfl (by decide) (by decide) (by decide) (by decide) e68) fun v79 T79 L79 X79 Q79 => ?_
      obtain ⟨rfl, n79, k79, ea79, c79_topic, c79_qos, c79_retain, c79_dup, c79_packetId, c79_payload⟩ := Q79
      have N79 := Fr.app N66 n79
      have z80 : h0.size ≤ T79.heap.size := Nat.le_trans z71 k79.1
      show Wp p e below s _ _ _ T79 (mkF m 75 #[.val (.int y1), .val (.int y2), .val (.int y3), .val (.int y4), .val (.int ((y1 &&& (2147483647 : Int32)) % (3 : Int32))), .val (.int (1 : Int32)), .val (.int (0 : Int32)), .val (.ref b55), .unset, .unset, .unset, .unset, .unset, .unset, .unset] [(.ref b59)])
      refine w_astore X79 hx hby #[.val (.int y1), .val (.int y2), .val (.int y3), .val (.int y4), .val (.int ((y1 &&& (2147483647 : Int32)) % (3 : Int32))), .val (.int (1 : Int32)), .val (.int (0 : Int32)), .val (.ref b55), .val (.ref b59), .unset, .unset, .unset, .unset, .unset, .unset] n0_75 rfl rfl ?_
      refine w_aload X79 hx hby n0_77 rfl rfl ?_
      refine w_calledp (call_V X79 hx hby hZ hown (argsL := []) (rest := []) (Wd := 0) (a := b59) (hw _ t_55) (hw _ t_56) (hw _ t_58) (hw _ t_57) (hw _ t_4) (hw _ t_59) (by decide) ea79 (rm2 l Z a0 hw b59 (nar .boolean (0 : Int32)) ((y1 &&& (2147483647 : Int32)) % (3 : Int32)) (nar .boolean (1 : Int32)) T79.heap c79_dup c79_qos c79_retain) rfl n0_79 (by rw [hml]; rfl) (lenOf pd_1265 rfl) rfl (by decide) (by decide) (by decide) (by decide) rfl) rfl rfl fun T81 X81 e81 => ?_
      rcases own_three y1 with hq | hq | hq
      · rw [hq, show (own_fl (nar .boolean (0 : Int32)) (0 : Int32) (nar .boolean (1 : Int32))) = (1 : Int32) from by decide]
        refine w_istore X81 hx hby #[.val (.int y1), .val (.int y2), .val (.int y3), .val (.int y4), .val (.int (0 : Int32)), .val (.int (1 : Int32)), .val (.int (0 : Int32)), .val (.ref b55), .val (.ref b59), .val (.int (1 : Int32)), .unset, .unset, .unset, .unset, .unset] n0_82 rfl ?_
        refine w_iload X81 hx hby n0_84 rfl ?_
        refine f_if_eq X81 hx hby n0_86 (fun q86 => ?_) (fun q86 => by exact absurd q86 (by decide))
        refine w_iconst X81 hx hby (0 : Int32) n0_94 rfl ?_
        refine w_iload X81 hx hby n0_95 rfl ?_
        refine w_iconst X81 hx hby (2 : Int32) n0_97 rfl ?_
        refine w_imul X81 hx hby n0_98 ?_
        refine w_iadd X81 hx hby n0_99 ?_
        refine w_iload X81 hx hby n0_100 rfl ?_
        refine f_if_eq X81 hx hby n0_102 (fun q102 => by exact absurd q102 (by decide)) (fun q102 => ?_)
        refine w_iconst X81 hx hby (1 : Int32) n0_105 rfl ?_
        refine w_goto X81 hx hby n0_106 ?_
        refine w_iadd X81 hx hby n0_110 ?_
        refine w_istore X81 hx hby #[.val (.int y1), .val (.int y2), .val (.int y3), .val (.int y4), .val (.int (0 : Int32)), .val (.int (1 : Int32)), .val (.int (0 : Int32)), .val (.ref b55), .val (.ref b59), .val (.int (1 : Int32)), .val (.int (((0 : Int32) + ((0 : Int32) * (2 : Int32))) + (1 : Int32))), .unset, .unset, .unset, .unset] n0_111 rfl ?_
        refine w_iload X81 hx hby n0_113 rfl ?_
        refine f_if_lt X81 hx hby n0_115 (fun q115 => by exact absurd q115 (by decide)) (fun q115 => ?_)
        refine w_iload X81 hx hby n0_118 rfl ?_
        refine w_bipush X81 hx hby (15 : Int32) n0_120 rfl ?_
        refine f_icmp_gt X81 hx hby n0_122 (fun q122 => by exact absurd q122 (by decide)) (fun q122 => ?_)
        refine w_iconst X81 hx hby (1 : Int32) n0_125 rfl ?_
        refine w_goto X81 hx hby n0_126 ?_
        refine w_istore X81 hx hby #[.val (.int y1), .val (.int y2), .val (.int y3), .val (.int y4), .val (.int (0 : Int32)), .val (.int (1 : Int32)), .val (.int (0 : Int32)), .val (.ref b55), .val (.ref b59), .val (.int (1 : Int32)), .val (.int (((0 : Int32) + ((0 : Int32) * (2 : Int32))) + (1 : Int32))), .val (.int (1 : Int32)), .unset, .unset, .unset] n0_130 rfl ?_
        refine w_iload X81 hx hby n0_132 rfl ?_
        refine w_iconst X81 hx hby (1 : Int32) n0_134 rfl ?_
        refine w_iushr X81 hx hby n0_135 ?_
        refine w_iconst X81 hx hby (3 : Int32) n0_136 rfl ?_
        refine w_iand X81 hx hby n0_137 ?_
        refine w_iload X81 hx hby n0_138 rfl ?_
        refine f_icmp_ne X81 hx hby n0_140 (fun q140 => by exact absurd q140 (by decide)) (fun q140 => ?_)
        refine w_iconst X81 hx hby (1 : Int32) n0_143 rfl ?_
        refine w_goto X81 hx hby n0_144 ?_
        refine w_istore X81 hx hby #[.val (.int y1), .val (.int y2), .val (.int y3), .val (.int y4), .val (.int (0 : Int32)), .val (.int (1 : Int32)), .val (.int (0 : Int32)), .val (.ref b55), .val (.ref b59), .val (.int (1 : Int32)), .val (.int (((0 : Int32) + ((0 : Int32) * (2 : Int32))) + (1 : Int32))), .val (.int (1 : Int32)), .val (.int (1 : Int32)), .unset, .unset] n0_148 rfl ?_
        refine w_iload X81 hx hby n0_150 rfl ?_
        refine w_bipush X81 hx hby (8 : Int32) n0_152 rfl ?_
        refine w_iand X81 hx hby n0_154 ?_
        refine f_if_eq X81 hx hby n0_155 (fun q155 => ?_) (fun q155 => by exact absurd q155 (by decide))
        refine w_iconst X81 hx hby (0 : Int32) n0_162 rfl ?_
        refine w_iload X81 hx hby n0_163 rfl ?_
        refine f_icmp_ne X81 hx hby n0_165 (fun q165 => by exact absurd q165 (by decide)) (fun q165 => ?_)
        refine w_iconst X81 hx hby (1 : Int32) n0_168 rfl ?_
        refine w_goto X81 hx hby n0_169 ?_
        refine w_istore X81 hx hby #[.val (.int y1), .val (.int y2), .val (.int y3), .val (.int y4), .val (.int (0 : Int32)), .val (.int (1 : Int32)), .val (.int (0 : Int32)), .val (.ref b55), .val (.ref b59), .val (.int (1 : Int32)), .val (.int (((0 : Int32) + ((0 : Int32) * (2 : Int32))) + (1 : Int32))), .val (.int (1 : Int32)), .val (.int (1 : Int32)), .val (.int (1 : Int32)), .unset] n0_173 rfl ?_
        refine w_iload X81 hx hby n0_175 rfl ?_
        refine w_iconst X81 hx hby (1 : Int32) n0_177 rfl ?_
        refine w_iand X81 hx hby n0_178 ?_
        refine f_if_eq X81 hx hby n0_179 (fun q179 => by exact absurd q179 (by decide)) (fun q179 => ?_)
        refine w_iconst X81 hx hby (1 : Int32) n0_182 rfl ?_
        refine w_goto X81 hx hby n0_183 ?_
        refine w_iload X81 hx hby n0_187 rfl ?_
        refine f_icmp_ne X81 hx hby n0_189 (fun q189 => by exact absurd q189 (by decide)) (fun q189 => ?_)
        refine w_iconst X81 hx hby (1 : Int32) n0_192 rfl ?_
        refine w_goto X81 hx hby n0_193 ?_
        refine w_istore X81 hx hby #[.val (.int y1), .val (.int y2), .val (.int y3), .val (.int y4), .val (.int (0 : Int32)), .val (.int (1 : Int32)), .val (.int (0 : Int32)), .val (.ref b55), .val (.ref b59), .val (.int (1 : Int32)), .val (.int (((0 : Int32) + ((0 : Int32) * (2 : Int32))) + (1 : Int32))), .val (.int (1 : Int32)), .val (.int (1 : Int32)), .val (.int (1 : Int32)), .val (.int (1 : Int32))] n0_197 rfl ?_
        refine w_iload X81 hx hby n0_199 rfl ?_
        refine w_iload X81 hx hby n0_201 rfl ?_
        refine f_icmp_ne X81 hx hby n0_203 (fun q203 => by exact absurd q203 (by decide)) (fun q203 => ?_)
        refine w_iload X81 hx hby n0_206 rfl ?_
        refine f_if_eq X81 hx hby n0_208 (fun q208 => by exact absurd q208 (by decide)) (fun q208 => ?_)
        refine w_iload X81 hx hby n0_211 rfl ?_
        refine f_if_eq X81 hx hby n0_213 (fun q213 => by exact absurd q213 (by decide)) (fun q213 => ?_)
        refine w_iload X81 hx hby n0_216 rfl ?_
        refine f_if_eq X81 hx hby n0_218 (fun q218 => by exact absurd q218 (by decide)) (fun q218 => ?_)
        refine w_iload X81 hx hby n0_221 rfl ?_
        refine f_if_eq X81 hx hby n0_223 (fun q223 => by exact absurd q223 (by decide)) (fun q223 => ?_)
        refine w_iconst X81 hx hby (1 : Int32) n0_226 rfl ?_
        refine w_goto X81 hx hby n0_227 ?_
        refine w_retN X81 hx hby e81 hlk hret (by simp) n0_231 (by decide) (by decide) ?_
        exact ⟨rfl, N79⟩
      · rw [hq, show (own_fl (nar .boolean (0 : Int32)) (1 : Int32) (nar .boolean (1 : Int32))) = (3 : Int32) from by decide]
        refine w_istore X81 hx hby #[.val (.int y1), .val (.int y2), .val (.int y3), .val (.int y4), .val (.int (1 : Int32)), .val (.int (1 : Int32)), .val (.int (0 : Int32)), .val (.ref b55), .val (.ref b59), .val (.int (3 : Int32)), .unset, .unset, .unset, .unset, .unset] n0_82 rfl ?_
        refine w_iload X81 hx hby n0_84 rfl ?_
        refine f_if_eq X81 hx hby n0_86 (fun q86 => ?_) (fun q86 => by exact absurd q86 (by decide))
        refine w_iconst X81 hx hby (0 : Int32) n0_94 rfl ?_
        refine w_iload X81 hx hby n0_95 rfl ?_
        refine w_iconst X81 hx hby (2 : Int32) n0_97 rfl ?_
        refine w_imul X81 hx hby n0_98 ?_
        refine w_iadd X81 hx hby n0_99 ?_
        refine w_iload X81 hx hby n0_100 rfl ?_
        refine f_if_eq X81 hx hby n0_102 (fun q102 => by exact absurd q102 (by decide)) (fun q102 => ?_)
        refine w_iconst X81 hx hby (1 : Int32) n0_105 rfl ?_
        refine w_goto X81 hx hby n0_106 ?_
        refine w_iadd X81 hx hby n0_110 ?_
        refine w_istore X81 hx hby #[.val (.int y1), .val (.int y2), .val (.int y3), .val (.int y4), .val (.int (1 : Int32)), .val (.int (1 : Int32)), .val (.int (0 : Int32)), .val (.ref b55), .val (.ref b59), .val (.int (3 : Int32)), .val (.int (((0 : Int32) + ((1 : Int32) * (2 : Int32))) + (1 : Int32))), .unset, .unset, .unset, .unset] n0_111 rfl ?_
        refine w_iload X81 hx hby n0_113 rfl ?_
        refine f_if_lt X81 hx hby n0_115 (fun q115 => by exact absurd q115 (by decide)) (fun q115 => ?_)
        refine w_iload X81 hx hby n0_118 rfl ?_
        refine w_bipush X81 hx hby (15 : Int32) n0_120 rfl ?_
        refine f_icmp_gt X81 hx hby n0_122 (fun q122 => by exact absurd q122 (by decide)) (fun q122 => ?_)
        refine w_iconst X81 hx hby (1 : Int32) n0_125 rfl ?_
        refine w_goto X81 hx hby n0_126 ?_
        refine w_istore X81 hx hby #[.val (.int y1), .val (.int y2), .val (.int y3), .val (.int y4), .val (.int (1 : Int32)), .val (.int (1 : Int32)), .val (.int (0 : Int32)), .val (.ref b55), .val (.ref b59), .val (.int (3 : Int32)), .val (.int (((0 : Int32) + ((1 : Int32) * (2 : Int32))) + (1 : Int32))), .val (.int (1 : Int32)), .unset, .unset, .unset] n0_130 rfl ?_
        refine w_iload X81 hx hby n0_132 rfl ?_
        refine w_iconst X81 hx hby (1 : Int32) n0_134 rfl ?_
        refine w_iushr X81 hx hby n0_135 ?_
        refine w_iconst X81 hx hby (3 : Int32) n0_136 rfl ?_
        refine w_iand X81 hx hby n0_137 ?_
        refine w_iload X81 hx hby n0_138 rfl ?_
        refine f_icmp_ne X81 hx hby n0_140 (fun q140 => by exact absurd q140 (by decide)) (fun q140 => ?_)
        refine w_iconst X81 hx hby (1 : Int32) n0_143 rfl ?_
        refine w_goto X81 hx hby n0_144 ?_
        refine w_istore X81 hx hby #[.val (.int y1), .val (.int y2), .val (.int y3), .val (.int y4), .val (.int (1 : Int32)), .val (.int (1 : Int32)), .val (.int (0 : Int32)), .val (.ref b55), .val (.ref b59), .val (.int (3 : Int32)), .val (.int (((0 : Int32) + ((1 : Int32) * (2 : Int32))) + (1 : Int32))), .val (.int (1 : Int32)), .val (.int (1 : Int32)), .unset, .unset] n0_148 rfl ?_
        refine w_iload X81 hx hby n0_150 rfl ?_
        refine w_bipush X81 hx hby (8 : Int32) n0_152 rfl ?_
        refine w_iand X81 hx hby n0_154 ?_
        refine f_if_eq X81 hx hby n0_155 (fun q155 => ?_) (fun q155 => by exact absurd q155 (by decide))
        refine w_iconst X81 hx hby (0 : Int32) n0_162 rfl ?_
        refine w_iload X81 hx hby n0_163 rfl ?_
        refine f_icmp_ne X81 hx hby n0_165 (fun q165 => by exact absurd q165 (by decide)) (fun q165 => ?_)
        refine w_iconst X81 hx hby (1 : Int32) n0_168 rfl ?_
        refine w_goto X81 hx hby n0_169 ?_
        refine w_istore X81 hx hby #[.val (.int y1), .val (.int y2), .val (.int y3), .val (.int y4), .val (.int (1 : Int32)), .val (.int (1 : Int32)), .val (.int (0 : Int32)), .val (.ref b55), .val (.ref b59), .val (.int (3 : Int32)), .val (.int (((0 : Int32) + ((1 : Int32) * (2 : Int32))) + (1 : Int32))), .val (.int (1 : Int32)), .val (.int (1 : Int32)), .val (.int (1 : Int32)), .unset] n0_173 rfl ?_
        refine w_iload X81 hx hby n0_175 rfl ?_
        refine w_iconst X81 hx hby (1 : Int32) n0_177 rfl ?_
        refine w_iand X81 hx hby n0_178 ?_
        refine f_if_eq X81 hx hby n0_179 (fun q179 => by exact absurd q179 (by decide)) (fun q179 => ?_)
        refine w_iconst X81 hx hby (1 : Int32) n0_182 rfl ?_
        refine w_goto X81 hx hby n0_183 ?_
        refine w_iload X81 hx hby n0_187 rfl ?_
        refine f_icmp_ne X81 hx hby n0_189 (fun q189 => by exact absurd q189 (by decide)) (fun q189 => ?_)
        refine w_iconst X81 hx hby (1 : Int32) n0_192 rfl ?_
        refine w_goto X81 hx hby n0_193 ?_
        refine w_istore X81 hx hby #[.val (.int y1), .val (.int y2), .val (.int y3), .val (.int y4), .val (.int (1 : Int32)), .val (.int (1 : Int32)), .val (.int (0 : Int32)), .val (.ref b55), .val (.ref b59), .val (.int (3 : Int32)), .val (.int (((0 : Int32) + ((1 : Int32) * (2 : Int32))) + (1 : Int32))), .val (.int (1 : Int32)), .val (.int (1 : Int32)), .val (.int (1 : Int32)), .val (.int (1 : Int32))] n0_197 rfl ?_
        refine w_iload X81 hx hby n0_199 rfl ?_
        refine w_iload X81 hx hby n0_201 rfl ?_
        refine f_icmp_ne X81 hx hby n0_203 (fun q203 => by exact absurd q203 (by decide)) (fun q203 => ?_)
        refine w_iload X81 hx hby n0_206 rfl ?_
        refine f_if_eq X81 hx hby n0_208 (fun q208 => by exact absurd q208 (by decide)) (fun q208 => ?_)
        refine w_iload X81 hx hby n0_211 rfl ?_
        refine f_if_eq X81 hx hby n0_213 (fun q213 => by exact absurd q213 (by decide)) (fun q213 => ?_)
        refine w_iload X81 hx hby n0_216 rfl ?_
        refine f_if_eq X81 hx hby n0_218 (fun q218 => by exact absurd q218 (by decide)) (fun q218 => ?_)
        refine w_iload X81 hx hby n0_221 rfl ?_
        refine f_if_eq X81 hx hby n0_223 (fun q223 => by exact absurd q223 (by decide)) (fun q223 => ?_)
        refine w_iconst X81 hx hby (1 : Int32) n0_226 rfl ?_
        refine w_goto X81 hx hby n0_227 ?_
        refine w_retN X81 hx hby e81 hlk hret (by simp) n0_231 (by decide) (by decide) ?_
        exact ⟨rfl, N79⟩
      · rw [hq, show (own_fl (nar .boolean (0 : Int32)) (2 : Int32) (nar .boolean (1 : Int32))) = (5 : Int32) from by decide]
        refine w_istore X81 hx hby #[.val (.int y1), .val (.int y2), .val (.int y3), .val (.int y4), .val (.int (2 : Int32)), .val (.int (1 : Int32)), .val (.int (0 : Int32)), .val (.ref b55), .val (.ref b59), .val (.int (5 : Int32)), .unset, .unset, .unset, .unset, .unset] n0_82 rfl ?_
        refine w_iload X81 hx hby n0_84 rfl ?_
        refine f_if_eq X81 hx hby n0_86 (fun q86 => ?_) (fun q86 => by exact absurd q86 (by decide))
        refine w_iconst X81 hx hby (0 : Int32) n0_94 rfl ?_
        refine w_iload X81 hx hby n0_95 rfl ?_
        refine w_iconst X81 hx hby (2 : Int32) n0_97 rfl ?_
        refine w_imul X81 hx hby n0_98 ?_
        refine w_iadd X81 hx hby n0_99 ?_
        refine w_iload X81 hx hby n0_100 rfl ?_
        refine f_if_eq X81 hx hby n0_102 (fun q102 => by exact absurd q102 (by decide)) (fun q102 => ?_)
        refine w_iconst X81 hx hby (1 : Int32) n0_105 rfl ?_
        refine w_goto X81 hx hby n0_106 ?_
        refine w_iadd X81 hx hby n0_110 ?_
        refine w_istore X81 hx hby #[.val (.int y1), .val (.int y2), .val (.int y3), .val (.int y4), .val (.int (2 : Int32)), .val (.int (1 : Int32)), .val (.int (0 : Int32)), .val (.ref b55), .val (.ref b59), .val (.int (5 : Int32)), .val (.int (((0 : Int32) + ((2 : Int32) * (2 : Int32))) + (1 : Int32))), .unset, .unset, .unset, .unset] n0_111 rfl ?_
        refine w_iload X81 hx hby n0_113 rfl ?_
        refine f_if_lt X81 hx hby n0_115 (fun q115 => by exact absurd q115 (by decide)) (fun q115 => ?_)
        refine w_iload X81 hx hby n0_118 rfl ?_
        refine w_bipush X81 hx hby (15 : Int32) n0_120 rfl ?_
        refine f_icmp_gt X81 hx hby n0_122 (fun q122 => by exact absurd q122 (by decide)) (fun q122 => ?_)
        refine w_iconst X81 hx hby (1 : Int32) n0_125 rfl ?_
        refine w_goto X81 hx hby n0_126 ?_
        refine w_istore X81 hx hby #[.val (.int y1), .val (.int y2), .val (.int y3), .val (.int y4), .val (.int (2 : Int32)), .val (.int (1 : Int32)), .val (.int (0 : Int32)), .val (.ref b55), .val (.ref b59), .val (.int (5 : Int32)), .val (.int (((0 : Int32) + ((2 : Int32) * (2 : Int32))) + (1 : Int32))), .val (.int (1 : Int32)), .unset, .unset, .unset] n0_130 rfl ?_
        refine w_iload X81 hx hby n0_132 rfl ?_
        refine w_iconst X81 hx hby (1 : Int32) n0_134 rfl ?_
        refine w_iushr X81 hx hby n0_135 ?_
        refine w_iconst X81 hx hby (3 : Int32) n0_136 rfl ?_
        refine w_iand X81 hx hby n0_137 ?_
        refine w_iload X81 hx hby n0_138 rfl ?_
        refine f_icmp_ne X81 hx hby n0_140 (fun q140 => by exact absurd q140 (by decide)) (fun q140 => ?_)
        refine w_iconst X81 hx hby (1 : Int32) n0_143 rfl ?_
        refine w_goto X81 hx hby n0_144 ?_
        refine w_istore X81 hx hby #[.val (.int y1), .val (.int y2), .val (.int y3), .val (.int y4), .val (.int (2 : Int32)), .val (.int (1 : Int32)), .val (.int (0 : Int32)), .val (.ref b55), .val (.ref b59), .val (.int (5 : Int32)), .val (.int (((0 : Int32) + ((2 : Int32) * (2 : Int32))) + (1 : Int32))), .val (.int (1 : Int32)), .val (.int (1 : Int32)), .unset, .unset] n0_148 rfl ?_
        refine w_iload X81 hx hby n0_150 rfl ?_
        refine w_bipush X81 hx hby (8 : Int32) n0_152 rfl ?_
        refine w_iand X81 hx hby n0_154 ?_
        refine f_if_eq X81 hx hby n0_155 (fun q155 => ?_) (fun q155 => by exact absurd q155 (by decide))
        refine w_iconst X81 hx hby (0 : Int32) n0_162 rfl ?_
        refine w_iload X81 hx hby n0_163 rfl ?_
        refine f_icmp_ne X81 hx hby n0_165 (fun q165 => by exact absurd q165 (by decide)) (fun q165 => ?_)
        refine w_iconst X81 hx hby (1 : Int32) n0_168 rfl ?_
        refine w_goto X81 hx hby n0_169 ?_
        refine w_istore X81 hx hby #[.val (.int y1), .val (.int y2), .val (.int y3), .val (.int y4), .val (.int (2 : Int32)), .val (.int (1 : Int32)), .val (.int (0 : Int32)), .val (.ref b55), .val (.ref b59), .val (.int (5 : Int32)), .val (.int (((0 : Int32) + ((2 : Int32) * (2 : Int32))) + (1 : Int32))), .val (.int (1 : Int32)), .val (.int (1 : Int32)), .val (.int (1 : Int32)), .unset] n0_173 rfl ?_
        refine w_iload X81 hx hby n0_175 rfl ?_
        refine w_iconst X81 hx hby (1 : Int32) n0_177 rfl ?_
        refine w_iand X81 hx hby n0_178 ?_
        refine f_if_eq X81 hx hby n0_179 (fun q179 => by exact absurd q179 (by decide)) (fun q179 => ?_)
        refine w_iconst X81 hx hby (1 : Int32) n0_182 rfl ?_
        refine w_goto X81 hx hby n0_183 ?_
        refine w_iload X81 hx hby n0_187 rfl ?_
        refine f_icmp_ne X81 hx hby n0_189 (fun q189 => by exact absurd q189 (by decide)) (fun q189 => ?_)
        refine w_iconst X81 hx hby (1 : Int32) n0_192 rfl ?_
        refine w_goto X81 hx hby n0_193 ?_
        refine w_istore X81 hx hby #[.val (.int y1), .val (.int y2), .val (.int y3), .val (.int y4), .val (.int (2 : Int32)), .val (.int (1 : Int32)), .val (.int (0 : Int32)), .val (.ref b55), .val (.ref b59), .val (.int (5 : Int32)), .val (.int (((0 : Int32) + ((2 : Int32) * (2 : Int32))) + (1 : Int32))), .val (.int (1 : Int32)), .val (.int (1 : Int32)), .val (.int (1 : Int32)), .val (.int (1 : Int32))] n0_197 rfl ?_
        refine w_iload X81 hx hby n0_199 rfl ?_
        refine w_iload X81 hx hby n0_201 rfl ?_
        refine f_icmp_ne X81 hx hby n0_203 (fun q203 => by exact absurd q203 (by decide)) (fun q203 => ?_)
        refine w_iload X81 hx hby n0_206 rfl ?_
        refine f_if_eq X81 hx hby n0_208 (fun q208 => by exact absurd q208 (by decide)) (fun q208 => ?_)
        refine w_iload X81 hx hby n0_211 rfl ?_
        refine f_if_eq X81 hx hby n0_213 (fun q213 => by exact absurd q213 (by decide)) (fun q213 => ?_)
        refine w_iload X81 hx hby n0_216 rfl ?_
        refine f_if_eq X81 hx hby n0_218 (fun q218 => by exact absurd q218 (by decide)) (fun q218 => ?_)
        refine w_iload X81 hx hby n0_221 rfl ?_
        refine f_if_eq X81 hx hby n0_223 (fun q223 => by exact absurd q223 (by decide)) (fun q223 => ?_)
        refine w_iconst X81 hx hby (1 : Int32) n0_226 rfl ?_
        refine w_goto X81 hx hby n0_227 ?_
        refine w_retN X81 hx hby e81 hlk hret (by simp) n0_231 (by decide) (by decide) ?_
        exact ⟨rfl, N79⟩
    · refine w_iconst X0 hx hby (1 : Int32) n0_27 rfl ?_
      refine w_goto X0 hx hby n0_28 ?_
      refine w_istore X0 hx hby #[.val (.int y1), .val (.int y2), .val (.int y3), .val (.int y4), .val (.int ((y1 &&& (2147483647 : Int32)) % (3 : Int32))), .val (.int (1 : Int32)), .val (.int (1 : Int32)), .unset, .unset, .unset, .unset, .unset, .unset, .unset, .unset] n0_32 rfl ?_
      refine w_iconst X0 hx hby (1 : Int32) n0_34 rfl ?_
      refine w_newP X0 hx hby hZ (aty := .char) (hw _ t_1) e0 n0_35 (by decide) 1 (by decide) (by decide) (by decide) (by decide) fun T82 h82 b82 k82 g82 X82 e82 E82 A82 => ?_
      have old_b82 : h0.size ≤ b82 := Nat.le_trans (Nat.le_refl h0.size) (Nat.le_of_eq g82.symm)
      have z83 : h0.size ≤ h82.size := Nat.le_trans (Nat.le_refl h0.size) E82.1
      have V82 : Arv Z h82 b82 k82 .char (1 : Int32) [(.int (0 : Int32))] (.int (0 : Int32)) := (Arv.new A82 (by decide)).pad (pad_rep [] (.int (0 : Int32)) 1)
      refine w_astore X82 hx hby #[.val (.int y1), .val (.int y2), .val (.int y3), .val (.int y4), .val (.int ((y1 &&& (2147483647 : Int32)) % (3 : Int32))), .val (.int (1 : Int32)), .val (.int (1 : Int32)), .val (.ref b82), .unset, .unset, .unset, .unset, .unset, .unset, .unset] n0_37 rfl rfl ?_
      refine w_aload X82 hx hby n0_39 rfl rfl ?_
      refine w_iconst X82 hx hby (0 : Int32) n0_41 rfl ?_
      refine w_iloadN X82 hx hby n0_42 rfl ?_
      refine w_sipush X82 hx hby (255 : Int32) n0_43 rfl ?_
      refine w_iand X82 hx hby n0_46 ?_
      refine w_i2c X82 hx hby n0_47 ?_
      obtain ⟨cl84, Ar84, qk84, Sz84, Nn84, Ha84, Gf84⟩ := id V82
      refine w_stC X82 hx hby hZ e82 Ar84 (j := (0 : Int32)) (inb_of Sz84 ⟨by decide, by decide⟩) n0_48 fun T84 h84 X84 e84 W84 => ?_
      have V84 : Arv Z h84 b82 k82 .char (1 : Int32) [(.int (nar .char ((y4 &&& (255 : Int32)).toUInt32.toUInt16.toUInt32.toInt32)))] (.int (0 : Int32)) := Arv.set Ar84 qk84 Sz84 Nn84 Ha84 Gf84 (fits_nar_char _) W84 0 rfl (Nat.le_of_ble_eq_true rfl)
      have N84 := Fr.snoc X84 (Fr.nil h0.size) old_b82
      have z85 : h0.size ≤ h84.size := Nat.le_trans z83 (Keep.of_wr W84).1
      refine w_newO X84 hx hby hZ hown (hw _ t_2) (hw _ t_3) (hw _ t_4) e84 n0_49 (by decide) (by decide) fun T86 h86 b86 g86 X86 e86 E86 A86 D86 => ?_
      have ne_b82_b86 : b82 ≠ b86 := Nat.ne_of_lt (Nat.lt_of_lt_of_eq V84.lt g86.symm)
      have old_b86 : h0.size ≤ b86 := Nat.le_trans z85 (Nat.le_of_eq g86.symm)
      have z87 : h0.size ≤ h86.size := Nat.le_trans z85 E86.1
      have F86_topic : Fld Z h86 b86 "com/example/qingniao/qingniao/packets/Publish" "topic" "Ljava/lang/String;" .null := D86 (Or.inr (hw _ t_44)) (ty := (.object "java/lang/String")) (by decide)
      have F86_qos : Fld Z h86 b86 "com/example/qingniao/qingniao/packets/Publish" "qos" "I" (.int (0 : Int32)) := D86 (Or.inr (hw _ t_46)) (ty := .int) (by decide)
      have F86_retain : Fld Z h86 b86 "com/example/qingniao/qingniao/packets/Publish" "retain" "Z" (.int (0 : Int32)) := D86 (Or.inr (hw _ t_48)) (ty := .boolean) (by decide)
      have F86_dup : Fld Z h86 b86 "com/example/qingniao/qingniao/packets/Publish" "dup" "Z" (.int (0 : Int32)) := D86 (Or.inr (hw _ t_50)) (ty := .boolean) (by decide)
      have F86_packetId : Fld Z h86 b86 "com/example/qingniao/qingniao/packets/Publish" "packetId" "I" (.int (0 : Int32)) := D86 (Or.inr (hw _ t_52)) (ty := .int) (by decide)
      have F86_payload : Fld Z h86 b86 "com/example/qingniao/qingniao/packets/Publish" "payload" "[B" .null := D86 (Or.inr (hw _ t_54)) (ty := (.array .byte)) (by decide)
      refine w_dup X86 hx hby n0_52 rfl ?_
      refine w_newO X86 hx hby hZ hown (hw _ t_5) (hw _ t_6) (hw _ t_7) e86 n0_53 (by decide) (by decide) fun T88 h88 b88 g88 X88 e88 E88 A88 D88 => ?_
      have f89 := (V84.ext E86)
      have ne_b82_b88 : b82 ≠ b88 := Nat.ne_of_lt (Nat.lt_of_lt_of_eq f89.lt g88.symm)
      have ne_b86_b88 : b86 ≠ b88 := Nat.ne_of_lt (Nat.lt_of_lt_of_eq A86.lt g88.symm)
      have old_b88 : h0.size ≤ b88 := Nat.le_trans z87 (Nat.le_of_eq g88.symm)
      have z90 : h0.size ≤ h88.size := Nat.le_trans z87 E88.1
      have F88_coder : Fld Z h88 b88 "java/lang/String" "coder" "B" (.int (0 : Int32)) := D88 (Or.inr (hw _ t_31)) (ty := .byte) (by decide)
      have F88_value : Fld Z h88 b88 "java/lang/String" "value" "[B" .null := D88 (Or.inr (hw _ t_33)) (ty := (.array .byte)) (by decide)
      refine w_dup X88 hx hby n0_56 rfl ?_
      refine w_aload X88 hx hby n0_57 rfl rfl ?_
      have f91 := (f89.ext E88)
      have f92 := ((((S_C.ext E82).wr W84).ext E86).ext E88)
      have hws93 : ∀ d ∈ StrChars.Road.words, d.before a0 Z = true := fun d hd => hw d ((by decide +kernel : ∀ d ∈ StrChars.Road.words, d ∈ tables_1) d hd)
      refine w_called (call_NK X88 hx hby hZ hown (y := (⟨"java/lang/String", "<init>", "([C)V"⟩ : MethodName)) (argsL := [(.ref b82)]) (rest := [(.ref b88), (.ref b86), (.ref b86)]) (Wd := 3) (a := b88) rfl (hw _ t_8) (hw _ t_9) (hw _ t_10) (by decide) (StrChars.Road.backV (W := 3) hZ hws93 (kI := 4) (hw _ t_6) (cs := [nar .char ((y4 &&& (255 : Int32)).toUInt32.toUInt16.toUInt32.toInt32)]) (bs := [(nar .char ((y4 &&& (255 : Int32)).toUInt32.toUInt16.toUInt32.toInt32)).toInt8.toInt32]) (n := 1) old_b88 z90 A88 F88_value F88_coder f91 f92 P3 rfl rfl (by decide) (by decide) (own_lat y4) rfl (by decide) (by decide)) rfl n0_59 (by rw [hml]; rfl) (lenOf pd_2967 rfl) rfl (by decide) (by decide) e88) fun v93 T93 L93 X93 Q93 => ?_
      obtain ⟨rfl, n93, k93, ea93, cc93, tt93, kb93, -, -, -, cv93, -⟩ := Q93
      have N93 := Fr.app N84 n93
      have z94 : h0.size ≤ T93.heap.size := Nat.le_trans z90 k93.1
      show Wp p e below s _ _ _ T93 (mkF m 62 #[.val (.int y1), .val (.int y2), .val (.int y3), .val (.int y4), .val (.int ((y1 &&& (2147483647 : Int32)) % (3 : Int32))), .val (.int (1 : Int32)), .val (.int (1 : Int32)), .val (.ref b82), .unset, .unset, .unset, .unset, .unset, .unset, .unset] [(.ref b88), (.ref b86), (.ref b86)])
      refine w_iload X93 hx hby n0_62 rfl ?_
      refine w_iload X93 hx hby n0_64 rfl ?_
      refine w_iload X93 hx hby n0_66 rfl ?_
      refine w_iloadN X93 hx hby n0_68 rfl ?_
      refine w_iconst X93 hx hby (0 : Int32) n0_69 rfl ?_
      refine w_newP X93 hx hby hZ (aty := .byte) (hw _ t_23) rfl n0_70 (by decide) 0 (by decide) (by decide) (by decide) (by decide) fun T95 h95 b95 k95 g95 X95 e95 E95 A95 => ?_
      have f96 := (f91.keep k93 (ninS ne_b82_b88 nin0))
      have ne_b82_b95 : b82 ≠ b95 := Nat.ne_of_lt (Nat.lt_of_lt_of_eq f96.lt g95.symm)
      have f97 := ((A86.ext E88).keep k93)
      have ne_b86_b95 : b86 ≠ b95 := Nat.ne_of_lt (Nat.lt_of_lt_of_eq f97.lt g95.symm)
      have ne_b88_b95 : b88 ≠ b95 := Nat.ne_of_lt (Nat.lt_of_lt_of_eq ea93.lt g95.symm)
      have old_b95 : h0.size ≤ b95 := Nat.le_trans z94 (Nat.le_of_eq g95.symm)
      have z98 : h0.size ≤ h95.size := Nat.le_trans z94 E95.1
      have V95 : Arv Z h95 b95 k95 .byte (0 : Int32) [] (.int (0 : Int32)) := (Arv.new A95 (by decide)).pad (pad_rep [] (.int (0 : Int32)) 0)
      have f99 := (f97.ext E95)
      have f100 := (((F86_topic.ext E88).keep k93 (ninS ne_b86_b88 nin0)).ext E95)
      have f101 := (((F86_qos.ext E88).keep k93 (ninS ne_b86_b88 nin0)).ext E95)
      have f102 := (((F86_retain.ext E88).keep k93 (ninS ne_b86_b88 nin0)).ext E95)
      have f103 := (((F86_dup.ext E88).keep k93 (ninS ne_b86_b88 nin0)).ext E95)
      have f104 := (((F86_packetId.ext E88).keep k93 (ninS ne_b86_b88 nin0)).ext E95)
      have f105 := (((F86_payload.ext E88).keep k93 (ninS ne_b86_b88 nin0)).ext E95)
      refine w_called (call_N X95 hx hby hZ hown (argsL := [(.ref b88), (.int ((y1 &&& (2147483647 : Int32)) % (3 : Int32))), (.int (1 : Int32)), (.int (1 : Int32)), (.int y3), (.ref b95)]) (rest := [(.ref b86)]) (Wd := 1) (a := b86) rfl (hw _ t_34) (hw _ t_35) (hw _ t_4) (hw _ t_36) (by decide) (rm1 l Z a0 hw b86 b88 ((y1 &&& (2147483647 : Int32)) % (3 : Int32)) (1 : Int32) (1 : Int32) y3 b95 h95 h0.size z98 old_b86 f99 f100 f101 f102 f103 f104 f105) rfl n0_72 (by rw [hml]; rfl) (lenOf pd_46178 rfl) rfl (by decide) (by decide) (by decide) (by decide) e95) fun v106 T106 L106 X106 Q106 => ?_
      obtain ⟨rfl, n106, k106, ea106, c106_topic, c106_qos, c106_retain, c106_dup, c106_packetId, c106_payload⟩ := Q106
      have N106 := Fr.app N93 n106
      have z107 : h0.size ≤ T106.heap.size := Nat.le_trans z98 k106.1
      show Wp p e below s _ _ _ T106 (mkF m 75 #[.val (.int y1), .val (.int y2), .val (.int y3), .val (.int y4), .val (.int ((y1 &&& (2147483647 : Int32)) % (3 : Int32))), .val (.int (1 : Int32)), .val (.int (1 : Int32)), .val (.ref b82), .unset, .unset, .unset, .unset, .unset, .unset, .unset] [(.ref b86)])
      refine w_astore X106 hx hby #[.val (.int y1), .val (.int y2), .val (.int y3), .val (.int y4), .val (.int ((y1 &&& (2147483647 : Int32)) % (3 : Int32))), .val (.int (1 : Int32)), .val (.int (1 : Int32)), .val (.ref b82), .val (.ref b86), .unset, .unset, .unset, .unset, .unset, .unset] n0_75 rfl rfl ?_
      refine w_aload X106 hx hby n0_77 rfl rfl ?_
      refine w_calledp (call_V X106 hx hby hZ hown (argsL := []) (rest := []) (Wd := 0) (a := b86) (hw _ t_55) (hw _ t_56) (hw _ t_58) (hw _ t_57) (hw _ t_4) (hw _ t_59) (by decide) ea106 (rm2 l Z a0 hw b86 (nar .boolean (1 : Int32)) ((y1 &&& (2147483647 : Int32)) % (3 : Int32)) (nar .boolean (1 : Int32)) T106.heap c106_dup c106_qos c106_retain) rfl n0_79 (by rw [hml]; rfl) (lenOf pd_1265 rfl) rfl (by decide) (by decide) (by decide) (by decide) rfl) rfl rfl fun T108 X108 e108 => ?_
      rcases own_three y1 with hq | hq | hq
      · rw [hq, show (own_fl (nar .boolean (1 : Int32)) (0 : Int32) (nar .boolean (1 : Int32))) = (9 : Int32) from by decide]
        refine w_istore X108 hx hby #[.val (.int y1), .val (.int y2), .val (.int y3), .val (.int y4), .val (.int (0 : Int32)), .val (.int (1 : Int32)), .val (.int (1 : Int32)), .val (.ref b82), .val (.ref b86), .val (.int (9 : Int32)), .unset, .unset, .unset, .unset, .unset] n0_82 rfl ?_
        refine w_iload X108 hx hby n0_84 rfl ?_
        refine f_if_eq X108 hx hby n0_86 (fun q86 => by exact absurd q86 (by decide)) (fun q86 => ?_)
        refine w_bipush X108 hx hby (8 : Int32) n0_89 rfl ?_
        refine w_goto X108 hx hby n0_91 ?_
        refine w_iload X108 hx hby n0_95 rfl ?_
        refine w_iconst X108 hx hby (2 : Int32) n0_97 rfl ?_
        refine w_imul X108 hx hby n0_98 ?_
        refine w_iadd X108 hx hby n0_99 ?_
        refine w_iload X108 hx hby n0_100 rfl ?_
        refine f_if_eq X108 hx hby n0_102 (fun q102 => by exact absurd q102 (by decide)) (fun q102 => ?_)
        refine w_iconst X108 hx hby (1 : Int32) n0_105 rfl ?_
        refine w_goto X108 hx hby n0_106 ?_
        refine w_iadd X108 hx hby n0_110 ?_
        refine w_istore X108 hx hby #[.val (.int y1), .val (.int y2), .val (.int y3), .val (.int y4), .val (.int (0 : Int32)), .val (.int (1 : Int32)), .val (.int (1 : Int32)), .val (.ref b82), .val (.ref b86), .val (.int (9 : Int32)), .val (.int (((8 : Int32) + ((0 : Int32) * (2 : Int32))) + (1 : Int32))), .unset, .unset, .unset, .unset] n0_111 rfl ?_
        refine w_iload X108 hx hby n0_113 rfl ?_
        refine f_if_lt X108 hx hby n0_115 (fun q115 => by exact absurd q115 (by decide)) (fun q115 => ?_)
        refine w_iload X108 hx hby n0_118 rfl ?_
        refine w_bipush X108 hx hby (15 : Int32) n0_120 rfl ?_
        refine f_icmp_gt X108 hx hby n0_122 (fun q122 => by exact absurd q122 (by decide)) (fun q122 => ?_)
        refine w_iconst X108 hx hby (1 : Int32) n0_125 rfl ?_
        refine w_goto X108 hx hby n0_126 ?_
        refine w_istore X108 hx hby #[.val (.int y1), .val (.int y2), .val (.int y3), .val (.int y4), .val (.int (0 : Int32)), .val (.int (1 : Int32)), .val (.int (1 : Int32)), .val (.ref b82), .val (.ref b86), .val (.int (9 : Int32)), .val (.int (((8 : Int32) + ((0 : Int32) * (2 : Int32))) + (1 : Int32))), .val (.int (1 : Int32)), .unset, .unset, .unset] n0_130 rfl ?_
        refine w_iload X108 hx hby n0_132 rfl ?_
        refine w_iconst X108 hx hby (1 : Int32) n0_134 rfl ?_
        refine w_iushr X108 hx hby n0_135 ?_
        refine w_iconst X108 hx hby (3 : Int32) n0_136 rfl ?_
        refine w_iand X108 hx hby n0_137 ?_
        refine w_iload X108 hx hby n0_138 rfl ?_
        refine f_icmp_ne X108 hx hby n0_140 (fun q140 => by exact absurd q140 (by decide)) (fun q140 => ?_)
        refine w_iconst X108 hx hby (1 : Int32) n0_143 rfl ?_
        refine w_goto X108 hx hby n0_144 ?_
        refine w_istore X108 hx hby #[.val (.int y1), .val (.int y2), .val (.int y3), .val (.int y4), .val (.int (0 : Int32)), .val (.int (1 : Int32)), .val (.int (1 : Int32)), .val (.ref b82), .val (.ref b86), .val (.int (9 : Int32)), .val (.int (((8 : Int32) + ((0 : Int32) * (2 : Int32))) + (1 : Int32))), .val (.int (1 : Int32)), .val (.int (1 : Int32)), .unset, .unset] n0_148 rfl ?_
        refine w_iload X108 hx hby n0_150 rfl ?_
        refine w_bipush X108 hx hby (8 : Int32) n0_152 rfl ?_
        refine w_iand X108 hx hby n0_154 ?_
        refine f_if_eq X108 hx hby n0_155 (fun q155 => by exact absurd q155 (by decide)) (fun q155 => ?_)
        refine w_iconst X108 hx hby (1 : Int32) n0_158 rfl ?_
        refine w_goto X108 hx hby n0_159 ?_
        refine w_iload X108 hx hby n0_163 rfl ?_
        refine f_icmp_ne X108 hx hby n0_165 (fun q165 => by exact absurd q165 (by decide)) (fun q165 => ?_)
        refine w_iconst X108 hx hby (1 : Int32) n0_168 rfl ?_
        refine w_goto X108 hx hby n0_169 ?_
        refine w_istore X108 hx hby #[.val (.int y1), .val (.int y2), .val (.int y3), .val (.int y4), .val (.int (0 : Int32)), .val (.int (1 : Int32)), .val (.int (1 : Int32)), .val (.ref b82), .val (.ref b86), .val (.int (9 : Int32)), .val (.int (((8 : Int32) + ((0 : Int32) * (2 : Int32))) + (1 : Int32))), .val (.int (1 : Int32)), .val (.int (1 : Int32)), .val (.int (1 : Int32)), .unset] n0_173 rfl ?_
        refine w_iload X108 hx hby n0_175 rfl ?_
        refine w_iconst X108 hx hby (1 : Int32) n0_177 rfl ?_
        refine w_iand X108 hx hby n0_178 ?_
        refine f_if_eq X108 hx hby n0_179 (fun q179 => by exact absurd q179 (by decide)) (fun q179 => ?_)
        refine w_iconst X108 hx hby (1 : Int32) n0_182 rfl ?_
        refine w_goto X108 hx hby n0_183 ?_
        refine w_iload X108 hx hby n0_187 rfl ?_
        refine f_icmp_ne X108 hx hby n0_189 (fun q189 => by exact absurd q189 (by decide)) (fun q189 => ?_)
        refine w_iconst X108 hx hby (1 : Int32) n0_192 rfl ?_
        refine w_goto X108 hx hby n0_193 ?_
        refine w_istore X108 hx hby #[.val (.int y1), .val (.int y2), .val (.int y3), .val (.int y4), .val (.int (0 : Int32)), .val (.int (1 : Int32)), .val (.int (1 : Int32)), .val (.ref b82), .val (.ref b86), .val (.int (9 : Int32)), .val (.int (((8 : Int32) + ((0 : Int32) * (2 : Int32))) + (1 : Int32))), .val (.int (1 : Int32)), .val (.int (1 : Int32)), .val (.int (1 : Int32)), .val (.int (1 : Int32))] n0_197 rfl ?_
        refine w_iload X108 hx hby n0_199 rfl ?_
        refine w_iload X108 hx hby n0_201 rfl ?_
        refine f_icmp_ne X108 hx hby n0_203 (fun q203 => by exact absurd q203 (by decide)) (fun q203 => ?_)
        refine w_iload X108 hx hby n0_206 rfl ?_
        refine f_if_eq X108 hx hby n0_208 (fun q208 => by exact absurd q208 (by decide)) (fun q208 => ?_)
        refine w_iload X108 hx hby n0_211 rfl ?_
        refine f_if_eq X108 hx hby n0_213 (fun q213 => by exact absurd q213 (by decide)) (fun q213 => ?_)
        refine w_iload X108 hx hby n0_216 rfl ?_
        refine f_if_eq X108 hx hby n0_218 (fun q218 => by exact absurd q218 (by decide)) (fun q218 => ?_)
        refine w_iload X108 hx hby n0_221 rfl ?_
        refine f_if_eq X108 hx hby n0_223 (fun q223 => by exact absurd q223 (by decide)) (fun q223 => ?_)
        refine w_iconst X108 hx hby (1 : Int32) n0_226 rfl ?_
        refine w_goto X108 hx hby n0_227 ?_
        refine w_retN X108 hx hby e108 hlk hret (by simp) n0_231 (by decide) (by decide) ?_
        exact ⟨rfl, N106⟩
      · rw [hq, show (own_fl (nar .boolean (1 : Int32)) (1 : Int32) (nar .boolean (1 : Int32))) = (11 : Int32) from by decide]
        refine w_istore X108 hx hby #[.val (.int y1), .val (.int y2), .val (.int y3), .val (.int y4), .val (.int (1 : Int32)), .val (.int (1 : Int32)), .val (.int (1 : Int32)), .val (.ref b82), .val (.ref b86), .val (.int (11 : Int32)), .unset, .unset, .unset, .unset, .unset] n0_82 rfl ?_
        refine w_iload X108 hx hby n0_84 rfl ?_
        refine f_if_eq X108 hx hby n0_86 (fun q86 => by exact absurd q86 (by decide)) (fun q86 => ?_)
        refine w_bipush X108 hx hby (8 : Int32) n0_89 rfl ?_
        refine w_goto X108 hx hby n0_91 ?_
        refine w_iload X108 hx hby n0_95 rfl ?_
        refine w_iconst X108 hx hby (2 : Int32) n0_97 rfl ?_
        refine w_imul X108 hx hby n0_98 ?_
        refine w_iadd X108 hx hby n0_99 ?_
        refine w_iload X108 hx hby n0_100 rfl ?_
        refine f_if_eq X108 hx hby n0_102 (fun q102 => by exact absurd q102 (by decide)) (fun q102 => ?_)
        refine w_iconst X108 hx hby (1 : Int32) n0_105 rfl ?_
        refine w_goto X108 hx hby n0_106 ?_
        refine w_iadd X108 hx hby n0_110 ?_
        refine w_istore X108 hx hby #[.val (.int y1), .val (.int y2), .val (.int y3), .val (.int y4), .val (.int (1 : Int32)), .val (.int (1 : Int32)), .val (.int (1 : Int32)), .val (.ref b82), .val (.ref b86), .val (.int (11 : Int32)), .val (.int (((8 : Int32) + ((1 : Int32) * (2 : Int32))) + (1 : Int32))), .unset, .unset, .unset, .unset] n0_111 rfl ?_
        refine w_iload X108 hx hby n0_113 rfl ?_
        refine f_if_lt X108 hx hby n0_115 (fun q115 => by exact absurd q115 (by decide)) (fun q115 => ?_)
        refine w_iload X108 hx hby n0_118 rfl ?_
        refine w_bipush X108 hx hby (15 : Int32) n0_120 rfl ?_
        refine f_icmp_gt X108 hx hby n0_122 (fun q122 => by exact absurd q122 (by decide)) (fun q122 => ?_)
        refine w_iconst X108 hx hby (1 : Int32) n0_125 rfl ?_
        refine w_goto X108 hx hby n0_126 ?_
        refine w_istore X108 hx hby #[.val (.int y1), .val (.int y2), .val (.int y3), .val (.int y4), .val (.int (1 : Int32)), .val (.int (1 : Int32)), .val (.int (1 : Int32)), .val (.ref b82), .val (.ref b86), .val (.int (11 : Int32)), .val (.int (((8 : Int32) + ((1 : Int32) * (2 : Int32))) + (1 : Int32))), .val (.int (1 : Int32)), .unset, .unset, .unset] n0_130 rfl ?_
        refine w_iload X108 hx hby n0_132 rfl ?_
        refine w_iconst X108 hx hby (1 : Int32) n0_134 rfl ?_
        refine w_iushr X108 hx hby n0_135 ?_
        refine w_iconst X108 hx hby (3 : Int32) n0_136 rfl ?_
        refine w_iand X108 hx hby n0_137 ?_
        refine w_iload X108 hx hby n0_138 rfl ?_
        refine f_icmp_ne X108 hx hby n0_140 (fun q140 => by exact absurd q140 (by decide)) (fun q140 => ?_)
        refine w_iconst X108 hx hby (1 : Int32) n0_143 rfl ?_
        refine w_goto X108 hx hby n0_144 ?_
        refine w_istore X108 hx hby #[.val (.int y1), .val (.int y2), .val (.int y3), .val (.int y4), .val (.int (1 : Int32)), .val (.int (1 : Int32)), .val (.int (1 : Int32)), .val (.ref b82), .val (.ref b86), .val (.int (11 : Int32)), .val (.int (((8 : Int32) + ((1 : Int32) * (2 : Int32))) + (1 : Int32))), .val (.int (1 : Int32)), .val (.int (1 : Int32)), .unset, .unset] n0_148 rfl ?_
        refine w_iload X108 hx hby n0_150 rfl ?_
        refine w_bipush X108 hx hby (8 : Int32) n0_152 rfl ?_
        refine w_iand X108 hx hby n0_154 ?_
        refine f_if_eq X108 hx hby n0_155 (fun q155 => by exact absurd q155 (by decide)) (fun q155 => ?_)
        refine w_iconst X108 hx hby (1 : Int32) n0_158 rfl ?_
        refine w_goto X108 hx hby n0_159 ?_
        refine w_iload X108 hx hby n0_163 rfl ?_
        refine f_icmp_ne X108 hx hby n0_165 (fun q165 => by exact absurd q165 (by decide)) (fun q165 => ?_)
        refine w_iconst X108 hx hby (1 : Int32) n0_168 rfl ?_
        refine w_goto X108 hx hby n0_169 ?_
        refine w_istore X108 hx hby #[.val (.int y1), .val (.int y2), .val (.int y3), .val (.int y4), .val (.int (1 : Int32)), .val (.int (1 : Int32)), .val (.int (1 : Int32)), .val (.ref b82), .val (.ref b86), .val (.int (11 : Int32)), .val (.int (((8 : Int32) + ((1 : Int32) * (2 : Int32))) + (1 : Int32))), .val (.int (1 : Int32)), .val (.int (1 : Int32)), .val (.int (1 : Int32)), .unset] n0_173 rfl ?_
        refine w_iload X108 hx hby n0_175 rfl ?_
        refine w_iconst X108 hx hby (1 : Int32) n0_177 rfl ?_
        refine w_iand X108 hx hby n0_178 ?_
        refine f_if_eq X108 hx hby n0_179 (fun q179 => by exact absurd q179 (by decide)) (fun q179 => ?_)
        refine w_iconst X108 hx hby (1 : Int32) n0_182 rfl ?_
        refine w_goto X108 hx hby n0_183 ?_
        refine w_iload X108 hx hby n0_187 rfl ?_
        refine f_icmp_ne X108 hx hby n0_189 (fun q189 => by exact absurd q189 (by decide)) (fun q189 => ?_)
        refine w_iconst X108 hx hby (1 : Int32) n0_192 rfl ?_
        refine w_goto X108 hx hby n0_193 ?_
        refine w_istore X108 hx hby #[.val (.int y1), .val (.int y2), .val (.int y3), .val (.int y4), .val (.int (1 : Int32)), .val (.int (1 : Int32)), .val (.int (1 : Int32)), .val (.ref b82), .val (.ref b86), .val (.int (11 : Int32)), .val (.int (((8 : Int32) + ((1 : Int32) * (2 : Int32))) + (1 : Int32))), .val (.int (1 : Int32)), .val (.int (1 : Int32)), .val (.int (1 : Int32)), .val (.int (1 : Int32))] n0_197 rfl ?_
        refine w_iload X108 hx hby n0_199 rfl ?_
        refine w_iload X108 hx hby n0_201 rfl ?_
        refine f_icmp_ne X108 hx hby n0_203 (fun q203 => by exact absurd q203 (by decide)) (fun q203 => ?_)
        refine w_iload X108 hx hby n0_206 rfl ?_
        refine f_if_eq X108 hx hby n0_208 (fun q208 => by exact absurd q208 (by decide)) (fun q208 => ?_)
        refine w_iload X108 hx hby n0_211 rfl ?_
        refine f_if_eq X108 hx hby n0_213 (fun q213 => by exact absurd q213 (by decide)) (fun q213 => ?_)
        refine w_iload X108 hx hby n0_216 rfl ?_
        refine f_if_eq X108 hx hby n0_218 (fun q218 => by exact absurd q218 (by decide)) (fun q218 => ?_)
        refine w_iload X108 hx hby n0_221 rfl ?_
        refine f_if_eq X108 hx hby n0_223 (fun q223 => by exact absurd q223 (by decide)) (fun q223 => ?_)
        refine w_iconst X108 hx hby (1 : Int32) n0_226 rfl ?_
        refine w_goto X108 hx hby n0_227 ?_
        refine w_retN X108 hx hby e108 hlk hret (by simp) n0_231 (by decide) (by decide) ?_
        exact ⟨rfl, N106⟩
      · rw [hq, show (own_fl (nar .boolean (1 : Int32)) (2 : Int32) (nar .boolean (1 : Int32))) = (13 : Int32) from by decide]
        refine w_istore X108 hx hby #[.val (.int y1), .val (.int y2), .val (.int y3), .val (.int y4), .val (.int (2 : Int32)), .val (.int (1 : Int32)), .val (.int (1 : Int32)), .val (.ref b82), .val (.ref b86), .val (.int (13 : Int32)), .unset, .unset, .unset, .unset, .unset] n0_82 rfl ?_
        refine w_iload X108 hx hby n0_84 rfl ?_
        refine f_if_eq X108 hx hby n0_86 (fun q86 => by exact absurd q86 (by decide)) (fun q86 => ?_)
        refine w_bipush X108 hx hby (8 : Int32) n0_89 rfl ?_
        refine w_goto X108 hx hby n0_91 ?_
        refine w_iload X108 hx hby n0_95 rfl ?_
        refine w_iconst X108 hx hby (2 : Int32) n0_97 rfl ?_
        refine w_imul X108 hx hby n0_98 ?_
        refine w_iadd X108 hx hby n0_99 ?_
        refine w_iload X108 hx hby n0_100 rfl ?_
        refine f_if_eq X108 hx hby n0_102 (fun q102 => by exact absurd q102 (by decide)) (fun q102 => ?_)
        refine w_iconst X108 hx hby (1 : Int32) n0_105 rfl ?_
        refine w_goto X108 hx hby n0_106 ?_
        refine w_iadd X108 hx hby n0_110 ?_
        refine w_istore X108 hx hby #[.val (.int y1), .val (.int y2), .val (.int y3), .val (.int y4), .val (.int (2 : Int32)), .val (.int (1 : Int32)), .val (.int (1 : Int32)), .val (.ref b82), .val (.ref b86), .val (.int (13 : Int32)), .val (.int (((8 : Int32) + ((2 : Int32) * (2 : Int32))) + (1 : Int32))), .unset, .unset, .unset, .unset] n0_111 rfl ?_
        refine w_iload X108 hx hby n0_113 rfl ?_
        refine f_if_lt X108 hx hby n0_115 (fun q115 => by exact absurd q115 (by decide)) (fun q115 => ?_)
        refine w_iload X108 hx hby n0_118 rfl ?_
        refine w_bipush X108 hx hby (15 : Int32) n0_120 rfl ?_
        refine f_icmp_gt X108 hx hby n0_122 (fun q122 => by exact absurd q122 (by decide)) (fun q122 => ?_)
        refine w_iconst X108 hx hby (1 : Int32) n0_125 rfl ?_
        refine w_goto X108 hx hby n0_126 ?_
        refine w_istore X108 hx hby #[.val (.int y1), .val (.int y2), .val (.int y3), .val (.int y4), .val (.int (2 : Int32)), .val (.int (1 : Int32)), .val (.int (1 : Int32)), .val (.ref b82), .val (.ref b86), .val (.int (13 : Int32)), .val (.int (((8 : Int32) + ((2 : Int32) * (2 : Int32))) + (1 : Int32))), .val (.int (1 : Int32)), .unset, .unset, .unset] n0_130 rfl ?_
        refine w_iload X108 hx hby n0_132 rfl ?_
        refine w_iconst X108 hx hby (1 : Int32) n0_134 rfl ?_
        refine w_iushr X108 hx hby n0_135 ?_
        refine w_iconst X108 hx hby (3 : Int32) n0_136 rfl ?_
        refine w_iand X108 hx hby n0_137 ?_
        refine w_iload X108 hx hby n0_138 rfl ?_
        refine f_icmp_ne X108 hx hby n0_140 (fun q140 => by exact absurd q140 (by decide)) (fun q140 => ?_)
        refine w_iconst X108 hx hby (1 : Int32) n0_143 rfl ?_
        refine w_goto X108 hx hby n0_144 ?_
        refine w_istore X108 hx hby #[.val (.int y1), .val (.int y2), .val (.int y3), .val (.int y4), .val (.int (2 : Int32)), .val (.int (1 : Int32)), .val (.int (1 : Int32)), .val (.ref b82), .val (.ref b86), .val (.int (13 : Int32)), .val (.int (((8 : Int32) + ((2 : Int32) * (2 : Int32))) + (1 : Int32))), .val (.int (1 : Int32)), .val (.int (1 : Int32)), .unset, .unset] n0_148 rfl ?_
        refine w_iload X108 hx hby n0_150 rfl ?_
        refine w_bipush X108 hx hby (8 : Int32) n0_152 rfl ?_
        refine w_iand X108 hx hby n0_154 ?_
        refine f_if_eq X108 hx hby n0_155 (fun q155 => by exact absurd q155 (by decide)) (fun q155 => ?_)
        refine w_iconst X108 hx hby (1 : Int32) n0_158 rfl ?_
        refine w_goto X108 hx hby n0_159 ?_
        refine w_iload X108 hx hby n0_163 rfl ?_
        refine f_icmp_ne X108 hx hby n0_165 (fun q165 => by exact absurd q165 (by decide)) (fun q165 => ?_)
        refine w_iconst X108 hx hby (1 : Int32) n0_168 rfl ?_
        refine w_goto X108 hx hby n0_169 ?_
        refine w_istore X108 hx hby #[.val (.int y1), .val (.int y2), .val (.int y3), .val (.int y4), .val (.int (2 : Int32)), .val (.int (1 : Int32)), .val (.int (1 : Int32)), .val (.ref b82), .val (.ref b86), .val (.int (13 : Int32)), .val (.int (((8 : Int32) + ((2 : Int32) * (2 : Int32))) + (1 : Int32))), .val (.int (1 : Int32)), .val (.int (1 : Int32)), .val (.int (1 : Int32)), .unset] n0_173 rfl ?_
        refine w_iload X108 hx hby n0_175 rfl ?_
        refine w_iconst X108 hx hby (1 : Int32) n0_177 rfl ?_
        refine w_iand X108 hx hby n0_178 ?_
        refine f_if_eq X108 hx hby n0_179 (fun q179 => by exact absurd q179 (by decide)) (fun q179 => ?_)
        refine w_iconst X108 hx hby (1 : Int32) n0_182 rfl ?_
        refine w_goto X108 hx hby n0_183 ?_
        refine w_iload X108 hx hby n0_187 rfl ?_
        refine f_icmp_ne X108 hx hby n0_189 (fun q189 => by exact absurd q189 (by decide)) (fun q189 => ?_)
        refine w_iconst X108 hx hby (1 : Int32) n0_192 rfl ?_
        refine w_goto X108 hx hby n0_193 ?_
        refine w_istore X108 hx hby #[.val (.int y1), .val (.int y2), .val (.int y3), .val (.int y4), .val (.int (2 : Int32)), .val (.int (1 : Int32)), .val (.int (1 : Int32)), .val (.ref b82), .val (.ref b86), .val (.int (13 : Int32)), .val (.int (((8 : Int32) + ((2 : Int32) * (2 : Int32))) + (1 : Int32))), .val (.int (1 : Int32)), .val (.int (1 : Int32)), .val (.int (1 : Int32)), .val (.int (1 : Int32))] n0_197 rfl ?_
        refine w_iload X108 hx hby n0_199 rfl ?_
        refine w_iload X108 hx hby n0_201 rfl ?_
        refine f_icmp_ne X108 hx hby n0_203 (fun q203 => by exact absurd q203 (by decide)) (fun q203 => ?_)
        refine w_iload X108 hx hby n0_206 rfl ?_
        refine f_if_eq X108 hx hby n0_208 (fun q208 => by exact absurd q208 (by decide)) (fun q208 => ?_)
        refine w_iload X108 hx hby n0_211 rfl ?_
        refine f_if_eq X108 hx hby n0_213 (fun q213 => by exact absurd q213 (by decide)) (fun q213 => ?_)
        refine w_iload X108 hx hby n0_216 rfl ?_
        refine f_if_eq X108 hx hby n0_218 (fun q218 => by exact absurd q218 (by decide)) (fun q218 => ?_)
        refine w_iload X108 hx hby n0_221 rfl ?_
        refine f_if_eq X108 hx hby n0_223 (fun q223 => by exact absurd q223 (by decide)) (fun q223 => ?_)
        refine w_iconst X108 hx hby (1 : Int32) n0_226 rfl ?_
        refine w_goto X108 hx hby n0_227 ?_
        refine w_retN X108 hx hby e108 hlk hret (by simp) n0_231 (by decide) (by decide) ?_
        exact ⟨rfl, N106⟩
set_option maxRecDepth 65536 in
set_option maxHeartbeats 40000000 in
theorem comes_1 {Post : Tables → Env → Array Value → State → Outcome → State → Prop} (hpost : ∀ tb e args s v u, (limb_1_1.after args s (.returned v) u = true ∧ limb_1_2.after args s (.returned v) u = true) → FrameEnd s (.returned v) u (Jvm.fieldLocs frame_1_writes args s ++ Jvm.arrayLocs frame_1_arrays args s ++ Jvm.staticLocs frame_1_statics s) 24 128 → Post tb e args s (.returned v) u) :
    ArmFor flags0 classFile x code maxLocals ret World_1 tables_1 room_1 Calls_1 rest_1 Pre_1 Post := by
  intro l hfl _ _ p e ha hc hk s m args below hf hA hF happ hP
  obtain ⟨hcalls, hrest, hpre⟩ := hP
  obtain ⟨-, -, -, hnamed, -, -, -, hat⟩ := (Spec.applies_iff hf).mp happ
  obtain ⟨hg, hn⟩ := and_e (Cond.before_iff.mp (show (Jvm.Cond.and given_1 narrow_1).before args s = true from hpre))
  obtain ⟨hcnt, hg⟩ := and_e hg
  obtain ⟨hg0, hg⟩ := and_e hg
  obtain ⟨hg1, hg⟩ := and_e hg
  obtain ⟨hg2, hg⟩ := and_e hg
  have hg3 := hg
  obtain ⟨w0, w1, w2, w3, rfl⟩ : ∃ w0 w1 w2 w3 : Value, args = #[w0, w1, w2, w3] := by
    have hs : args.size = 4 := by simpa [Cond.value, given_1] using hcnt
    obtain ⟨L⟩ := args
    match L, hs with
    | [w0, w1, w2, w3], _ => exact ⟨w0, w1, w2, w3, rfl⟩
  have hw := fun d (hd : d ∈ tables_1) => atoms_spec (ws := Jvm.Cond.code x code maxLocals ret :: tables_1) hat d (List.mem_cons_of_mem _ hd)
  have hfit : Fit s := fun {y c} hc i hi => by
    obtain ⟨ha, rfl⟩ := Array.getElem?_eq_some_iff.mp hc
    have q := List.all_eq_true.mp ((Array.all_eq_true_iff_forall_mem.mp hF) _ (Array.getElem_mem ha)) i (List.mem_range.mpr hi)
    simpa [Array.getElem?_eq_getElem hi] using q
  obtain ⟨hsets, hown0⟩ := atoms_of _ (rest_1_c_eq ▸ (show rest_1_c.before _ s = true from hrest))
  obtain ⟨i0, ei0⟩ := is_v hg0
  obtain rfl : w0 = (.int i0) := Option.some.inj ei0
  obtain ⟨i1, ei1⟩ := is_v hg1
  obtain rfl : w1 = (.int i1) := Option.some.inj ei1
  obtain ⟨i2, ei2⟩ := is_v hg2
  obtain rfl : w2 = (.int i2) := Option.some.inj ei2
  obtain ⟨i3, ei3⟩ := is_v hg3
  obtain rfl : w3 = (.int i3) := Option.some.inj ei3
  have n3 := not_v (Cond.before_iff.mp (hsets _ (List.mem_of_getElem? (i := 2) rfl)))
  obtain ⟨zc, ec⟩ := is_v (Cond.before_iff.mp (hsets _ (List.mem_of_getElem? (i := 1) rfl)))
  have S_C : Sta s s.heap "java/lang/String" "COMPACT_STRINGS" "Z" (.int zc) := Sta.start ec (Or.inl (hsets _ (List.mem_of_getElem? (i := 0) rfl)))
  have P3 : ¬ (zc = (0 : Int32)) := gotF (Cond.eq_ints ec (Term.int_eval (0))) n3
  obtain ⟨n, o, h1, h2, h3, _, L, rfl, ⟨rfl, N⟩, hq⟩ := law0 l s _ hw zc i0 i1 i2 i3 s.heap S_C P3 tables_1 p e ha hc hk s m _ below hf ((Spec.applies_iff_loose hf).mp happ).1 ⟨rfl, State.Warmed39.refl s, rfl⟩ trivial
  exact ⟨n, _, h1, h2, h3, hpost _ _ _ _ _ _ ⟨Cond.after_iff.mpr rfl, Cond.after_iff.mpr (eq_i res_at (Term.int_eval (1)) rfl)⟩ ⟨hq.1, hq.2.1, (hq.2.2.sift fun y hy => Or.inr (N y hy)).mono (by decide) (by decide)⟩⟩
theorem main_1_1 : Claimed_1_1 := comes_1 fun _ _ _ _ _ _ h hF => ⟨h.1, hF⟩
theorem main_1_2 : Claimed_1_2 := comes_1 fun _ _ _ _ _ _ h hF => ⟨h.2, hF⟩
end Jvm.Pilot.@@N@@
namespace Jvm.Pilot.@@N@@
open Jvm Jvm.ClassFile Sem Op Lib Jvm.Free Jvm.Stand Jvm.Pilot.@@N@@.Jvm.D
/-! MADE BY PROGRAM (witnessworld.py) out of the Statement's table words and the real class files: 24 classes; the members and pool entries that the words name. The judged class is class 1, her method 1. -/
namespace start1
open Jvm.ClassFile
def u (s : String) : CpInfo := .utf8 (stringToUtf16 s)
/-- a pool by its gaps: so many unusable entries, then the entry; so many at the end -/
def gap : Nat → List CpInfo → List CpInfo
  | 0, r => r
  | n + 1, r => .unusable :: gap n r
def poolList (es : List (Nat × CpInfo)) (last : Nat) : List CpInfo := es.foldr (fun e r => gap e.1 (e.2 :: r)) (gap last [])
def pool (es : List (Nat × CpInfo)) (last : Nat) : Array CpInfo := ⟨poolList es last⟩
def fileOf (pool : Array CpInfo) (this : Nat) (attrs : Array Attribute := #[]) (ms : Array MethodInfo := #[]) (fl : Nat := 33) (sup : Nat := 0) (ifs : Array Nat := #[]) (fds : Array FieldInfo := #[]) : ClassFile where
  minorVersion := 0
  majorVersion := 65
  constantPool := pool
  accessFlags := fl
  thisClass := this
  superClass := sup
  interfaces := ifs
  fields := fds
  methods := ms
  attributes := attrs
def plain (name : String) (sup : Option ClassId) : Class where
  name := name
  kind := .ordinary
  loader := none
  accessFlags := 33
  super := sup
  interfaces := #[]
  cf := none
  fields := #[]
  methods := #[]
  instanceTypes := #[]
  staticTypes := #[]
  resolved := #[]
  callSites := []
  init := .initialized
  statics := none
  mirror := none

def pool0 : Array CpInfo := pool [(5, u "<init>"), (0, u "()V"), (1, .class_ 10), (1, u "java/lang/Object")] 113

def k0c0 : Code := { maxStack := 0, maxLocals := 1, code := object_method_1_code, exceptionTable := #[], attributes := #[] }
def k0m0 : Method := { name := "<init>", desc := "()V", sig := { parameters := [], returnType := none }, accessFlags := 1, code := some k0c0 }
/-- java/lang/Object -/
def k0 : Class := { plain "java/lang/Object" none with
  accessFlags := 33
  interfaces := #[]
  cf := some (fileOf pool0 8 #[] #[{ accessFlags := 1, nameIndex := 5, descriptorIndex := 6, attributes := #[] }] 33 0 #[] #[])
  fields := #[]
  methods := #[k0m0]
  instanceTypes := #[]
  staticTypes := #[]
  resolved := Array.replicate 124 none
  statics := none }

def pool1 : Array CpInfo := pool [(2, .class_ 4), (1, u "java/lang/Object"), (0, u "<init>"), (0, u "()V"), (0, .integer 2147483647), (0, .class_ 9), (0, u "com/example/qingniao/qingniao/packets/Publish"), (0, .class_ 11), (0, u "java/lang/String"), (0, .methodref 10 13), (0, .nameAndType 5 14), (0, u "([C)V"), (0, .methodref 8 16), (0, .nameAndType 5 17), (0, u "(Ljava/lang/String;IZZI[B)V"), (0, .methodref 8 19), (0, .nameAndType 20 21), (0, u "flags"), (0, u "()I"), (0, .class_ 23), (0, u "com/example/qingniao/qingniao/packets/PublishFlagsPinLaw"), (2, u "law"), (0, u "(IIII)Z")] 5

def k1m0 : Method := { name := "<init>", desc := "()V", sig := { parameters := [], returnType := none }, accessFlags := 2, code := none }
def k1c1 : Code := { maxStack := 8, maxLocals := 15, code := code, exceptionTable := #[], attributes := #[] }
def k1m1 : Method := { name := "law", desc := "(IIII)Z", sig := { parameters := [.int, .int, .int, .int], returnType := some .boolean }, accessFlags := 9, code := some k1c1 }
/-- com/example/qingniao/qingniao/packets/PublishFlagsPinLaw -/
def k1 : Class := { plain "com/example/qingniao/qingniao/packets/PublishFlagsPinLaw" (some 0) with
  accessFlags := 49
  interfaces := #[]
  cf := some (fileOf pool1 22 #[] #[{ accessFlags := 2, nameIndex := 5, descriptorIndex := 6, attributes := #[] }, { accessFlags := 9, nameIndex := 26, descriptorIndex := 27, attributes := #[] }] 49 2 #[] #[])
  fields := #[]
  methods := #[k1m0, k1m1]
  instanceTypes := #[]
  staticTypes := #[]
  resolved := Array.replicate 33 none
  statics := none }

def pool2 : Array CpInfo := pool [(1, .methodref 2 3), (0, .class_ 4), (0, .nameAndType 5 6), (0, u "java/lang/Object"), (0, u "<init>"), (0, u "()V"), (0, .class_ 8), (0, u "java/lang/Record")] 13

def k2c0 : Code := { maxStack := 1, maxLocals := 1, code := jdk_30_method_1_code, exceptionTable := #[], attributes := #[] }
def k2m0 : Method := { name := "<init>", desc := "()V", sig := { parameters := [], returnType := none }, accessFlags := 4, code := some k2c0 }
/-- java/lang/Record -/
def k2 : Class := { plain "java/lang/Record" (some 0) with
  accessFlags := 1057
  interfaces := #[]
  cf := some (fileOf pool2 7 #[] #[{ accessFlags := 4, nameIndex := 5, descriptorIndex := 6, attributes := #[] }] 1057 2 #[] #[])
  fields := #[]
  methods := #[k2m0]
  instanceTypes := #[]
  staticTypes := #[]
  resolved := Array.replicate 22 none
  statics := none }

def pool3 : Array CpInfo := pool [(1, .class_ 2), (0, u "com/example/qingniao/qingniao/packets/Packet"), (0, .class_ 4), (0, u "java/lang/Object")] 4

/-- com/example/qingniao/qingniao/packets/Packet -/
def k3 : Class := { plain "com/example/qingniao/qingniao/packets/Packet" (some 0) with
  accessFlags := 1537
  interfaces := #[]
  cf := some (fileOf pool3 1 #[] #[] 1537 3 #[] #[])
  fields := #[]
  methods := #[]
  instanceTypes := #[]
  staticTypes := #[]
  resolved := Array.replicate 9 none
  statics := none }

def pool4 : Array CpInfo := pool [(1, .class_ 2), (0, u "com/example/qingniao/qingniao/packets/Writable"), (0, .class_ 4), (0, u "java/lang/Object")] 6

/-- com/example/qingniao/qingniao/packets/Writable -/
def k4 : Class := { plain "com/example/qingniao/qingniao/packets/Writable" (some 0) with
  accessFlags := 1537
  interfaces := #[]
  cf := some (fileOf pool4 1 #[] #[] 1537 3 #[] #[])
  fields := #[]
  methods := #[]
  instanceTypes := #[]
  staticTypes := #[]
  resolved := Array.replicate 11 none
  statics := none }

def pool5 : Array CpInfo := pool [(2, .class_ 4), (1, u "com/example/qingniao/qingniao/packets/WritablePacket"), (55, .class_ 61), (0, u "java/lang/Object"), (0, .class_ 63), (0, u "com/example/qingniao/qingniao/packets/Packet"), (0, .class_ 65), (0, u "com/example/qingniao/qingniao/packets/Writable")] 5

/-- com/example/qingniao/qingniao/packets/WritablePacket -/
def k5 : Class := { plain "com/example/qingniao/qingniao/packets/WritablePacket" (some 0) with
  accessFlags := 1537
  interfaces := #[3, 4]
  cf := some (fileOf pool5 2 #[] #[] 1537 60 #[62, 64] #[])
  fields := #[]
  methods := #[]
  instanceTypes := #[]
  staticTypes := #[]
  resolved := Array.replicate 71 none
  statics := none }

def pool6 : Array CpInfo := pool [(1, .methodref 2 3), (0, .class_ 4), (0, .nameAndType 5 6), (0, u "java/lang/Record"), (0, u "<init>"), (0, u "()V"), (0, .fieldref 8 9), (0, .class_ 10), (0, .nameAndType 11 12), (0, u "com/example/qingniao/qingniao/packets/Publish"), (0, u "topic"), (0, u "Ljava/lang/String;"), (0, .fieldref 8 14), (0, .nameAndType 15 16), (0, u "qos"), (0, u "I"), (0, .fieldref 8 18), (0, .nameAndType 19 20), (0, u "retain"), (0, u "Z"), (0, .fieldref 8 22), (0, .nameAndType 23 20), (0, u "dup"), (0, .fieldref 8 25), (0, .nameAndType 26 16), (0, u "packetId"), (0, .fieldref 8 28), (0, .nameAndType 29 30), (0, u "payload"), (0, u "[B"), (25, u "()I"), (64, u "(Ljava/lang/String;IZZI[B)V"), (12, .class_ 135), (0, u "com/example/qingniao/qingniao/packets/WritablePacket"), (0, u "RETAIN"), (2, u "QOS_SHIFT"), (0, u "DUP"), (6, u "flags")] 39

def k6c0 : Code := { maxStack := 2, maxLocals := 7, code := prog_62_method_1_code, exceptionTable := #[], attributes := #[] }
def k6m0 : Method := { name := "<init>", desc := "(Ljava/lang/String;IZZI[B)V", sig := { parameters := [(.object "java/lang/String"), .int, .boolean, .boolean, .int, (.array .byte)], returnType := none }, accessFlags := 1, code := some k6c0 }
def k6c1 : Code := { maxStack := 3, maxLocals := 1, code := prog_62_method_3_code, exceptionTable := #[], attributes := #[] }
def k6m1 : Method := { name := "flags", desc := "()I", sig := { parameters := [], returnType := some .int }, accessFlags := 1, code := some k6c1 }
/-- com/example/qingniao/qingniao/packets/Publish -/
def k6 : Class := { plain "com/example/qingniao/qingniao/packets/Publish" (some 2) with
  accessFlags := 49
  interfaces := #[5]
  cf := some (fileOf pool6 8 #[] #[{ accessFlags := 1, nameIndex := 5, descriptorIndex := 121, attributes := #[] }, { accessFlags := 1, nameIndex := 147, descriptorIndex := 56, attributes := #[] }] 49 2 #[134] #[{ accessFlags := 18, nameIndex := 11, descriptorIndex := 12, attributes := #[] }, { accessFlags := 18, nameIndex := 15, descriptorIndex := 16, attributes := #[] }, { accessFlags := 18, nameIndex := 19, descriptorIndex := 20, attributes := #[] }, { accessFlags := 18, nameIndex := 23, descriptorIndex := 20, attributes := #[] }, { accessFlags := 18, nameIndex := 26, descriptorIndex := 16, attributes := #[] }, { accessFlags := 18, nameIndex := 29, descriptorIndex := 30, attributes := #[] }, { accessFlags := 26, nameIndex := 136, descriptorIndex := 16, attributes := #[] }, { accessFlags := 26, nameIndex := 139, descriptorIndex := 16, attributes := #[] }, { accessFlags := 26, nameIndex := 140, descriptorIndex := 16, attributes := #[] }])
  fields := #[{ name := "topic", type := (.object "java/lang/String"), accessFlags := 18, slot := 0, constantValue := 0 }, { name := "qos", type := .int, accessFlags := 18, slot := 1, constantValue := 0 }, { name := "retain", type := .boolean, accessFlags := 18, slot := 2, constantValue := 0 }, { name := "dup", type := .boolean, accessFlags := 18, slot := 3, constantValue := 0 }, { name := "packetId", type := .int, accessFlags := 18, slot := 4, constantValue := 0 }, { name := "payload", type := (.array .byte), accessFlags := 18, slot := 5, constantValue := 0 }, { name := "RETAIN", type := .int, accessFlags := 26, slot := 0, constantValue := 0 }, { name := "QOS_SHIFT", type := .int, accessFlags := 26, slot := 1, constantValue := 0 }, { name := "DUP", type := .int, accessFlags := 26, slot := 2, constantValue := 0 }]
  methods := #[k6m0, k6m1]
  instanceTypes := #[(.object "java/lang/String"), .int, .boolean, .boolean, .int, (.array .byte)]
  staticTypes := #[.int, .int, .int]
  resolved := Array.replicate 187 none
  statics := none }

def pool7 : Array CpInfo := pool [(1, .class_ 2), (0, u "java/io/Serializable"), (0, .class_ 4), (0, u "java/lang/Object")] 2

/-- java/io/Serializable -/
def k7 : Class := { plain "java/io/Serializable" (some 0) with
  accessFlags := 1537
  interfaces := #[]
  cf := some (fileOf pool7 1 #[] #[] 1537 3 #[] #[])
  fields := #[]
  methods := #[]
  instanceTypes := #[]
  staticTypes := #[]
  resolved := Array.replicate 7 none
  statics := none }

def pool8 : Array CpInfo := pool [(1, .class_ 2), (0, u "java/lang/Comparable"), (0, .class_ 4), (0, u "java/lang/Object")] 7

/-- java/lang/Comparable -/
def k8 : Class := { plain "java/lang/Comparable" (some 0) with
  accessFlags := 1537
  interfaces := #[]
  cf := some (fileOf pool8 1 #[] #[] 1537 3 #[] #[])
  fields := #[]
  methods := #[]
  instanceTypes := #[]
  staticTypes := #[]
  resolved := Array.replicate 12 none
  statics := none }

def pool9 : Array CpInfo := pool [(2, .class_ 4), (1, u "java/lang/CharSequence"), (42, .class_ 48), (0, u "java/lang/CharSequence$1CodePointIterator"), (10, .class_ 60), (0, u "java/lang/CharSequence$1CharIterator"), (5, .class_ 67), (0, u "java/lang/Object")] 63

/-- java/lang/CharSequence -/
def k9 : Class := { plain "java/lang/CharSequence" (some 0) with
  accessFlags := 1537
  interfaces := #[]
  cf := some (fileOf pool9 2 #[.nestMembers #[47, 59]] #[] 1537 66 #[] #[])
  fields := #[]
  methods := #[]
  instanceTypes := #[]
  staticTypes := #[]
  resolved := Array.replicate 131 none
  statics := none }

def pool10 : Array CpInfo := pool [(1, .class_ 2), (0, u "java/lang/constant/Constable"), (0, .class_ 4), (0, u "java/lang/Object")] 6

/-- java/lang/constant/Constable -/
def k10 : Class := { plain "java/lang/constant/Constable" (some 0) with
  accessFlags := 1537
  interfaces := #[]
  cf := some (fileOf pool10 1 #[] #[] 1537 3 #[] #[])
  fields := #[]
  methods := #[]
  instanceTypes := #[]
  staticTypes := #[]
  resolved := Array.replicate 11 none
  statics := none }

def pool11 : Array CpInfo := pool [(1, .class_ 2), (0, u "java/lang/constant/ConstantDesc"), (0, .class_ 4), (0, u "java/lang/Object")] 32

/-- java/lang/constant/ConstantDesc -/
def k11 : Class := { plain "java/lang/constant/ConstantDesc" (some 0) with
  accessFlags := 1537
  interfaces := #[]
  cf := some (fileOf pool11 1 #[] #[] 1537 3 #[] #[])
  fields := #[]
  methods := #[]
  instanceTypes := #[]
  staticTypes := #[]
  resolved := Array.replicate 37 none
  statics := none }

def pool12 : Array CpInfo := pool [(1, .methodref 2 3), (0, .class_ 4), (0, .nameAndType 5 6), (0, u "java/lang/Object"), (0, u "<init>"), (0, u "()V"), (2, .fieldref 10 11), (0, .class_ 12), (0, .nameAndType 13 14), (0, u "java/lang/String"), (0, u "value"), (0, u "[B"), (0, .fieldref 10 16), (0, .nameAndType 17 18), (0, u "coder"), (0, u "B"), (2, u "hash"), (0, u "I"), (2, u "hashIsZero"), (0, u "Z"), (0, .methodref 10 28), (0, .nameAndType 5 29), (0, u "([CIILjava/lang/Void;)V"), (8, .fieldref 10 39), (0, .nameAndType 40 26), (0, u "COMPACT_STRINGS"), (1, .class_ 44), (1, u "java/lang/StringUTF16"), (0, u "compress"), (1, .methodref 42 48), (0, .nameAndType 49 50), (0, u "coderFromArrayLen"), (0, u "([BI)B"), (126, .methodref 42 178), (0, .nameAndType 45 179), (0, u "([CII)[B"), (395, .class_ 576), (0, u "java/lang/CharSequence"), (22, u "CASE_INSENSITIVE_ORDER"), (0, u "Ljava/util/Comparator;"), (409, u "([C)V"), (90, u "serialPersistentFields"), (0, u "[Ljava/io/ObjectStreamField;"), (0, .class_ 1104), (0, u "java/lang/String$CaseInsensitiveComparator"), (1, .class_ 1107), (0, u "java/io/Serializable"), (0, .class_ 1109), (0, u "java/lang/Comparable"), (0, .class_ 1111), (0, u "java/lang/constant/Constable"), (0, .class_ 1113), (0, u "java/lang/constant/ConstantDesc"), (2, u "serialVersionUID"), (0, u "J"), (3, u "REPL"), (0, u "C"), (2, u "LATIN1"), (1, u "UTF16")] 323

def k12m0 : Method := { name := "<init>", desc := "()V", sig := { parameters := [], returnType := none }, accessFlags := 1, code := none }
def k12c1 : Code := { maxStack := 5, maxLocals := 2, code := jdk_42_method_3_code, exceptionTable := #[], attributes := #[] }
def k12m1 : Method := { name := "<init>", desc := "([C)V", sig := { parameters := [(.array .char)], returnType := none }, accessFlags := 1, code := some k12c1 }
def k12c2 : Code := { maxStack := 4, maxLocals := 6, code := jdk_42_method_149_code, exceptionTable := #[], attributes := #[] }
def k12m2 : Method := { name := "<init>", desc := "([CIILjava/lang/Void;)V", sig := { parameters := [(.array .char), .int, .int, (.object "java/lang/Void")], returnType := none }, accessFlags := 2, code := some k12c2 }
/-- java/lang/String -/
def k12 : Class := { plain "java/lang/String" (some 0) with
  accessFlags := 49
  interfaces := #[7, 8, 9, 10, 11]
  cf := some (fileOf pool12 10 #[.nestMembers #[1103]] #[{ accessFlags := 1, nameIndex := 5, descriptorIndex := 6, attributes := #[] }, { accessFlags := 1, nameIndex := 5, descriptorIndex := 1010, attributes := #[] }, { accessFlags := 2, nameIndex := 5, descriptorIndex := 29, attributes := #[] }] 49 2 #[1106, 1108, 575, 1110, 1112] #[{ accessFlags := 18, nameIndex := 13, descriptorIndex := 14, attributes := #[] }, { accessFlags := 18, nameIndex := 17, descriptorIndex := 18, attributes := #[] }, { accessFlags := 2, nameIndex := 21, descriptorIndex := 22, attributes := #[] }, { accessFlags := 2, nameIndex := 25, descriptorIndex := 26, attributes := #[] }, { accessFlags := 26, nameIndex := 1116, descriptorIndex := 1117, attributes := #[] }, { accessFlags := 24, nameIndex := 40, descriptorIndex := 26, attributes := #[] }, { accessFlags := 26, nameIndex := 1101, descriptorIndex := 1102, attributes := #[] }, { accessFlags := 26, nameIndex := 1121, descriptorIndex := 1122, attributes := #[] }, { accessFlags := 25, nameIndex := 599, descriptorIndex := 600, attributes := #[] }, { accessFlags := 24, nameIndex := 1125, descriptorIndex := 18, attributes := #[] }, { accessFlags := 24, nameIndex := 1127, descriptorIndex := 18, attributes := #[] }])
  fields := #[{ name := "value", type := (.array .byte), accessFlags := 18, slot := 0, constantValue := 0 }, { name := "coder", type := .byte, accessFlags := 18, slot := 1, constantValue := 0 }, { name := "hash", type := .int, accessFlags := 2, slot := 2, constantValue := 0 }, { name := "hashIsZero", type := .boolean, accessFlags := 2, slot := 3, constantValue := 0 }, { name := "serialVersionUID", type := .long, accessFlags := 26, slot := 0, constantValue := 0 }, { name := "COMPACT_STRINGS", type := .boolean, accessFlags := 24, slot := 1, constantValue := 0 }, { name := "serialPersistentFields", type := (.array (.object "java/io/ObjectStreamField")), accessFlags := 26, slot := 2, constantValue := 0 }, { name := "REPL", type := .char, accessFlags := 26, slot := 3, constantValue := 0 }, { name := "CASE_INSENSITIVE_ORDER", type := (.object "java/util/Comparator"), accessFlags := 25, slot := 4, constantValue := 0 }, { name := "LATIN1", type := .byte, accessFlags := 24, slot := 5, constantValue := 0 }, { name := "UTF16", type := .byte, accessFlags := 24, slot := 6, constantValue := 0 }]
  methods := #[k12m0, k12m1, k12m2]
  instanceTypes := #[(.array .byte), .byte, .int, .boolean]
  staticTypes := #[.long, .boolean, (.array (.object "java/io/ObjectStreamField")), .char, (.object "java/util/Comparator"), .byte, .byte]
  resolved := Array.replicate 1451 none
  statics := some 0 }

def pool13 : Array CpInfo := pool [(6, .class_ 8), (1, u "java/lang/Object"), (0, u "<init>"), (0, u "()V"), (1, .class_ 14), (1, u "java/lang/StringUTF16"), (31, u "$assertionsDisabled"), (0, u "Z"), (13, u "HI_BYTE_SHIFT"), (0, u "I"), (2, u "LO_BYTE_SHIFT"), (49, .methodref 12 116), (0, .nameAndType 117 118), (0, u "compress"), (0, u "([CI[BII)I"), (3, u "([CII)[B"), (138, u "coderFromArrayLen"), (0, u "([BI)B"), (106, .class_ 371), (1, u "java/lang/StringUTF16$LinesSpliterator"), (58, u "MAX_LENGTH"), (196, .class_ 628), (0, u "java/lang/StringUTF16$CodePointsSpliterator"), (0, .class_ 630), (0, u "java/lang/StringUTF16$CharsSpliterator")] 4

def k13m0 : Method := { name := "<init>", desc := "()V", sig := { parameters := [], returnType := none }, accessFlags := 0, code := none }
def k13c1 : Code := { maxStack := 2, maxLocals := 2, code := jdk_52_method_15_code, exceptionTable := #[], attributes := #[] }
def k13m1 : Method := { name := "coderFromArrayLen", desc := "([BI)B", sig := { parameters := [(.array .byte), .int], returnType := some .byte }, accessFlags := 8, code := some k13c1 }
def k13c2 : Code := { maxStack := 5, maxLocals := 6, code := jdk_52_method_16_code, exceptionTable := #[], attributes := #[] }
def k13m2 : Method := { name := "compress", desc := "([CII)[B", sig := { parameters := [(.array .char), .int, .int], returnType := some (.array .byte) }, accessFlags := 9, code := some k13c2 }
def k13c3 : Code := { maxStack := 3, maxLocals := 7, code := jdk_52_method_21_code, exceptionTable := #[], attributes := #[] }
def k13m3 : Method := { name := "compress", desc := "([CI[BII)I", sig := { parameters := [(.array .char), .int, (.array .byte), .int, .int], returnType := some .int }, accessFlags := 9, code := some k13c3 }
/-- java/lang/StringUTF16 -/
def k13 : Class := { plain "java/lang/StringUTF16" (some 0) with
  accessFlags := 48
  interfaces := #[]
  cf := some (fileOf pool13 12 #[.nestMembers #[627, 629, 369]] #[{ accessFlags := 0, nameIndex := 9, descriptorIndex := 10, attributes := #[] }, { accessFlags := 8, nameIndex := 261, descriptorIndex := 262, attributes := #[] }, { accessFlags := 9, nameIndex := 117, descriptorIndex := 122, attributes := #[] }, { accessFlags := 9, nameIndex := 117, descriptorIndex := 118, attributes := #[] }] 48 6 #[] #[{ accessFlags := 26, nameIndex := 61, descriptorIndex := 62, attributes := #[] }, { accessFlags := 26, nameIndex := 65, descriptorIndex := 62, attributes := #[] }, { accessFlags := 24, nameIndex := 430, descriptorIndex := 62, attributes := #[] }, { accessFlags := 4120, nameIndex := 46, descriptorIndex := 47, attributes := #[] }])
  fields := #[{ name := "HI_BYTE_SHIFT", type := .int, accessFlags := 26, slot := 0, constantValue := 0 }, { name := "LO_BYTE_SHIFT", type := .int, accessFlags := 26, slot := 1, constantValue := 0 }, { name := "MAX_LENGTH", type := .int, accessFlags := 24, slot := 2, constantValue := 0 }, { name := "$assertionsDisabled", type := .boolean, accessFlags := 4120, slot := 3, constantValue := 0 }]
  methods := #[k13m0, k13m1, k13m2, k13m3]
  instanceTypes := #[]
  staticTypes := #[.int, .int, .int, .boolean]
  resolved := Array.replicate 635 none
  statics := none }

def pool14 : Array CpInfo := pool [(4, .class_ 6), (1, u "java/lang/Object"), (0, u "<init>"), (0, u "()V"), (5, .class_ 16), (1, u "java/lang/StringLatin1"), (104, u "$assertionsDisabled"), (0, u "Z"), (98, .class_ 223), (1, u "java/lang/StringLatin1$LinesSpliterator"), (166, .class_ 391), (0, u "java/lang/StringLatin1$CharsSpliterator")] 3

def k14m0 : Method := { name := "<init>", desc := "()V", sig := { parameters := [], returnType := none }, accessFlags := 0, code := none }
/-- java/lang/StringLatin1 -/
def k14 : Class := { plain "java/lang/StringLatin1" (some 0) with
  accessFlags := 48
  interfaces := #[]
  cf := some (fileOf pool14 14 #[.nestMembers #[390, 221]] #[{ accessFlags := 0, nameIndex := 7, descriptorIndex := 8, attributes := #[] }] 48 4 #[] #[{ accessFlags := 4120, nameIndex := 121, descriptorIndex := 122, attributes := #[] }])
  fields := #[{ name := "$assertionsDisabled", type := .boolean, accessFlags := 4120, slot := 0, constantValue := 0 }]
  methods := #[k14m0]
  instanceTypes := #[]
  staticTypes := #[.boolean]
  resolved := Array.replicate 395 none
  statics := none }

def pool15 : Array CpInfo := pool [(2, .class_ 4), (1, u "java/lang/Object"), (0, u "<init>"), (0, u "()V"), (17, .class_ 26), (1, u "jdk/internal/util/Preconditions"), (28, .class_ 56), (0, u "jdk/internal/util/Preconditions$4"), (57, .class_ 115), (0, u "jdk/internal/util/Preconditions$1"), (7, u "SIOOBE_FORMATTER"), (0, u "Ljava/util/function/BiFunction;"), (0, .class_ 126), (0, u "jdk/internal/util/Preconditions$2"), (3, u "AIOOBE_FORMATTER"), (0, .class_ 132), (0, u "jdk/internal/util/Preconditions$3"), (3, u "IOOBE_FORMATTER")] 57

def k15m0 : Method := { name := "<init>", desc := "()V", sig := { parameters := [], returnType := none }, accessFlags := 1, code := none }
/-- jdk/internal/util/Preconditions -/
def k15 : Class := { plain "jdk/internal/util/Preconditions" (some 0) with
  accessFlags := 33
  interfaces := #[]
  cf := some (fileOf pool15 24 #[.nestMembers #[55, 131, 125, 114]] #[{ accessFlags := 1, nameIndex := 5, descriptorIndex := 6, attributes := #[] }] 33 2 #[] #[{ accessFlags := 25, nameIndex := 123, descriptorIndex := 124, attributes := #[] }, { accessFlags := 25, nameIndex := 130, descriptorIndex := 124, attributes := #[] }, { accessFlags := 25, nameIndex := 136, descriptorIndex := 124, attributes := #[] }])
  fields := #[{ name := "SIOOBE_FORMATTER", type := (.object "java/util/function/BiFunction"), accessFlags := 25, slot := 0, constantValue := 0 }, { name := "AIOOBE_FORMATTER", type := (.object "java/util/function/BiFunction"), accessFlags := 25, slot := 1, constantValue := 0 }, { name := "IOOBE_FORMATTER", type := (.object "java/util/function/BiFunction"), accessFlags := 25, slot := 2, constantValue := 0 }]
  methods := #[k15m0]
  instanceTypes := #[]
  staticTypes := #[(.object "java/util/function/BiFunction"), (.object "java/util/function/BiFunction"), (.object "java/util/function/BiFunction")]
  resolved := Array.replicate 194 none
  statics := some 1 }

def pool16 : Array CpInfo := pool [(9, u "<init>"), (6, .class_ 18), (1, u "java/lang/Object"), (0, u "()V"), (1, .class_ 23), (1, u "jdk/internal/util/ArraysSupport"), (0, u "LOG2_ARRAY_LONG_INDEX_SCALE"), (0, u "I"), (2, u "U"), (0, u "Ljdk/internal/misc/Unsafe;"), (8, u "BIG_ENDIAN"), (0, u "Z"), (8, u "LOG2_BYTE_BIT_SIZE"), (4, u "LOG2_ARRAY_INT_INDEX_SCALE"), (54, u "JLA"), (0, u "Ljdk/internal/access/JavaLangAccess;"), (11, u "LOG2_ARRAY_BOOLEAN_INDEX_SCALE"), (9, u "LOG2_ARRAY_BYTE_INDEX_SCALE"), (5, u "LOG2_ARRAY_CHAR_INDEX_SCALE"), (5, u "LOG2_ARRAY_SHORT_INDEX_SCALE"), (18, u "LOG2_ARRAY_FLOAT_INDEX_SCALE"), (24, u "LOG2_ARRAY_DOUBLE_INDEX_SCALE"), (89, u "T_BOOLEAN"), (2, u "T_CHAR"), (1, u "T_FLOAT"), (1, u "T_DOUBLE"), (1, u "T_BYTE"), (1, u "T_SHORT"), (1, u "T_INT"), (1, u "T_LONG"), (1, u "SOFT_MAX_ARRAY_LENGTH")] 83

def k16m0 : Method := { name := "<init>", desc := "()V", sig := { parameters := [], returnType := none }, accessFlags := 2, code := none }
/-- jdk/internal/util/ArraysSupport -/
def k16 : Class := { plain "jdk/internal/util/ArraysSupport" (some 0) with
  accessFlags := 33
  interfaces := #[]
  cf := some (fileOf pool16 21 #[] #[{ accessFlags := 2, nameIndex := 9, descriptorIndex := 19, attributes := #[] }] 33 16 #[] #[{ accessFlags := 24, nameIndex := 28, descriptorIndex := 29, attributes := #[] }, { accessFlags := 26, nameIndex := 38, descriptorIndex := 39, attributes := #[] }, { accessFlags := 25, nameIndex := 121, descriptorIndex := 25, attributes := #[] }, { accessFlags := 25, nameIndex := 131, descriptorIndex := 25, attributes := #[] }, { accessFlags := 25, nameIndex := 137, descriptorIndex := 25, attributes := #[] }, { accessFlags := 25, nameIndex := 143, descriptorIndex := 25, attributes := #[] }, { accessFlags := 25, nameIndex := 53, descriptorIndex := 25, attributes := #[] }, { accessFlags := 25, nameIndex := 24, descriptorIndex := 25, attributes := #[] }, { accessFlags := 25, nameIndex := 162, descriptorIndex := 25, attributes := #[] }, { accessFlags := 25, nameIndex := 187, descriptorIndex := 25, attributes := #[] }, { accessFlags := 26, nameIndex := 48, descriptorIndex := 25, attributes := #[] }, { accessFlags := 25, nameIndex := 277, descriptorIndex := 25, attributes := #[] }, { accessFlags := 25, nameIndex := 280, descriptorIndex := 25, attributes := #[] }, { accessFlags := 25, nameIndex := 282, descriptorIndex := 25, attributes := #[] }, { accessFlags := 25, nameIndex := 284, descriptorIndex := 25, attributes := #[] }, { accessFlags := 25, nameIndex := 286, descriptorIndex := 25, attributes := #[] }, { accessFlags := 25, nameIndex := 288, descriptorIndex := 25, attributes := #[] }, { accessFlags := 25, nameIndex := 290, descriptorIndex := 25, attributes := #[] }, { accessFlags := 25, nameIndex := 292, descriptorIndex := 25, attributes := #[] }, { accessFlags := 26, nameIndex := 108, descriptorIndex := 109, attributes := #[] }, { accessFlags := 25, nameIndex := 294, descriptorIndex := 25, attributes := #[] }])
  fields := #[{ name := "U", type := (.object "jdk/internal/misc/Unsafe"), accessFlags := 24, slot := 0, constantValue := 0 }, { name := "BIG_ENDIAN", type := .boolean, accessFlags := 26, slot := 1, constantValue := 0 }, { name := "LOG2_ARRAY_BOOLEAN_INDEX_SCALE", type := .int, accessFlags := 25, slot := 2, constantValue := 0 }, { name := "LOG2_ARRAY_BYTE_INDEX_SCALE", type := .int, accessFlags := 25, slot := 3, constantValue := 0 }, { name := "LOG2_ARRAY_CHAR_INDEX_SCALE", type := .int, accessFlags := 25, slot := 4, constantValue := 0 }, { name := "LOG2_ARRAY_SHORT_INDEX_SCALE", type := .int, accessFlags := 25, slot := 5, constantValue := 0 }, { name := "LOG2_ARRAY_INT_INDEX_SCALE", type := .int, accessFlags := 25, slot := 6, constantValue := 0 }, { name := "LOG2_ARRAY_LONG_INDEX_SCALE", type := .int, accessFlags := 25, slot := 7, constantValue := 0 }, { name := "LOG2_ARRAY_FLOAT_INDEX_SCALE", type := .int, accessFlags := 25, slot := 8, constantValue := 0 }, { name := "LOG2_ARRAY_DOUBLE_INDEX_SCALE", type := .int, accessFlags := 25, slot := 9, constantValue := 0 }, { name := "LOG2_BYTE_BIT_SIZE", type := .int, accessFlags := 26, slot := 10, constantValue := 0 }, { name := "T_BOOLEAN", type := .int, accessFlags := 25, slot := 11, constantValue := 0 }, { name := "T_CHAR", type := .int, accessFlags := 25, slot := 12, constantValue := 0 }, { name := "T_FLOAT", type := .int, accessFlags := 25, slot := 13, constantValue := 0 }, { name := "T_DOUBLE", type := .int, accessFlags := 25, slot := 14, constantValue := 0 }, { name := "T_BYTE", type := .int, accessFlags := 25, slot := 15, constantValue := 0 }, { name := "T_SHORT", type := .int, accessFlags := 25, slot := 16, constantValue := 0 }, { name := "T_INT", type := .int, accessFlags := 25, slot := 17, constantValue := 0 }, { name := "T_LONG", type := .int, accessFlags := 25, slot := 18, constantValue := 0 }, { name := "JLA", type := (.object "jdk/internal/access/JavaLangAccess"), accessFlags := 26, slot := 19, constantValue := 0 }, { name := "SOFT_MAX_ARRAY_LENGTH", type := .int, accessFlags := 25, slot := 20, constantValue := 0 }]
  methods := #[k16m0]
  instanceTypes := #[]
  staticTypes := #[(.object "jdk/internal/misc/Unsafe"), .boolean, .int, .int, .int, .int, .int, .int, .int, .int, .int, .int, .int, .int, .int, .int, .int, .int, .int, (.object "jdk/internal/access/JavaLangAccess"), .int]
  resolved := Array.replicate 378 none
  statics := none }

def pool17 : Array CpInfo := pool [(1, u "java/lang/Cloneable"), (0, .class_ 1), (0, u "java/lang/Object"), (0, .class_ 3)] 3

/-- java/lang/Cloneable -/
def k17 : Class := { plain "java/lang/Cloneable" (some 0) with
  accessFlags := 1537
  interfaces := #[]
  cf := some (fileOf pool17 2 #[] #[] 1537 4 #[] #[])
  fields := #[]
  methods := #[]
  instanceTypes := #[]
  staticTypes := #[]
  resolved := Array.replicate 8 none
  statics := none }

/-- the primitive byte -/
def k18 : Class := { plain "byte" none with kind := .primitive 'B', accessFlags := 0x411 }
/-- [B -/
def k19 : Class := { plain "[B" (some 0) with kind := .array 18 .byte, interfaces := #[17, 7], accessFlags := 1041 }

/-- the primitive char -/
def k20 : Class := { plain "char" none with kind := .primitive 'C', accessFlags := 0x411 }
/-- [C -/
def k21 : Class := { plain "[C" (some 0) with kind := .array 20 .char, interfaces := #[17, 7], accessFlags := 1041 }

/-- the primitive int -/
def k22 : Class := { plain "int" none with kind := .primitive 'I', accessFlags := 0x411 }
/-- [I -/
def k23 : Class := { plain "[I" (some 0) with kind := .array 22 .int, interfaces := #[17, 7], accessFlags := 1041 }

def heap : Heap := #[{ cls := 12, slots := #[.long 0, .int 1, .null, .int 0, .null, .int 0, .int 0], vm := .statics 12 },
  { cls := 15, slots := #[.null, .null, .null], vm := .statics 15 }]
def classes : Array Class := #[k0, k1, k2, k3, k4, k5, k6, k7, k8, k9, k10, k11, k12, k13, k14, k15, k16, k17, k18, k19, k20, k21, k22, k23]
def interned : List (Array UInt16 × Addr) := []
def slotsUsed : Nat := 10
def theMethod : MethodId := ⟨1, 1⟩
def args0 : Array Value := #[.int 1, .int 1, .int 1, .int 1]
def aboutOver (below : List Frame) : State where
  vm := { classes := classes, interned := interned.toArray }
  heap := heap
  slotsUsed := slotsUsed
  threads := #[{ frames := .invoking theMethod args0 :: below }]
def below0 : List Frame := [.native { method := ⟨0, 0⟩, args := #[] }]
def about1 : State := aboutOver below0
def p0 : Program := .bare "" "" ""
def e0 : Env := launch0.env 0 0 0
theorem w_frames : about1.frames = Frame.invoking theMethod args0 :: below0 := rfl
set_option maxRecDepth 65536 in
theorem w_args : argsFit about1.vm theMethod args0 = true := by decide +kernel
set_option maxRecDepth 65536 in
theorem w_heap : heapFits about1 = true := by decide +kernel
set_option maxRecDepth 65536 in
theorem w_runnable : about1.curStatus? = some .runnable := by decide +kernel
set_option maxRecDepth 65536 in
theorem w_alone : about1.alone = true := by decide +kernel
set_option maxRecDepth 65536 in
theorem w_named : about1.methodNamed? x = some theMethod := by decide +kernel
set_option maxRecDepth 65536 in
theorem w_hears : about1.hears theMethod below0 = true := by decide +kernel
set_option maxRecDepth 65536 in
theorem w_ripe : about1.ripe theMethod args0 below0 = true := by decide +kernel
theorem w_running : about1.status = .running := rfl
set_option maxRecDepth 65536 in
theorem w_room : about1.hasRoom e0.platform room_1 = true :=
  launch0.hasRoom_least _ room_1 (by decide +kernel) (by decide +kernel) (by decide +kernel) (by decide +kernel) (by decide +kernel) (by decide +kernel)
theorem allAtoms_all (ts : List Jvm.Cond) (a : Array Jvm.Value) (st : Jvm.State) : (allAtoms ts).before a st = ts.all (fun c => c.before a st) := by
  induction ts with
  | nil => rfl
  | cons c t ih =>
    show (Jvm.Cond.and c (allAtoms t)).before a st = _
    rw [Jvm.Cond.before_and, ih, List.all_cons]
def words1 : List Jvm.Cond := Jvm.Cond.code x code maxLocals ret :: tables_1
/-- a 'code' word, met by the world's own term for the bytes: nothing is compared byte by byte -/
theorem code_word {y : MethodName} {bytes : ByteArray} {mx : Nat} {rt : Option FieldType} {a : Array Value} {s : State} {m : MethodId} {meth : Method} {c : Code} (h1 : s.methodNamed? y = some m) (h2 : s.vm.method? m = some meth) (h3 : meth.code = some c) (h4 : c.code = bytes)
    (h5 : (c.maxLocals == mx && c.exceptionTable.isEmpty && decide (c.maxStack ≤ mostOperands) && decide (meth.sig.returnType = rt) && !meth.locks && decide (parseMethodDescriptor y.desc = some meth.sig)) = true) : (Jvm.Cond.code y bytes mx rt).before a s = true := by
  simp only [Bool.and_eq_true, beq_iff_eq, Bool.not_eq_true', decide_eq_true_eq] at h5
  obtain ⟨⟨⟨⟨⟨g1, g2⟩, g3⟩, g4⟩, g5⟩, g6⟩ := h5
  simp [Cond.before, Cond.holds, Cond.value, h1, h2, h3, h4, g1, g2, g3, g4, g5, g6]
def isCode : Jvm.Cond → Bool
  | .code _ _ _ _ => true
  | _ => false
theorem all_split {L : List Jvm.Cond} {P : Jvm.Cond → Bool} (h1 : L.all (fun c => isCode c || P c) = true) (h2 : ∀ c ∈ L.filter isCode, P c = true) : L.all P = true := by
  refine List.all_eq_true.mpr fun c hc => ?_
  have h := List.all_eq_true.mp h1 c hc
  rcases Bool.eq_false_or_eq_true (isCode c) with hi | hi
  · exact h2 c (List.mem_filter.mpr ⟨hc, hi⟩)
  · simpa [hi] using h
set_option maxRecDepth 65536 in
theorem w_c0 : (Jvm.Cond.code x code maxLocals ret).before args0 about1 = true := code_word (m := ⟨1, 1⟩) (meth := k1m1) (c := k1c1) (by decide +kernel) rfl rfl rfl (by decide +kernel)
set_option maxRecDepth 65536 in
theorem w_c1 : (Jvm.Cond.code ({ cls := "java/lang/String", name := "<init>", desc := "([C)V" } : Jvm.MethodName) jdk_42_method_3_code (2 : Nat) (Option.none : Option Jvm.ClassFile.FieldType)).before args0 about1 = true := code_word (m := ⟨12, 1⟩) (meth := k12m1) (c := k12c1) (by decide +kernel) rfl rfl rfl (by decide +kernel)
set_option maxRecDepth 65536 in
theorem w_c2 : (Jvm.Cond.code ({ cls := "java/lang/String", name := "<init>", desc := "([CIILjava/lang/Void;)V" } : Jvm.MethodName) jdk_42_method_149_code (6 : Nat) (Option.none : Option Jvm.ClassFile.FieldType)).before args0 about1 = true := code_word (m := ⟨12, 2⟩) (meth := k12m2) (c := k12c2) (by decide +kernel) rfl rfl rfl (by decide +kernel)
set_option maxRecDepth 65536 in
theorem w_c3 : (Jvm.Cond.code ({ cls := "java/lang/Object", name := "<init>", desc := "()V" } : Jvm.MethodName) object_method_1_code (1 : Nat) (Option.none : Option Jvm.ClassFile.FieldType)).before args0 about1 = true := code_word (m := ⟨0, 0⟩) (meth := k0m0) (c := k0c0) (by decide +kernel) rfl rfl rfl (by decide +kernel)
set_option maxRecDepth 65536 in
theorem w_c4 : (Jvm.Cond.code ({ cls := "java/lang/StringUTF16", name := "compress", desc := "([CII)[B" } : Jvm.MethodName) jdk_52_method_16_code (6 : Nat) (Option.some (Jvm.ClassFile.FieldType.array Jvm.ClassFile.FieldType.byte))).before args0 about1 = true := code_word (m := ⟨13, 2⟩) (meth := k13m2) (c := k13c2) (by decide +kernel) rfl rfl rfl (by decide +kernel)
set_option maxRecDepth 65536 in
theorem w_c5 : (Jvm.Cond.code ({ cls := "java/lang/StringUTF16", name := "compress", desc := "([CI[BII)I" } : Jvm.MethodName) jdk_52_method_21_code (7 : Nat) (Option.some Jvm.ClassFile.FieldType.int)).before args0 about1 = true := code_word (m := ⟨13, 3⟩) (meth := k13m3) (c := k13c3) (by decide +kernel) rfl rfl rfl (by decide +kernel)
set_option maxRecDepth 65536 in
theorem w_c6 : (Jvm.Cond.code ({ cls := "java/lang/StringUTF16", name := "coderFromArrayLen", desc := "([BI)B" } : Jvm.MethodName) jdk_52_method_15_code (2 : Nat) (Option.some Jvm.ClassFile.FieldType.byte)).before args0 about1 = true := code_word (m := ⟨13, 1⟩) (meth := k13m1) (c := k13c1) (by decide +kernel) rfl rfl rfl (by decide +kernel)
set_option maxRecDepth 65536 in
theorem w_c7 : (Jvm.Cond.code ({ cls := "com/example/qingniao/qingniao/packets/Publish", name := "<init>", desc := "(Ljava/lang/String;IZZI[B)V" } : Jvm.MethodName) prog_62_method_1_code (7 : Nat) (Option.none : Option Jvm.ClassFile.FieldType)).before args0 about1 = true := code_word (m := ⟨6, 0⟩) (meth := k6m0) (c := k6c0) (by decide +kernel) rfl rfl rfl (by decide +kernel)
set_option maxRecDepth 65536 in
theorem w_c8 : (Jvm.Cond.code ({ cls := "java/lang/Record", name := "<init>", desc := "()V" } : Jvm.MethodName) jdk_30_method_1_code (1 : Nat) (Option.none : Option Jvm.ClassFile.FieldType)).before args0 about1 = true := code_word (m := ⟨2, 0⟩) (meth := k2m0) (c := k2c0) (by decide +kernel) rfl rfl rfl (by decide +kernel)
set_option maxRecDepth 65536 in
theorem w_c9 : (Jvm.Cond.code ({ cls := "com/example/qingniao/qingniao/packets/Publish", name := "flags", desc := "()I" } : Jvm.MethodName) prog_62_method_3_code (1 : Nat) (Option.some Jvm.ClassFile.FieldType.int)).before args0 about1 = true := code_word (m := ⟨6, 1⟩) (meth := k6m1) (c := k6c1) (by decide +kernel) rfl rfl rfl (by decide +kernel)
def codes1 : List Jvm.Cond := [Jvm.Cond.code x code maxLocals ret, Jvm.Cond.code ({ cls := "java/lang/String", name := "<init>", desc := "([C)V" } : Jvm.MethodName) jdk_42_method_3_code (2 : Nat) (Option.none : Option Jvm.ClassFile.FieldType), Jvm.Cond.code ({ cls := "java/lang/String", name := "<init>", desc := "([CIILjava/lang/Void;)V" } : Jvm.MethodName) jdk_42_method_149_code (6 : Nat) (Option.none : Option Jvm.ClassFile.FieldType), Jvm.Cond.code ({ cls := "java/lang/Object", name := "<init>", desc := "()V" } : Jvm.MethodName) object_method_1_code (1 : Nat) (Option.none : Option Jvm.ClassFile.FieldType), Jvm.Cond.code ({ cls := "java/lang/StringUTF16", name := "compress", desc := "([CII)[B" } : Jvm.MethodName) jdk_52_method_16_code (6 : Nat) (Option.some (Jvm.ClassFile.FieldType.array Jvm.ClassFile.FieldType.byte)), Jvm.Cond.code ({ cls := "java/lang/StringUTF16", name := "compress", desc := "([CI[BII)I" } : Jvm.MethodName) jdk_52_method_21_code (7 : Nat) (Option.some Jvm.ClassFile.FieldType.int), Jvm.Cond.code ({ cls := "java/lang/StringUTF16", name := "coderFromArrayLen", desc := "([BI)B" } : Jvm.MethodName) jdk_52_method_15_code (2 : Nat) (Option.some Jvm.ClassFile.FieldType.byte), Jvm.Cond.code ({ cls := "com/example/qingniao/qingniao/packets/Publish", name := "<init>", desc := "(Ljava/lang/String;IZZI[B)V" } : Jvm.MethodName) prog_62_method_1_code (7 : Nat) (Option.none : Option Jvm.ClassFile.FieldType), Jvm.Cond.code ({ cls := "java/lang/Record", name := "<init>", desc := "()V" } : Jvm.MethodName) jdk_30_method_1_code (1 : Nat) (Option.none : Option Jvm.ClassFile.FieldType), Jvm.Cond.code ({ cls := "com/example/qingniao/qingniao/packets/Publish", name := "flags", desc := "()I" } : Jvm.MethodName) prog_62_method_3_code (1 : Nat) (Option.some Jvm.ClassFile.FieldType.int)]
set_option maxRecDepth 65536 in
theorem codes_eq : words1.filter isCode = codes1 := rfl
theorem w_codes : ∀ c ∈ words1.filter isCode, c.before args0 about1 = true := by
  rw [codes_eq]
  intro c hc
  simp only [codes1, List.mem_cons, List.not_mem_nil, or_false] at hc
  rcases hc with rfl | rfl | rfl | rfl | rfl | rfl | rfl | rfl | rfl | rfl
  · exact w_c0
  · exact w_c1
  · exact w_c2
  · exact w_c3
  · exact w_c4
  · exact w_c5
  · exact w_c6
  · exact w_c7
  · exact w_c8
  · exact w_c9
set_option maxRecDepth 65536 in
theorem w_t1 : (words1.take 24).all (fun c => isCode c || c.before args0 about1) = true := by decide +kernel
set_option maxRecDepth 65536 in
theorem w_t2 : ((words1.drop 24).take 24).all (fun c => isCode c || c.before args0 about1) = true := by decide +kernel
set_option maxRecDepth 65536 in
theorem w_t3 : ((words1.drop 24).drop 24).all (fun c => isCode c || c.before args0 about1) = true := by decide +kernel
theorem w_tables : (allAtoms (Jvm.Cond.code x code maxLocals ret :: tables_1)).before args0 about1 = true := by
  rw [allAtoms_all]
  show words1.all (fun c => c.before args0 about1) = true
  refine all_split ?_ w_codes
  rw [← List.take_append_drop 24 words1, List.all_append, w_t1, ← List.take_append_drop 24 (words1.drop 24), List.all_append, w_t2, w_t3]
  rfl
set_option maxRecDepth 65536 in
theorem w_rest : rest_1_c.before args0 about1 = true := by decide +kernel
set_option maxRecDepth 65536 in
theorem w_case : (Jvm.Cond.and given_1 narrow_1).before args0 about1 = true := by decide +kernel
theorem w_applies : (headSpec (Jvm.Cond.code x code maxLocals ret :: tables_1) room_1).applies x e0.platform about1 = true :=
  (Spec.applies_iff w_frames).mpr ⟨w_running, w_runnable, w_alone, w_named, w_hears, w_ripe, w_room, w_tables⟩
theorem atStart : AtStart classFile x code maxLocals ret World_1 tables_1 room_1 Calls_1 rest_1 Pre_1 launch0 p0 e0 about1 theMethod args0 below0 :=
  ⟨lists_1, trivial, launch0.admits_env _ _ _, launch0.least_env, fairChoices_fair.cas, fairChoices_fair.clock, w_frames, w_args, w_heap, w_applies, trivial, w_rest, w_case⟩
end start1
theorem witness_1 : WitnessClaimed_1 := ⟨start1.p0, start1.e0, start1.about1, start1.theMethod, start1.args0, start1.below0, start1.atStart⟩
end Jvm.Pilot.@@N@@
