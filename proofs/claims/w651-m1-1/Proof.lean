import JvmDerived
import JvmDerived.Pilot.@@N@@Statement
import JvmDerived.Pilot.@@N@@Code
set_option linter.unusedVariables false
set_option linter.unusedSimpArgs false
/- laws to paste: Road.backV (cut by pick.py; bodies as the Statement names them) -/
namespace Jvm.Pilot.@@N@@
namespace StrChars
open Jvm Sem ClassFile Op Lib Jvm.Stand Jvm.Free.XT Jvm.Free.ALB Jvm.Free.JM Jvm.Free
open Jvm.Lib.Cold (StaticIs)
/-- a char array whose places are chars -/
def Ch (a : Addr) (A : Cell) (U : State) : Prop := Arr .char a A U ∧ Typed .char A
theorem Ch.mv {a : Addr} {A : Cell} {U U' : State} (h : Ch a A U) (hal : U.vm.Alike U'.vm) (hh : U'.heap = U.heap) : Ch a A U' := ⟨h.1.mv hal hh, h.2⟩
theorem Ch.keep {a : Addr} {A : Cell} {U U' : State} (h : Ch a A U) (hal : U.vm.Alike U'.vm) (hk : U'.heap[a]? = some A) : Ch a A U' := ⟨h.1.keep hal hk, h.2⟩
/-- what place i of a char[]'s cell holds -/
def cv (A : Cell) (i : Nat) : Int32 := match A.slots[i]? with | some (.int x) => x | _ => 0
theorem Ch.get {a : Addr} {A : Cell} {U : State} (h : Ch a A U) {i : Nat} (hi : i < A.slots.size) : A.slots[i]? = some (.int (cv A i)) := by
  have e := Array.getElem?_eq_getElem hi
  have f := h.2 i _ e
  unfold cv; rw [e]
  generalize A.slots[i] = v at f
  cases v <;> simp [fits] at f ⊢
/-- the byte that i2b leaves of a char -/
def lo8 (x : Int32) : Int32 := x.toInt8.toInt32
theorem fits_lo8 (y : Int32) : fits .byte (.int (lo8 y)) = true := by
  have h1 := y.toInt8.le_toInt
  have h2 := y.toInt8.toInt_lt
  simp only [lo8, fits, Bool.and_eq_true, decide_eq_true_eq, Int32.le_iff_toInt_le, Int8.toInt_toInt32, show (-128 : Int32).toInt = -128 from by decide, show (127 : Int32).toInt = 127 from by decide]
  omega
/-- A' is A but that each place j of lo .. hi - 1 holds f j -/
def Laid (A A' : Cell) (lo hi : Nat) (f : Nat → Value) : Prop := A'.cls = A.cls ∧ A'.vm = A.vm ∧ A'.slots.size = A.slots.size ∧ ∀ i, A'.slots[i]? = if lo ≤ i ∧ i < hi then some (f i) else A.slots[i]?
theorem Laid.zero (A : Cell) (lo : Nat) (f : Nat → Value) : Laid A A lo (lo + 0) f := ⟨rfl, rfl, rfl, fun i => by rw [if_neg (by omega)]⟩
theorem Laid.step {A Ak : Cell} {lo k : Nat} {f : Nat → Value} {v : Value} (h : Laid A Ak lo k f) (hlo : lo ≤ k) (hk : k < Ak.slots.size) (hv : v = f k) : Laid A (Ak.setSlot k v) lo (k + 1) f := by
  refine ⟨h.1, h.2.1, by simpa [Cell.setSlot] using h.2.2.1, fun i => ?_⟩
  by_cases e : k = i
  · subst e; rw [Cell.slots_setSlot_self v hk, if_pos (by omega), hv]
  · rw [Cell.slots_setSlot_ne v e, h.2.2.2 i]
    by_cases q : lo ≤ i ∧ i < k
    · rw [if_pos q, if_pos (by omega)]
    · rw [if_neg q, if_neg (by omega)]
def U16 : String := "java/lang/StringUTF16"
namespace Cmp5
def yN : MethodName := ⟨"java/lang/StringUTF16", "compress", "([CI[BII)I"⟩
abbrev yB : ByteArray := jdk_52_method_21_code
theorem d0 : decode yB 0 = .ok (.iconst 0, 1) := by decide +kernel
theorem d1 : decode yB 1 = .ok (.istore 5, 2) := by decide +kernel
theorem d3 : decode yB 3 = .ok (.iload 5, 2) := by decide +kernel
theorem d5 : decode yB 5 = .ok (.iload 4, 2) := by decide +kernel
theorem d7 : decode yB 7 = .ok (.if_icmp (.ge) 37, 3) := by decide +kernel
theorem d10 : decode yB 10 = .ok (.aload_n 0, 1) := by decide +kernel
theorem d11 : decode yB 11 = .ok (.iload_n 1, 1) := by decide +kernel
theorem d12 : decode yB 12 = .ok (.caload, 1) := by decide +kernel
theorem d13 : decode yB 13 = .ok (.istore 6, 2) := by decide +kernel
theorem d15 : decode yB 15 = .ok (.iload 6, 2) := by decide +kernel
theorem d17 : decode yB 17 = .ok (.sipush 255, 3) := by decide +kernel
theorem d20 : decode yB 20 = .ok (.if_icmp (.le) 6, 3) := by decide +kernel
theorem d26 : decode yB 26 = .ok (.aload_n 2, 1) := by decide +kernel
theorem d27 : decode yB 27 = .ok (.iload_n 3, 1) := by decide +kernel
theorem d28 : decode yB 28 = .ok (.iload 6, 2) := by decide +kernel
theorem d30 : decode yB 30 = .ok (.i2b, 1) := by decide +kernel
theorem d31 : decode yB 31 = .ok (.bastore, 1) := by decide +kernel
theorem d32 : decode yB 32 = .ok (.iinc 1 1, 3) := by decide +kernel
theorem d35 : decode yB 35 = .ok (.iinc 3 1, 3) := by decide +kernel
theorem d38 : decode yB 38 = .ok (.iinc 5 1, 3) := by decide +kernel
theorem d41 : decode yB 41 = .ok (.goto (-38), 3) := by decide +kernel
theorem d44 : decode yB 44 = .ok (.iload 4, 2) := by decide +kernel
theorem d46 : decode yB 46 = .ok (.ireturn, 1) := by decide +kernel
def site : List Cond := []
def tab : Cond := tabOf yN yB 7 (some .int) site
def P (b : Addr) (A : Cell) (d : Addr) (B : Cell) (o q len : Nat) (args : Array Value) (s : State) : Prop := args = #[.ref b, .int (Int32.ofNat o), .ref d, .int (Int32.ofNat q), .int (Int32.ofNat len)] ∧ Ch b A s ∧ Arr .byte d B s ∧ b ≠ d ∧ o + len ≤ A.slots.size ∧ q + len ≤ B.slots.size ∧ ∀ i, i < len → ¬ 255 < cv A (o + i)
def E (b : Addr) (A : Cell) (d : Addr) (B : Cell) (o q len : Nat) (r : Option Value) (s u : State) : Prop := r = some (.int (Int32.ofNat len)) ∧ ∃ B', Put d B' s u ∧ Laid B B' q (q + len) (fun j => Value.int (lo8 (cv A (o + (j - q)))))
/-- no char of the range above 255: len; the places written hold each char's low byte -/
theorem law (l : Launch) (b : Addr) (A : Cell) (d : Addr) (B : Cell) (o q len : Nat) : Law l yN 5 5 0 0 yB 7 (some .int) site (P b A d B o q len) (E b A d B o q len) (copyLocs d q len) 0 0 := by
  refine Law.of_walk (plainFor_of_name (by decide +kernel)) (by decide +kernel) (by decide +kernel) (by decide) (fun _ _ h => by rw [h.1]; rfl) (fun _ U U' hal hh h => ⟨h.1, h.2.1.mv hal hh, h.2.2.1.mv hal hh, h.2.2.2⟩) (fun r U U' V V' h1 hal h2 h => ⟨h.1, h.2.elim fun B' q => ⟨B', q.1.mv h1 h2, q.2⟩⟩) ?_
  intro p e s m args below meth c s₁ X0 hexec hbytes hml hret hlk hnm hown hh0 W hP
  obtain ⟨rfl, hA, hB, hne, l1, l2, hp⟩ := hP
  have c1 : Steps p.tables e below (s₁.setTop (entryFrame m #[.ref b, .int (Int32.ofNat o), .ref d, .int (Int32.ofNat q), .int (Int32.ofNat len)] 7)) (s₁.setTop (mkF m 0 #[.val (.ref b), .val (.int (Int32.ofNat o)), .val (.ref d), .val (.int (Int32.ofNat q)), .val (.int (Int32.ofNat len)), .unset, .unset] [])) := entry rfl
  have hA0 := hA.1.mv X0.warmed.alike hh0
  have hB0 := hB.mv X0.warmed.alike hh0
  have a31 := hA.1.2.2.2
  have c2 : Steps p.tables e below (s₁.setTop (entryFrame m #[.ref b, .int (Int32.ofNat o), .ref d, .int (Int32.ofNat q), .int (Int32.ofNat len)] 7)) (s₁.setTop (mkF m 3 #[.val (.ref b), .val (.int (Int32.ofNat o)), .val (.ref d), .val (.int (Int32.ofNat q)), .val (.int (Int32.ofNat len)), .val (.int 0), .unset] [])) := c1.trans (by
    refine iconstV X0.here hexec rfl 0 (hb hbytes d0) (by decide) ?_
    refine XS.istore X0.here hexec rfl (hb hbytes d1) rfl rfl ?_
    exact Steps.refl _)
  have loop : ∀ (r i : Nat), i + r = len → ∀ (z : Slot), (z = .unset ∨ ∃ w, z = .val w ∧ w.category = 1) → ∀ (Tl : State) (Bk : Cell), Stand p l e { frames := 0, locals := 0, cells := 0, slots := 0 } s m #[.ref b, .int (Int32.ofNat o), .ref d, .int (Int32.ofNat q), .int (Int32.ofNat len)] below meth c Tl ([] ++ copyLocs d q i) 0 0 → Put d Bk s₁ Tl → Laid B Bk q (q + i) (fun j => Value.int (lo8 (cv A (o + (j - q))))) →
      Steps p.tables e below (s₁.setTop (entryFrame m #[.ref b, .int (Int32.ofNat o), .ref d, .int (Int32.ofNat q), .int (Int32.ofNat len)] 7)) (Tl.setTop (mkF m 3 #[.val (.ref b), .val (.int (Int32.ofNat (o + i))), .val (.ref d), .val (.int (Int32.ofNat (q + i))), .val (.int (Int32.ofNat len)), .val (.int (Int32.ofNat i)), z] [])) → ∃ (T' : State) (B' : Cell) (z' : Slot), Stand p l e { frames := 0, locals := 0, cells := 0, slots := 0 } s m #[.ref b, .int (Int32.ofNat o), .ref d, .int (Int32.ofNat q), .int (Int32.ofNat len)] below meth c T' ([] ++ copyLocs d q len) 0 0 ∧ Put d B' s₁ T' ∧ Laid B B' q (q + len) (fun j => Value.int (lo8 (cv A (o + (j - q))))) ∧
      Steps p.tables e below (s₁.setTop (entryFrame m #[.ref b, .int (Int32.ofNat o), .ref d, .int (Int32.ofNat q), .int (Int32.ofNat len)] 7)) (T'.setTop (mkF m 3 #[.val (.ref b), .val (.int (Int32.ofNat (o + len))), .val (.ref d), .val (.int (Int32.ofNat (q + len))), .val (.int (Int32.ofNat len)), .val (.int (Int32.ofNat len)), z'] [])) := by
    intro r
    induction r with
    | zero =>
      intro i hi z hz Tl Bk Xl pl fl cl
      have hil : i = len := by omega
      rw [hil] at Xl fl cl
      exact ⟨Tl, Bk, z, Xl, pl, fl, cl⟩
    | succ r ih =>
      intro i hi z hz Tl Bk Xl pl fl cl
      have all := X0.warmed.alike.symm.trans Xl.warmed.alike
      have hAl := hA0.keep all (pl.other hne hA0.1)
      have hBk := hB0.like all pl.1 fl.1 fl.2.1 fl.2.2.1
      have hlt : q + i < Bk.slots.size := by rw [fl.2.2.1]; omega
      have c3 : Steps p.tables e below (s₁.setTop (entryFrame m #[.ref b, .int (Int32.ofNat o), .ref d, .int (Int32.ofNat q), .int (Int32.ofNat len)] 7)) (Tl.setTop (mkF m 12 #[.val (.ref b), .val (.int (Int32.ofNat (o + i))), .val (.ref d), .val (.int (Int32.ofNat (q + i))), .val (.int (Int32.ofNat len)), .val (.int (Int32.ofNat i)), z] [.int (Int32.ofNat (o + i)), .ref b])) := cl.trans (by
        refine XS.iload Xl.here hexec rfl (hb hbytes d3) rfl ?_
        refine XS.iload Xl.here hexec rfl (hb hbytes d5) rfl ?_
        refine XS.icmpNo Xl.here hexec rfl (hb hbytes d7) rfl (ii_ge_f (lt32 (by omega) (by omega))) ?_
        refine XS.aloadN Xl.here hexec rfl (hb hbytes d10) rfl rfl ?_
        refine XS.iloadN Xl.here hexec rfl (hb hbytes d11) rfl ?_
        exact Steps.refl _)
      have c4 : Steps p.tables e below (s₁.setTop (entryFrame m #[.ref b, .int (Int32.ofNat o), .ref d, .int (Int32.ofNat q), .int (Int32.ofNat len)] 7)) (Tl.setTop (mkF m 13 #[.val (.ref b), .val (.int (Int32.ofNat (o + i))), .val (.ref d), .val (.int (Int32.ofNat (q + i))), .val (.int (Int32.ofNat len)), .val (.int (Int32.ofNat i)), z] [.int (cv A (o + i))])) := c3.trans (by
        refine Xl.aget hexec hAl rfl (hA.get (i := o + i) (by omega)) rfl rfl (hb hbytes d12) ?_
        exact Steps.refl _)
      have c5 : Steps p.tables e below (s₁.setTop (entryFrame m #[.ref b, .int (Int32.ofNat o), .ref d, .int (Int32.ofNat q), .int (Int32.ofNat len)] 7)) (Tl.setTop (mkF m 15 #[.val (.ref b), .val (.int (Int32.ofNat (o + i))), .val (.ref d), .val (.int (Int32.ofNat (q + i))), .val (.int (Int32.ofNat len)), .val (.int (Int32.ofNat i)), .val (.int (cv A (o + i)))] [])) := c4.trans (by
        refine XS.istoreS Xl.here hexec rfl (hb hbytes d13) rfl rfl hz ?_
        exact Steps.refl _)
      have c6 : Steps p.tables e below (s₁.setTop (entryFrame m #[.ref b, .int (Int32.ofNat o), .ref d, .int (Int32.ofNat q), .int (Int32.ofNat len)] 7)) (Tl.setTop (mkF m 31 #[.val (.ref b), .val (.int (Int32.ofNat (o + i))), .val (.ref d), .val (.int (Int32.ofNat (q + i))), .val (.int (Int32.ofNat len)), .val (.int (Int32.ofNat i)), .val (.int (cv A (o + i)))] [.int (lo8 (cv A (o + i))), .int (Int32.ofNat (q + i)), .ref d])) := c5.trans (by
        refine XS.iload Xl.here hexec rfl (hb hbytes d15) rfl ?_
        refine sipushV Xl.here hexec rfl 255 (hb hbytes d17) (by decide) ?_
        refine XS.icmpYes Xl.here hexec rfl (pc0 := 20) rfl (hb hbytes d20) rfl (ii_le_t (hp i (by omega))) (by decide) rfl ?_
        refine XS.aloadN Xl.here hexec rfl (hb hbytes d26) rfl rfl ?_
        refine XS.iloadN Xl.here hexec rfl (hb hbytes d27) rfl ?_
        refine XS.iload Xl.here hexec rfl (hb hbytes d28) rfl ?_
        refine i2b Xl.here hexec rfl (hb hbytes d30) rfl ?_
        exact Steps.refl _)
      obtain ⟨T7, X7, p7, st7⟩ := Xl.aput hexec hBk rfl hlt rfl (fits_lo8 (cv A (o + i))) (g := (mkF m 31 #[.val (.ref b), .val (.int (Int32.ofNat (o + i))), .val (.ref d), .val (.int (Int32.ofNat (q + i))), .val (.int (Int32.ofNat len)), .val (.int (Int32.ofNat i)), .val (.int (cv A (o + i)))] [.int (lo8 (cv A (o + i))), .int (Int32.ofNat (q + i)), .ref d])) rfl (rest := []) rfl (hb hbytes d31)
      have c8 : Steps p.tables e below (s₁.setTop (entryFrame m #[.ref b, .int (Int32.ofNat o), .ref d, .int (Int32.ofNat q), .int (Int32.ofNat len)] 7)) (T7.setTop (mkF m 32 #[.val (.ref b), .val (.int (Int32.ofNat (o + i))), .val (.ref d), .val (.int (Int32.ofNat (q + i))), .val (.int (Int32.ofNat len)), .val (.int (Int32.ofNat i)), .val (.int (cv A (o + i)))] [])) := c6.trans (st7 _ (Steps.refl _))
      have c9 : Steps p.tables e below (s₁.setTop (entryFrame m #[.ref b, .int (Int32.ofNat o), .ref d, .int (Int32.ofNat q), .int (Int32.ofNat len)] 7)) (T7.setTop (mkF m 3 #[.val (.ref b), .val (.int (Int32.ofNat (o + i) + 1)), .val (.ref d), .val (.int (Int32.ofNat (q + i) + 1)), .val (.int (Int32.ofNat len)), .val (.int (Int32.ofNat i + 1)), .val (.int (cv A (o + i)))] [])) := c8.trans (by
        refine iincV X7.here hexec rfl 1 (hb hbytes d32) (by decide) rfl rfl ?_
        refine iincV X7.here hexec rfl 1 (hb hbytes d35) (by decide) rfl rfl ?_
        refine iincV X7.here hexec rfl 1 (hb hbytes d38) (by decide) rfl rfl ?_
        refine XS.goto X7.here hexec rfl (pc0 := 41) rfl (hb hbytes d41) (by decide) rfl ?_
        exact Steps.refl _)
      have c10 : Steps p.tables e below (s₁.setTop (entryFrame m #[.ref b, .int (Int32.ofNat o), .ref d, .int (Int32.ofNat q), .int (Int32.ofNat len)] 7)) (T7.setTop (mkF m 3 #[.val (.ref b), .val (.int (Int32.ofNat (o + (i + 1)))), .val (.ref d), .val (.int (Int32.ofNat (q + (i + 1)))), .val (.int (Int32.ofNat len)), .val (.int (Int32.ofNat (i + 1))), .val (.int (cv A (o + i)))] [])) := by
        have := c9
        rw [succ32, succ32, succ32] at this
        exact this
      exact ih (i + 1) (by omega) _ (Or.inr ⟨_, rfl, rfl⟩) T7 _ (by rw [copyLocs_step, ← List.append_assoc]; exact X7) (pl.trans p7) (fl.step (by omega) hlt (by simp)) c10
  obtain ⟨T9, B9, z9, X9, p9, f9, g9⟩ := loop len 0 (by omega) .unset (Or.inl rfl) s₁ B (by simpa [copyLocs] using X0) ⟨hB0.1, fun _ _ => rfl, rfl⟩ (Laid.zero _ _ _) c2
  have c11 : Steps p.tables e below (s₁.setTop (entryFrame m #[.ref b, .int (Int32.ofNat o), .ref d, .int (Int32.ofNat q), .int (Int32.ofNat len)] 7)) (T9.setTop (mkF m 46 #[.val (.ref b), .val (.int (Int32.ofNat (o + len))), .val (.ref d), .val (.int (Int32.ofNat (q + len))), .val (.int (Int32.ofNat len)), .val (.int (Int32.ofNat len)), z9] [.int (Int32.ofNat len)])) := g9.trans (by
    refine XS.iload X9.here hexec rfl (hb hbytes d3) rfl ?_
    refine XS.iload X9.here hexec rfl (hb hbytes d5) rfl ?_
    refine XS.icmpYes X9.here hexec rfl (pc0 := 7) rfl (hb hbytes d7) rfl (ii_ge_t (nlt32 (by omega) (Nat.le_refl _))) (by decide) rfl ?_
    refine XS.iload X9.here hexec rfl (hb hbytes d44) rfl ?_
    exact Steps.refl _)
  exact ⟨T9, some (.int (Int32.ofNat len)), _, _, _, X9, by simp, rfl, rfl, (fun h => by cases h), ⟨rfl, B9, p9.from hh0, f9⟩, fun fs hl => c11.trans (X9.ireturnOut hexec hret rfl (Or.inl rfl) (hb hbytes d46) hl)⟩
end Cmp5
namespace Cmp3
def yN : MethodName := ⟨"java/lang/StringUTF16", "compress", "([CII)[B"⟩
abbrev yB : ByteArray := jdk_52_method_16_code
theorem d0 : decode yB 0 = .ok (.iload_n 2, 1) := by decide +kernel
theorem d1 : decode yB 1 = .ok (.newarray .byte, 2) := by decide +kernel
theorem d3 : decode yB 3 = .ok (.astore_n 3, 1) := by decide +kernel
theorem d4 : decode yB 4 = .ok (.aload_n 0, 1) := by decide +kernel
theorem d5 : decode yB 5 = .ok (.iload_n 1, 1) := by decide +kernel
theorem d6 : decode yB 6 = .ok (.aload_n 3, 1) := by decide +kernel
theorem d7 : decode yB 7 = .ok (.iconst 0, 1) := by decide +kernel
theorem d8 : decode yB 8 = .ok (.iload_n 2, 1) := by decide +kernel
theorem d9 : decode yB 9 = .ok (.invokestatic 115, 3) := by decide +kernel
theorem d12 : decode yB 12 = .ok (.istore 4, 2) := by decide +kernel
theorem d14 : decode yB 14 = .ok (.iload 4, 2) := by decide +kernel
theorem d16 : decode yB 16 = .ok (.iload_n 2, 1) := by decide +kernel
theorem d17 : decode yB 17 = .ok (.if_icmp (.eq) 40, 3) := by decide +kernel
theorem d57 : decode yB 57 = .ok (.aload_n 3, 1) := by decide +kernel
theorem d58 : decode yB 58 = .ok (.areturn, 1) := by decide +kernel
def site : List Cond := [.arrayClass .byte, Cmp5.tab] ++ staticW U16 115 Cmp5.yN
def tab : Cond := tabOf yN yB 6 (some (.array .byte)) site
def P (b : Addr) (A : Cell) (o len : Nat) (args : Array Value) (s : State) : Prop := args = #[.ref b, .int (Int32.ofNat o), .int (Int32.ofNat len)] ∧ Ch b A s ∧ o + len ≤ A.slots.size ∧ len ≤ 536870912 ∧ ∀ i, i < len → ¬ 255 < cv A (o + i)
def E (b : Addr) (A : Cell) (o len : Nat) (r : Option Value) (s u : State) : Prop := NewArr .byte "[B" len (fun j => .int (lo8 (cv A (o + j)))) r s u ∧ u.heap.size = s.heap.size + 1
/-- no char of the range above 255: a new byte[] of their low bytes -/
theorem law (l : Launch) (b : Addr) (A : Cell) (o len : Nat) : Law l yN 3 3 1 18 yB 6 (some (.array .byte)) site (P b A o len) (E b A o len) [] 1 len := by
  refine Law.of_walk (plainFor_of_name (by decide +kernel)) (by decide +kernel) (by decide +kernel) (by decide) (fun _ _ h => by rw [h.1]; rfl) (fun _ U U' hal hh h => ⟨h.1, h.2.1.mv hal hh, h.2.2⟩) (fun r U U' V V' h1 hal h2 h => ⟨NewArr.mv r U U' V V' h1 hal h2 h.1, by rw [h1, h2]; exact h.2⟩) ?_
  intro p e s m args below meth c s₁ X0 hexec hbytes hml hret hlk hnm hown hh0 W hP
  obtain ⟨rfl, hA, l1, l2, hp⟩ := hP
  have a31 := hA.1.2.2.2
  have c1 : Steps p.tables e below (s₁.setTop (entryFrame m #[.ref b, .int (Int32.ofNat o), .int (Int32.ofNat len)] 6)) (s₁.setTop (mkF m 0 #[.val (.ref b), .val (.int (Int32.ofNat o)), .val (.int (Int32.ofNat len)), .unset, .unset, .unset] [])) := entry rfl
  have c2 : Steps p.tables e below (s₁.setTop (entryFrame m #[.ref b, .int (Int32.ofNat o), .int (Int32.ofNat len)] 6)) (s₁.setTop (mkF m 1 #[.val (.ref b), .val (.int (Int32.ofNat o)), .val (.int (Int32.ofNat len)), .unset, .unset, .unset] [.int (Int32.ofNat len)])) := c1.trans (by
    refine XS.iloadN X0.here hexec rfl (hb hbytes d0) rfl ?_
    exact Steps.refl _)
  obtain ⟨T3, B3, X3, ba3, bs3, bv3, bh3, bf3, st3⟩ := X0.anew hexec (atype := .byte) (wk W (.arrayClass .byte)) rfl (by show len * 1 ≤ _; omega) (by omega) (g := (mkF m 1 #[.val (.ref b), .val (.int (Int32.ofNat o)), .val (.int (Int32.ofNat len)), .unset, .unset, .unset] [.int (Int32.ofNat len)])) rfl (hb hbytes d1) (rest := []) rfl (Nat.le_refl _) (by show 0 + len ≤ len; omega)
  rw [hh0] at ba3 st3
  have kp3 : XT.Kept s T3 := (XT.Kept.of_eq hh0).push bh3
  have hA3 := hA.keep X3.warmed.alike (kp3 _ _ hA.1.1)
  have hne : b ≠ s.heap.size := hA.1.ne
  have c4 : Steps p.tables e below (s₁.setTop (entryFrame m #[.ref b, .int (Int32.ofNat o), .int (Int32.ofNat len)] 6)) (T3.setTop (mkF m 3 #[.val (.ref b), .val (.int (Int32.ofNat o)), .val (.int (Int32.ofNat len)), .unset, .unset, .unset] [.ref s.heap.size])) := c2.trans (st3 _ (Steps.refl _))
  have c5 : Steps p.tables e below (s₁.setTop (entryFrame m #[.ref b, .int (Int32.ofNat o), .int (Int32.ofNat len)] 6)) (T3.setTop (mkF m 9 #[.val (.ref b), .val (.int (Int32.ofNat o)), .val (.int (Int32.ofNat len)), .val (.ref s.heap.size), .unset, .unset] [.int (Int32.ofNat len), .int 0, .ref s.heap.size, .int (Int32.ofNat o), .ref b])) := c4.trans (by
    refine XS.astoreN X3.here hexec rfl (hb hbytes d3) rfl rfl rfl ?_
    refine XS.aloadN X3.here hexec rfl (hb hbytes d4) rfl rfl ?_
    refine XS.iloadN X3.here hexec rfl (hb hbytes d5) rfl ?_
    refine XS.aloadN X3.here hexec rfl (hb hbytes d6) rfl rfl ?_
    refine iconstV X3.here hexec rfl 0 (hb hbytes d7) (by decide) ?_
    refine XS.iloadN X3.here hexec rfl (hb hbytes d8) rfl ?_
    exact Steps.refl _)
  obtain ⟨v6, T6, X6, E6, g6⟩ := X3.callS hexec (Cmp5.law l b A s.heap.size B3 o 0 len) hown (wks W (staticW U16 115 Cmp5.yN)) (wk W Cmp5.tab) (W := 0) (Nat.le_of_ble_eq_true rfl) (Nat.le_of_ble_eq_true rfl) (Nat.le_refl _) (by show 0 + len + 0 ≤ len; omega) (g := (mkF m 9 #[.val (.ref b), .val (.int (Int32.ofNat o)), .val (.int (Int32.ofNat len)), .val (.ref s.heap.size), .unset, .unset] [.int (Int32.ofNat len), .int (Int32.ofNat 0), .ref s.heap.size, .int (Int32.ofNat o), .ref b])) rfl (by rw [hml]; rfl) c5 (argsL := [.ref b, .int (Int32.ofNat o), .ref s.heap.size, .int (Int32.ofNat 0), .int (Int32.ofNat len)]) (rest := []) rfl rfl (by show 2 * 0 + 0 ≤ _; decide) (hb hbytes d9) (⟨rfl, hA3, ba3, hne, l1, by rw [bs3]; simp, hp⟩)
  obtain ⟨rfl, B6, p6, f6⟩ := E6
  have c7 : Steps p.tables e below (s₁.setTop (entryFrame m #[.ref b, .int (Int32.ofNat o), .int (Int32.ofNat len)] 6)) (T6.setTop (mkF m 12 #[.val (.ref b), .val (.int (Int32.ofNat o)), .val (.int (Int32.ofNat len)), .val (.ref s.heap.size), .unset, .unset] [.int (Int32.ofNat len)])) := g6
  have c8 : Steps p.tables e below (s₁.setTop (entryFrame m #[.ref b, .int (Int32.ofNat o), .int (Int32.ofNat len)] 6)) (T6.setTop (mkF m 58 #[.val (.ref b), .val (.int (Int32.ofNat o)), .val (.int (Int32.ofNat len)), .val (.ref s.heap.size), .val (.int (Int32.ofNat len)), .unset] [.ref s.heap.size])) := c7.trans (by
    refine XS.istore X6.here hexec rfl (hb hbytes d12) rfl rfl ?_
    refine XS.iload X6.here hexec rfl (hb hbytes d14) rfl ?_
    refine XS.iloadN X6.here hexec rfl (hb hbytes d16) rfl ?_
    refine XS.icmpYes X6.here hexec rfl (pc0 := 17) rfl (hb hbytes d17) rfl (ii_eq_t rfl) (by decide) rfl ?_
    refine XS.aloadN X6.here hexec rfl (hb hbytes d57) rfl rfl ?_
    exact Steps.refl _)
  have X8 := X6.wide (L' := []) (cells' := 1) (slots' := len) (fun x hx hlt => by
    simp only [List.nil_append, copyLocs, List.mem_map, List.mem_range] at hx
    obtain ⟨i, -, rfl⟩ := hx
    exact absurd hlt (Nat.lt_irrefl _)) (Nat.le_refl _) (by omega)
  exact ⟨T6, some (.ref s.heap.size), _, _, _, X8, rfl, rfl, rfl, (fun h => by cases h), ⟨⟨rfl, B6, ba3.like (X3.warmed.alike.symm.trans X6.warmed.alike) p6.1 f6.1 f6.2.1 f6.2.2.1, f6.2.1.trans bv3, by rw [X6.warmed.alike.findClass, f6.1]; exact bf3, by rw [f6.2.2.1, bs3]; simp, fun j hj => by rw [f6.2.2.2 j, if_pos (by omega)]; rfl, kp3.put p6 (Nat.le_refl _)⟩, by rw [p6.2.2, bh3, hh0]; simp⟩, fun fs hl => c8.trans (X8.areturnOut hexec rfl hret rfl (hb hbytes d58) hl)⟩
end Cmp3
namespace CodL
def yN : MethodName := ⟨"java/lang/StringUTF16", "coderFromArrayLen", "([BI)B"⟩
abbrev yB : ByteArray := jdk_52_method_15_code
theorem d0 : decode yB 0 = .ok (.iload_n 1, 1) := by decide +kernel
theorem d1 : decode yB 1 = .ok (.aload_n 0, 1) := by decide +kernel
theorem d2 : decode yB 2 = .ok (.arraylength, 1) := by decide +kernel
theorem d3 : decode yB 3 = .ok (.isub, 1) := by decide +kernel
theorem d4 : decode yB 4 = .ok (.bipush 31, 2) := by decide +kernel
theorem d6 : decode yB 6 = .ok (.iushr, 1) := by decide +kernel
theorem d7 : decode yB 7 = .ok (.i2b, 1) := by decide +kernel
theorem d8 : decode yB 8 = .ok (.ireturn, 1) := by decide +kernel
def site : List Cond := []
def tab : Cond := tabOf yN yB 2 (some .byte) site
def P (d : Addr) (B : Cell) (args : Array Value) (s : State) : Prop := args = #[.ref d, .int (Int32.ofNat B.slots.size)] ∧ Arr .byte d B s
def E (r : Option Value) (s u : State) : Prop := XT.PureE (some (.int 0)) r s u
/-- an array as long as the number of chars: LATIN1 -/
theorem law (l : Launch) (d : Addr) (B : Cell) : Law l yN 2 2 0 0 yB 2 (some .byte) site (P d B) E [] 0 0 := by
  refine Law.of_walk (plainFor_of_name (by decide +kernel)) (by decide +kernel) (by decide +kernel) (by decide) (fun _ _ h => by rw [h.1]; rfl) (fun _ U U' hal hh h => ⟨h.1, h.2.mv hal hh⟩) (fun r U U' V V' h1 hal h2 h => XT.PureE.mv r U U' V V' h1 hal h2 h) ?_
  intro p e s m args below meth c s₁ X0 hexec hbytes hml hret hlk hnm hown hh0 W hP
  obtain ⟨rfl, hB⟩ := hP
  have hB0 := hB.mv X0.warmed.alike hh0
  have c1 : Steps p.tables e below (s₁.setTop (entryFrame m #[.ref d, .int (Int32.ofNat B.slots.size)] 2)) (s₁.setTop (mkF m 0 #[.val (.ref d), .val (.int (Int32.ofNat B.slots.size))] [])) := entry rfl
  have c2 : Steps p.tables e below (s₁.setTop (entryFrame m #[.ref d, .int (Int32.ofNat B.slots.size)] 2)) (s₁.setTop (mkF m 2 #[.val (.ref d), .val (.int (Int32.ofNat B.slots.size))] [.ref d, .int (Int32.ofNat B.slots.size)])) := c1.trans (by
    refine XS.iloadN X0.here hexec rfl (hb hbytes d0) rfl ?_
    refine XS.aloadN X0.here hexec rfl (hb hbytes d1) rfl rfl ?_
    exact Steps.refl _)
  have c3 : Steps p.tables e below (s₁.setTop (entryFrame m #[.ref d, .int (Int32.ofNat B.slots.size)] 2)) (s₁.setTop (mkF m 8 #[.val (.ref d), .val (.int (Int32.ofNat B.slots.size))] [.int (lo8 (ushr (Int32.ofNat B.slots.size - Int32.ofNat B.slots.size) 31))])) := c2.trans (by
    refine X0.alen hexec hB0 rfl rfl (hb hbytes d2) ?_
    refine XS.isub X0.here hexec rfl (hb hbytes d3) rfl ?_
    refine bipushV X0.here hexec rfl 31 (hb hbytes d4) (by decide) ?_
    refine iushr X0.here hexec rfl (hb hbytes d6) rfl ?_
    refine i2b X0.here hexec rfl (hb hbytes d7) rfl ?_
    exact Steps.refl _)
  have e0 : lo8 (ushr (Int32.ofNat B.slots.size - Int32.ofNat B.slots.size) 31) = 0 := by rw [Int32.sub_self]; decide
  rw [e0] at c3
  exact ⟨s₁, some (.int 0), _, _, _, X0, rfl, rfl, rfl, (fun h => by cases h), ⟨rfl, hh0⟩, fun fs hl => c3.trans (X0.ireturnOut hexec hret rfl (Or.inr (Or.inr (Or.inl rfl))) (hb hbytes d8) hl)⟩
end CodL
/-- the String at a is Latin-1 over a new byte[] (the heap's one new cell): the low bytes of the len chars of A from o on; every cell but a is kept -/
def Got (a : Addr) (D : Cell) (fV fC : Field) (A : Cell) (o len : Nat) (r : Option Value) (s u : State) : Prop := r = none ∧ ∃ D' V : Cell, Blank "java/lang/String" a D' u ∧ Same D D' [fV.slot, fC.slot] ∧ D'.slots[fV.slot]? = some (.ref s.heap.size) ∧ D'.slots[fC.slot]? = some (.int 0) ∧ Arr .byte s.heap.size V u ∧ V.vm = .none ∧ u.vm.findClass "[B" = some V.cls ∧ V.slots.size = len ∧ (∀ j, j < len → V.slots[j]? = some (.int (lo8 (cv A (o + j))))) ∧ (∀ (y : Addr) (c : Cell), y ≠ a → s.heap[y]? = some c → u.heap[y]? = some c) ∧ u.heap.size = s.heap.size + 1
theorem Got.mv {a : Addr} {D A : Cell} {fV fC : Field} {o len : Nat} : ∀ r (U U' V V' : State), U'.heap = U.heap → V.vm.Alike V'.vm → V'.heap = V.heap → Got a D fV fC A o len r U V → Got a D fV fC A o len r U' V' :=
  fun r U U' V V' h1 hal h2 ⟨e0, D', X, a1, a2, a3, a4, a5, a6, a7, a8, a9, a10, a11⟩ => ⟨e0, D', X, a1.mv hal h2, a2, by rw [h1]; exact a3, a4, by rw [h1]; exact a5.mv hal h2, a6, by rw [hal.findClass]; exact a7, a8, a9, by rw [h1, h2]; exact a10, by rw [h1, h2]; exact a11⟩
namespace New4
def yN : MethodName := ⟨"java/lang/String", "<init>", "([CIILjava/lang/Void;)V"⟩
abbrev yB : ByteArray := jdk_42_method_149_code
theorem d0 : decode yB 0 = .ok (.aload_n 0, 1) := by decide +kernel
theorem d1 : decode yB 1 = .ok (.invokespecial 1, 3) := by decide +kernel
theorem d4 : decode yB 4 = .ok (.iload_n 3, 1) := by decide +kernel
theorem d5 : decode yB 5 = .ok (.ifCond (.ne) 22, 3) := by decide +kernel
theorem d27 : decode yB 27 = .ok (.getstatic 38, 3) := by decide +kernel
theorem d30 : decode yB 30 = .ok (.ifCond (.eq) 28, 3) := by decide +kernel
theorem d33 : decode yB 33 = .ok (.aload_n 1, 1) := by decide +kernel
theorem d34 : decode yB 34 = .ok (.iload_n 2, 1) := by decide +kernel
theorem d35 : decode yB 35 = .ok (.iload_n 3, 1) := by decide +kernel
theorem d36 : decode yB 36 = .ok (.invokestatic 177, 3) := by decide +kernel
theorem d39 : decode yB 39 = .ok (.astore 5, 2) := by decide +kernel
theorem d41 : decode yB 41 = .ok (.aload_n 0, 1) := by decide +kernel
theorem d42 : decode yB 42 = .ok (.aload 5, 2) := by decide +kernel
theorem d44 : decode yB 44 = .ok (.iload_n 3, 1) := by decide +kernel
theorem d45 : decode yB 45 = .ok (.invokestatic 47, 3) := by decide +kernel
theorem d48 : decode yB 48 = .ok (.putfield 15, 3) := by decide +kernel
theorem d51 : decode yB 51 = .ok (.aload_n 0, 1) := by decide +kernel
theorem d52 : decode yB 52 = .ok (.aload 5, 2) := by decide +kernel
theorem d54 : decode yB 54 = .ok (.putfield 9, 3) := by decide +kernel
theorem d57 : decode yB 57 = .ok (.return_, 1) := by decide +kernel
def site : List Cond := [.fieldLink "java/lang/String" 38 "java/lang/String" "COMPACT_STRINGS" "Z", Cmp3.tab, CodL.tab, .laysFinal "java/lang/String" "java/lang/String" "value" "[B", .fieldLink "java/lang/String" 9 "java/lang/String" "value" "[B", .laysFinal "java/lang/String" "java/lang/String" "coder" "B", .fieldLink "java/lang/String" 15 "java/lang/String" "coder" "B"] ++ objW "java/lang/String" 1 ++ staticW "java/lang/String" 177 Cmp3.yN ++ staticW "java/lang/String" 47 CodL.yN
def tab : Cond := tabOf yN yB 6 none site
def P (a : Addr) (D : Cell) (fV fC : Field) (b : Addr) (A : Cell) (z : Int32) (o len : Nat) (args : Array Value) (s : State) : Prop := args = #[.ref a, .ref b, .int (Int32.ofNat o), .int (Int32.ofNat len), .null] ∧ Blank "java/lang/String" a D s ∧ Found "java/lang/String" "value" "[B" fV s ∧ Found "java/lang/String" "coder" "B" fC s ∧ Ch b A s ∧ StaticIs s "java/lang/String" "COMPACT_STRINGS" "Z" (.int z) ∧ ¬ z = 0 ∧ 0 < len ∧ o + len ≤ A.slots.size ∧ len ≤ 536870912 ∧ ∀ i, i < len → ¬ 255 < cv A (o + i)
def E (a : Addr) (D : Cell) (fV fC : Field) (A : Cell) (o len : Nat) (r : Option Value) (s u : State) : Prop := Got a D fV fC A o len r s u
/-- len > 0, no char of the range above 255: a Latin-1 String of their low bytes -/
theorem law (l : Launch) (a : Addr) (D : Cell) (fV fC : Field) (b : Addr) (A : Cell) (z : Int32) (o len : Nat) : Law l yN 5 4 2 35 yB 6 none site (P a D fV fC b A z o len) (E a D fV fC A o len) [⟨a, fC.slot⟩, ⟨a, fV.slot⟩] 1 len := by
  refine Law.of_walk (plainFor_of_name (by decide +kernel)) (by decide +kernel) (by decide +kernel) (by decide) (fun _ _ h => by rw [h.1]; rfl) (fun _ U U' hal hh h => ⟨h.1, h.2.1.mv hal hh, h.2.2.1.al hal, h.2.2.2.1.al hal, h.2.2.2.2.1.mv hal hh, h.2.2.2.2.2.1.there hal hh, h.2.2.2.2.2.2⟩) (fun r U U' V V' h1 hal h2 h => Got.mv r U U' V V' h1 hal h2 h) ?_
  intro p e s m args below meth c s₁ X0 hexec hbytes hml hret hlk hnm hown hh0 W hP
  obtain ⟨rfl, hB, f1, f2, hA, s1, hz, l0, l1, l2, hp⟩ := hP
  have a31 := hA.1.2.2.2
  have c1 : Steps p.tables e below (s₁.setTop (entryFrame m #[.ref a, .ref b, .int (Int32.ofNat o), .int (Int32.ofNat len), .null] 6)) (s₁.setTop (mkF m 0 #[.val (.ref a), .val (.ref b), .val (.int (Int32.ofNat o)), .val (.int (Int32.ofNat len)), .val .null, .unset] [])) := entry rfl
  have c2 : Steps p.tables e below (s₁.setTop (entryFrame m #[.ref a, .ref b, .int (Int32.ofNat o), .int (Int32.ofNat len), .null] 6)) (s₁.setTop (mkF m 1 #[.val (.ref a), .val (.ref b), .val (.int (Int32.ofNat o)), .val (.int (Int32.ofNat len)), .val .null, .unset] [.ref a])) := c1.trans (by
    refine XS.aloadN X0.here hexec rfl (hb hbytes d0) rfl rfl ?_
    exact Steps.refl _)
  obtain ⟨T3, X3, q3, st3⟩ := X0.oinit hexec hown (wks W (objW "java/lang/String" 1)) (g := (mkF m 1 #[.val (.ref a), .val (.ref b), .val (.int (Int32.ofNat o)), .val (.int (Int32.ofNat len)), .val .null, .unset] [.ref a])) rfl (by rw [hml]; rfl) (rest := []) rfl (hb hbytes d1) (W := 0) (by show 2 * 0 + 0 ≤ _; decide) (Nat.le_of_ble_eq_true rfl) (Nat.le_of_ble_eq_true rfl)
  have hh3 := q3.trans hh0
  have c4 : Steps p.tables e below (s₁.setTop (entryFrame m #[.ref a, .ref b, .int (Int32.ofNat o), .int (Int32.ofNat len), .null] 6)) (T3.setTop (mkF m 27 #[.val (.ref a), .val (.ref b), .val (.int (Int32.ofNat o)), .val (.int (Int32.ofNat len)), .val .null, .unset] [])) := (c2.trans (st3 _ (Steps.refl _))).trans (by
    refine XS.iloadN X3.here hexec rfl (hb hbytes d4) rfl ?_
    refine XS.ifYes X3.here hexec rfl (pc0 := 5) rfl (hb hbytes d5) rfl (i0_ne_t (nz32 (by omega) l0)) (by decide) rfl ?_
    exact Steps.refl _)
  obtain ⟨T5, X5, q5, st5⟩ := X3.sget hexec hown (wk W (.fieldLink "java/lang/String" 38 "java/lang/String" "COMPACT_STRINGS" "Z")) s1 (fun _ _ h => by rw [hh3]; exact h) (g := (mkF m 27 #[.val (.ref a), .val (.ref b), .val (.int (Int32.ofNat o)), .val (.int (Int32.ofNat len)), .val .null, .unset] [])) rfl (hb hbytes d27)
  have hh5 := q5.trans hh3
  have c6 : Steps p.tables e below (s₁.setTop (entryFrame m #[.ref a, .ref b, .int (Int32.ofNat o), .int (Int32.ofNat len), .null] 6)) (T5.setTop (mkF m 30 #[.val (.ref a), .val (.ref b), .val (.int (Int32.ofNat o)), .val (.int (Int32.ofNat len)), .val .null, .unset] [.int z])) := c4.trans (st5 _ (Steps.refl _))
  have c7 : Steps p.tables e below (s₁.setTop (entryFrame m #[.ref a, .ref b, .int (Int32.ofNat o), .int (Int32.ofNat len), .null] 6)) (T5.setTop (mkF m 36 #[.val (.ref a), .val (.ref b), .val (.int (Int32.ofNat o)), .val (.int (Int32.ofNat len)), .val .null, .unset] [.int (Int32.ofNat len), .int (Int32.ofNat o), .ref b])) := c6.trans (by
    refine XS.ifNo X5.here hexec rfl (hb hbytes d30) rfl (i0_eq_f hz) ?_
    refine XS.aloadN X5.here hexec rfl (hb hbytes d33) rfl rfl ?_
    refine XS.iloadN X5.here hexec rfl (hb hbytes d34) rfl ?_
    refine XS.iloadN X5.here hexec rfl (hb hbytes d35) rfl ?_
    exact Steps.refl _)
  obtain ⟨v8, T8, X8, E8, g8⟩ := X5.callS hexec (Cmp3.law l b A o len) hown (wks W (staticW "java/lang/String" 177 Cmp3.yN)) (wk W Cmp3.tab) (W := 0) (Nat.le_of_ble_eq_true rfl) (Nat.le_of_ble_eq_true rfl) (Nat.le_refl _) (by show 0 + len ≤ len; omega) (g := (mkF m 36 #[.val (.ref a), .val (.ref b), .val (.int (Int32.ofNat o)), .val (.int (Int32.ofNat len)), .val .null, .unset] [.int (Int32.ofNat len), .int (Int32.ofNat o), .ref b])) rfl (by rw [hml]; rfl) c7 (argsL := [.ref b, .int (Int32.ofNat o), .int (Int32.ofNat len)]) (rest := []) rfl rfl (by show 2 * 0 + 0 ≤ _; decide) (hb hbytes d36) (⟨rfl, hA.mv X5.warmed.alike hh5, l1, l2, hp⟩)
  obtain ⟨e8, z8⟩ := E8
  obtain ⟨rfl, N, n1, n2, n3, n4, n5, n6⟩ := NewArr.mv _ T5 s _ _ hh5.symm (Vm.Alike.refl _) rfl e8
  rw [hh5] at z8
  have hB1 := hB.keep X8.warmed.alike (n6 _ _ hB.1)
  have hne : s.heap.size ≠ a := (Nat.ne_of_lt (Array.getElem?_eq_some_iff.mp hB.1).1).symm
  have c9 : Steps p.tables e below (s₁.setTop (entryFrame m #[.ref a, .ref b, .int (Int32.ofNat o), .int (Int32.ofNat len), .null] 6)) (T8.setTop (mkF m 39 #[.val (.ref a), .val (.ref b), .val (.int (Int32.ofNat o)), .val (.int (Int32.ofNat len)), .val .null, .unset] [.ref s.heap.size])) := g8
  have c10 : Steps p.tables e below (s₁.setTop (entryFrame m #[.ref a, .ref b, .int (Int32.ofNat o), .int (Int32.ofNat len), .null] 6)) (T8.setTop (mkF m 45 #[.val (.ref a), .val (.ref b), .val (.int (Int32.ofNat o)), .val (.int (Int32.ofNat len)), .val .null, .val (.ref s.heap.size)] [.int (Int32.ofNat N.slots.size), .ref s.heap.size, .ref a])) := by
    have hc : Steps p.tables e below (s₁.setTop (entryFrame m #[.ref a, .ref b, .int (Int32.ofNat o), .int (Int32.ofNat len), .null] 6)) (T8.setTop (mkF m 45 #[.val (.ref a), .val (.ref b), .val (.int (Int32.ofNat o)), .val (.int (Int32.ofNat len)), .val .null, .val (.ref s.heap.size)] [.int (Int32.ofNat len), .ref s.heap.size, .ref a])) := c9.trans (by
      refine XS.astore X8.here hexec rfl (hb hbytes d39) rfl rfl rfl ?_
      refine XS.aloadN X8.here hexec rfl (hb hbytes d41) rfl rfl ?_
      refine XS.aload X8.here hexec rfl (hb hbytes d42) rfl rfl ?_
      refine XS.iloadN X8.here hexec rfl (hb hbytes d44) rfl ?_
      exact Steps.refl _)
    rw [n4]; exact hc
  obtain ⟨v11, T11, X11, E11, g11⟩ := X8.callS hexec (CodL.law l s.heap.size N) hown (wks W (staticW "java/lang/String" 47 CodL.yN)) (wk W CodL.tab) (W := 1) (Nat.le_of_ble_eq_true rfl) (Nat.le_of_ble_eq_true rfl) (Nat.le_refl _) (by show 0 + len + 0 ≤ len; omega) (g := (mkF m 45 #[.val (.ref a), .val (.ref b), .val (.int (Int32.ofNat o)), .val (.int (Int32.ofNat len)), .val .null, .val (.ref s.heap.size)] [.int (Int32.ofNat N.slots.size), .ref s.heap.size, .ref a])) rfl (by rw [hml]; rfl) c10 (argsL := [.ref s.heap.size, .int (Int32.ofNat N.slots.size)]) (rest := [.ref a]) rfl rfl (by show 2 * 0 + (1 + 0) ≤ _; decide) (hb hbytes d45) (⟨rfl, n1⟩)
  obtain ⟨rfl, q11⟩ := E11
  have hB11 := hB1.mv (X8.warmed.alike.symm.trans X11.warmed.alike) q11
  have c12 : Steps p.tables e below (s₁.setTop (entryFrame m #[.ref a, .ref b, .int (Int32.ofNat o), .int (Int32.ofNat len), .null] 6)) (T11.setTop (mkF m 48 #[.val (.ref a), .val (.ref b), .val (.int (Int32.ofNat o)), .val (.int (Int32.ofNat len)), .val .null, .val (.ref s.heap.size)] [.int 0, .ref a])) := g11
  obtain ⟨T13, X13, p13, bl13, sl13, st13⟩ := X11.finit hexec hown (wk W (.fieldLink "java/lang/String" 15 "java/lang/String" "coder" "B")) (Or.inr ⟨_, (wk W (.laysFinal "java/lang/String" "java/lang/String" "coder" "B"))⟩) (Or.inl ⟨rfl, hnm⟩) f2 (Or.inl rfl) hB11 (t := .byte) (by decide +kernel) rfl (g := (mkF m 48 #[.val (.ref a), .val (.ref b), .val (.int (Int32.ofNat o)), .val (.int (Int32.ofNat len)), .val .null, .val (.ref s.heap.size)] [.int 0, .ref a])) rfl (rest := []) rfl (hb hbytes d48)
  have c14 : Steps p.tables e below (s₁.setTop (entryFrame m #[.ref a, .ref b, .int (Int32.ofNat o), .int (Int32.ofNat len), .null] 6)) (T13.setTop (mkF m 54 #[.val (.ref a), .val (.ref b), .val (.int (Int32.ofNat o)), .val (.int (Int32.ofNat len)), .val .null, .val (.ref s.heap.size)] [.ref s.heap.size, .ref a])) := (c12.trans (st13 _ (Steps.refl _))).trans (by
    refine XS.aloadN X13.here hexec rfl (hb hbytes d51) rfl rfl ?_
    refine XS.aload X13.here hexec rfl (hb hbytes d52) rfl rfl ?_
    exact Steps.refl _)
  obtain ⟨T15, X15, p15, bl15, sl15, st15⟩ := X13.finit hexec hown (wk W (.fieldLink "java/lang/String" 9 "java/lang/String" "value" "[B")) (Or.inr ⟨_, (wk W (.laysFinal "java/lang/String" "java/lang/String" "value" "[B"))⟩) (Or.inl ⟨rfl, hnm⟩) f1 (Or.inl rfl) bl13 (t := (.array .byte)) (by decide +kernel) rfl (g := (mkF m 54 #[.val (.ref a), .val (.ref b), .val (.int (Int32.ofNat o)), .val (.int (Int32.ofNat len)), .val .null, .val (.ref s.heap.size)] [.ref s.heap.size, .ref a])) rfl (rest := []) rfl (hb hbytes d54)
  have c16 : Steps p.tables e below (s₁.setTop (entryFrame m #[.ref a, .ref b, .int (Int32.ofNat o), .int (Int32.ofNat len), .null] 6)) (T15.setTop (mkF m 57 #[.val (.ref a), .val (.ref b), .val (.int (Int32.ofNat o)), .val (.int (Int32.ofNat len)), .val .null, .val (.ref s.heap.size)] [])) := c14.trans (st15 _ (Steps.refl _))
  have ap := apart (Or.inr ⟨_, (wk W (.laysFinal "java/lang/String" "java/lang/String" "value" "[B"))⟩) (Or.inr ⟨_, (wk W (.laysFinal "java/lang/String" "java/lang/String" "coder" "B"))⟩) f1 f2 (t₁ := .array .byte) (t₂ := .byte) (by decide +kernel) (by decide +kernel) (by decide)
  have al := X8.warmed.alike.symm.trans X15.warmed.alike
  have n7 : T11.heap[s.heap.size]? = some N := by rw [q11]; exact n1.1
  exact ⟨T15, none, _, _, _, X15, by simp, rfl, by omega, (fun _ => rfl), ⟨rfl, _, N, bl15, ((Same.refl D _).set _ (by simp)).set _ (by simp), sl15, (Cell.slots_setSlot_ne _ ap).trans sl13, n1.keep al (p15.other hne (p13.other hne n7)), n2, by rw [al.findClass]; exact n3, n4, n5, fun y c h1 h2 => p15.other h1 (p13.other h1 (by rw [q11]; exact n6 y c h2)), by rw [p15.2.2, p13.2.2, q11]; exact z8⟩, fun fs hl => c16.trans (X15.returnOut hexec hret (hb hbytes d57) hl)⟩
end New4
namespace New1
def yN : MethodName := ⟨"java/lang/String", "<init>", "([C)V"⟩
abbrev yB : ByteArray := jdk_42_method_3_code
theorem d0 : decode yB 0 = .ok (.aload_n 0, 1) := by decide +kernel
theorem d1 : decode yB 1 = .ok (.aload_n 1, 1) := by decide +kernel
theorem d2 : decode yB 2 = .ok (.iconst 0, 1) := by decide +kernel
theorem d3 : decode yB 3 = .ok (.aload_n 1, 1) := by decide +kernel
theorem d4 : decode yB 4 = .ok (.arraylength, 1) := by decide +kernel
theorem d5 : decode yB 5 = .ok (.aconst_null, 1) := by decide +kernel
theorem d6 : decode yB 6 = .ok (.invokespecial 27, 3) := by decide +kernel
theorem d9 : decode yB 9 = .ok (.return_, 1) := by decide +kernel
def site : List Cond := [New4.tab] ++ initW "java/lang/String" 27 New4.yN
def tab : Cond := tabOf yN yB 2 none site
def P (a : Addr) (D : Cell) (fV fC : Field) (b : Addr) (A : Cell) (z : Int32) (args : Array Value) (s : State) : Prop := args = #[.ref a, .ref b] ∧ Blank "java/lang/String" a D s ∧ Found "java/lang/String" "value" "[B" fV s ∧ Found "java/lang/String" "coder" "B" fC s ∧ Ch b A s ∧ StaticIs s "java/lang/String" "COMPACT_STRINGS" "Z" (.int z) ∧ ¬ z = 0 ∧ 0 < A.slots.size ∧ A.slots.size ≤ 536870912 ∧ ∀ i, i < A.slots.size → ¬ 255 < cv A i
def E (a : Addr) (D : Cell) (fV fC : Field) (A : Cell) (r : Option Value) (s u : State) : Prop := Got a D fV fC A 0 A.slots.size r s u
/-- new String(chars), not empty, no char above 255: a Latin-1 String of their low bytes -/
theorem law (l : Launch) (a : Addr) (D : Cell) (fV fC : Field) (b : Addr) (A : Cell) (z : Int32) : Law l yN 2 1 3 52 yB 2 none site (P a D fV fC b A z) (E a D fV fC A) [⟨a, fC.slot⟩, ⟨a, fV.slot⟩] 1 A.slots.size := by
  refine Law.of_walk (plainFor_of_name (by decide +kernel)) (by decide +kernel) (by decide +kernel) (by decide) (fun _ _ h => by rw [h.1]; rfl) (fun _ U U' hal hh h => ⟨h.1, h.2.1.mv hal hh, h.2.2.1.al hal, h.2.2.2.1.al hal, h.2.2.2.2.1.mv hal hh, h.2.2.2.2.2.1.there hal hh, h.2.2.2.2.2.2⟩) (fun r U U' V V' h1 hal h2 h => Got.mv r U U' V V' h1 hal h2 h) ?_
  intro p e s m args below meth c s₁ X0 hexec hbytes hml hret hlk hnm hown hh0 W hP
  obtain ⟨rfl, hB, f1, f2, hA, s1, hz, l0, l2, hp⟩ := hP
  have c1 : Steps p.tables e below (s₁.setTop (entryFrame m #[.ref a, .ref b] 2)) (s₁.setTop (mkF m 0 #[.val (.ref a), .val (.ref b)] [])) := entry rfl
  have c2 : Steps p.tables e below (s₁.setTop (entryFrame m #[.ref a, .ref b] 2)) (s₁.setTop (mkF m 6 #[.val (.ref a), .val (.ref b)] [.null, .int (Int32.ofNat A.slots.size), .int 0, .ref b, .ref a])) := c1.trans (by
    refine XS.aloadN X0.here hexec rfl (hb hbytes d0) rfl rfl ?_
    refine XS.aloadN X0.here hexec rfl (hb hbytes d1) rfl rfl ?_
    refine iconstV X0.here hexec rfl 0 (hb hbytes d2) (by decide) ?_
    refine XS.aloadN X0.here hexec rfl (hb hbytes d3) rfl rfl ?_
    refine X0.alen hexec (hA.1.mv X0.warmed.alike hh0) rfl rfl (hb hbytes d4) ?_
    refine XS.aconstNull X0.here hexec rfl (hb hbytes d5) ?_
    exact Steps.refl _)
  obtain ⟨v3, T3, X3, E3, g3⟩ := X0.callN hexec (New4.law l a D fV fC b A z 0 A.slots.size) rfl hown (wks W (initW "java/lang/String" 27 New4.yN)) (W New4.tab (by simp only [site, List.mem_cons, List.mem_append, true_or, or_true])) (W := 0) (Nat.le_of_ble_eq_true rfl) (Nat.le_of_ble_eq_true rfl) (Nat.le_refl _) (by show 0 + A.slots.size ≤ A.slots.size; omega) (g := (mkF m 6 #[.val (.ref a), .val (.ref b)] [.null, .int (Int32.ofNat A.slots.size), .int (Int32.ofNat 0), .ref b, .ref a])) rfl (by rw [hml]; rfl) c2 (argsL := [.ref b, .int (Int32.ofNat 0), .int (Int32.ofNat A.slots.size), .null]) (rest := []) rfl rfl (by show 2 * 0 + 0 ≤ _; decide) (hb hbytes d6) (⟨rfl, hB.mv X0.warmed.alike hh0, f1.al X0.warmed.alike, f2.al X0.warmed.alike, hA.mv X0.warmed.alike hh0, s1.there X0.warmed.alike hh0, hz, l0, by omega, l2, fun i hi => by rw [Nat.zero_add]; exact hp i hi⟩)
  have e0 := Got.mv _ s₁ s _ _ hh0.symm (Vm.Alike.refl _) rfl E3
  obtain rfl := e0.1
  have c4 : Steps p.tables e below (s₁.setTop (entryFrame m #[.ref a, .ref b] 2)) (T3.setTop (mkF m 9 #[.val (.ref a), .val (.ref b)] [])) := g3
  exact ⟨T3, none, _, _, _, X3, by simp, rfl, by omega, (fun _ => rfl), e0, fun fs hl => c4.trans (X3.returnOut hexec hret (hb hbytes d9) hl)⟩
theorem pays {l : Launch} {R : Room} {p : Program} {e : Env} {below : List Frame} {s : State} {sargs : Array Value} {len W : Nat} (a : Addr) (D : Cell) (fV fC : Field) (b : Addr) (A : Cell) (z : Int32) (htab : tab.before sargs s = true) (hfr : 4 ≤ R.frames) (hlo : W + 65 ≤ R.locals) :
    Back l R p e below s sargs yN len W (fun A₁ a₁ => A₁.cells + 1 ≤ R.cells ∧ A₁.slots + A.slots.size ≤ R.slots ∧ P a D fV fC b A z a₁ A₁.U) (fun A₁ _ v₁ B₁ => E a D fV fC A v₁ A₁.U B₁.U ∧ B₁.locs = A₁.locs ++ [⟨a, fC.slot⟩, ⟨a, fV.slot⟩] ∧ B₁.cells = A₁.cells + 1 ∧ B₁.slots = A₁.slots + A.slots.size) :=
  (law l a D fV fC b A z).pays htab hfr (by omega)
end New1
end StrChars
namespace StrChars.Road
open Jvm Sem ClassFile Op Lib Jvm.Stand Jvm.Free Jvm.Free.XT
open Jvm.Lib.Cold (StaticIs)
abbrev ST : String := "java/lang/String"
/-- every table word that New1's law asks, flat -/
abbrev words : List Jvm.Cond := [.code New1.yN New1.yB 2 none, .initialized ST, .methodLink ST 27 New4.yN, .instanceMethod New4.yN,
  .code New4.yN New4.yB 6 none, .fieldLink ST 38 ST "COMPACT_STRINGS" "Z", .laysFinal ST ST "value" "[B", .fieldLink ST 9 ST "value" "[B", .laysFinal ST ST "coder" "B", .fieldLink ST 15 ST "coder" "B",
  .methodLink ST 1 Lib.objectInit, .instanceMethod Lib.objectInit, .code Lib.objectInit ⟨#[0xb1]⟩ 1 none, .methodLink ST 177 Cmp3.yN, .static Cmp3.yN, .methodLink ST 47 CodL.yN, .static CodL.yN,
  .code Cmp3.yN Cmp3.yB 6 (some (.array .byte)), .initialized U16, .arrayClass .byte, .methodLink U16 115 Cmp5.yN, .static Cmp5.yN, .code Cmp5.yN Cmp5.yB 7 (some .int), .code CodL.yN CodL.yB 2 (some .byte)]
theorem tab_of {a : Array Value} {s : State} (h : ∀ w ∈ words, w.before a s = true) : New1.tab.before a s = true := by
  have h5 : Cmp5.tab.before a s = true := unparts (wk h (.code Cmp5.yN Cmp5.yB 7 (some .int))) (wks h (.initialized Cmp5.yN.cls :: Cmp5.site))
  have hc : CodL.tab.before a s = true := unparts (wk h (.code CodL.yN CodL.yB 2 (some .byte))) (wks h (.initialized CodL.yN.cls :: CodL.site))
  have q5 : ∀ w ∈ Cmp5.tab :: words, w.before a s = true := fun w hw => (List.mem_cons.mp hw).elim (fun e => e ▸ h5) (h w)
  have h3 : Cmp3.tab.before a s = true := unparts (wk q5 (.code Cmp3.yN Cmp3.yB 6 (some (.array .byte)))) (wks q5 (.initialized Cmp3.yN.cls :: Cmp3.site))
  have q3 : ∀ w ∈ Cmp3.tab :: CodL.tab :: words, w.before a s = true := fun w hw => (List.mem_cons.mp hw).elim (fun e => e ▸ h3) fun hw => (List.mem_cons.mp hw).elim (fun e => e ▸ hc) (h w)
  have h4 : New4.tab.before a s = true := unparts (wk q3 (.code New4.yN New4.yB 6 none)) (wks q3 (.initialized New4.yN.cls :: New4.site))
  have q4 : ∀ w ∈ New4.tab :: words, w.before a s = true := fun w hw => (List.mem_cons.mp hw).elim (fun e => e ▸ h4) (h w)
  exact unparts (wk q4 (.code New1.yN New1.yB 2 none)) (wks q4 (.initialized New1.yN.cls :: New1.site))
/-- the words ride from the start Z to the walk's own state -/
theorem moved {Z s : State} {a0 args : Array Value} (hZ : Z.Warmed39 s.vm) (hw : ∀ d ∈ words, d.before a0 Z = true) : ∀ d ∈ words, d.before args s = true := fun d hd => by
  have q := hw d hd
  have t : ∀ d ∈ words, d = .arrayClass .byte ∨ (d.onTables && d.keepsFace) = true := by decide +kernel
  rcases t d hd with rfl | t
  · exact RoadKit.mvA hZ q
  · exact RoadKit.mv hZ q t
/-- WHAT COMES BACK, over the tables of the start Z: h the heap at the call, h' behind it -/
def Q (Z : State) (x : Addr) (A : Cell) (h : Heap) (v : Option Value) (h' : Heap) (L : List Loc) : Prop := v = none ∧ (∀ y ∈ L, y.base = x) ∧ RoadKit.Keep h h' [x] ∧ h'.size = h.size + 1 ∧ RoadKit.Exa Z h' x ST ∧ RoadKit.Fld Z h' x ST "value" "[B" (.ref h.size) ∧ RoadKit.Fld Z h' x ST "coder" "B" (.int 0) ∧
  (∃ V : Cell, RoadKit.Arr Z h' h.size V .byte ∧ V.vm = .none ∧ Z.vm.findClass "[B" = some V.cls ∧ V.slots.size = A.slots.size ∧ ∀ j, j < A.slots.size → V.slots[j]? = some (.int (lo8 (cv A j)))) ∧
  ∀ (O n d : String) (w : Value), RoadKit.Fld Z h x O n d w → RoadKit.slotOf Z O n d ≠ RoadKit.slotOf Z ST "value" "[B" → RoadKit.slotOf Z O n d ≠ RoadKit.slotOf Z ST "coder" "B" → RoadKit.Fld Z h' x O n d w
/-- **new String(chars) AT A CALL, IN THE ROAD'S FORM**: for specialBack behind newO: x the fresh String, b the char[] with the cell A -/
theorem back {p : Program} {l : Launch} {e : Env} {R : Room} {s : State} {args : Array Value} {below : List Frame} {len W : Nat} {Z : State} {a0 : Array Value} {h : Heap} (hZ : Z.Warmed39 s.vm) (hw : ∀ d ∈ words, d.before a0 Z = true) {kI : Nat} (wi : (Jvm.Cond.instantiable ST kI).before a0 Z = true)
    {x b : Addr} {A : Cell} {z : Int32} {v0 c0 : Value} (E : RoadKit.Exa Z h x ST) (V : RoadKit.Fld Z h x ST "value" "[B" v0) (C : RoadKit.Fld Z h x ST "coder" "B" c0) (K : RoadKit.Arr Z h b A .char) (hty : Typed .char A) (S : RoadKit.Sta Z h ST "COMPACT_STRINGS" "Z" (.int z)) (hz : ¬ z = 0)
    (l0 : 0 < A.slots.size) (l2 : A.slots.size ≤ 536870912) (hp : ∀ i, i < A.slots.size → ¬ 255 < cv A i) (hfr : 4 ≤ R.frames) (hlo : W + 65 ≤ R.locals) :
    Back l R p e below s args New1.yN len W (fun P a => a = #[.ref x, .ref b] ∧ P.U.heap = h ∧ P.cells + 1 ≤ R.cells ∧ P.slots + A.slots.size ≤ R.slots)
      (fun P _ v B => ∃ L, Q Z x A h v B.U.heap L ∧ B.locs = P.locs ++ L ∧ B.cells = P.cells + 1 ∧ B.slots = P.slots + A.slots.size) := by
  intro m meth c P g ig mk a X hg hsize hdg hW hn hp'
  obtain ⟨rfl, rfl, r1, r2⟩ := hp'
  have al : Z.vm.Alike P.U.vm := hZ.alike.trans X.warmed.alike
  obtain ⟨D, cfV, kV, iV, fV, hD, gV, stV, knV, obV, asV, slV⟩ := id V
  obtain ⟨D', cfC, kC, iC, fC, hD', gC, stC, -, -, asC, slC⟩ := id C
  cases hD.symm.trans hD'
  obtain ⟨D2, kD, e1, e2, e3, e4, e5⟩ := id E
  cases hD.symm.trans e1
  obtain ⟨c2, k2, i1, i2, i3, -⟩ := Cond.instantiable_spec wi
  cases e2.symm.trans i1
  cases e3.symm.trans i2
  obtain ⟨kU, u1, u2⟩ := al.2.2 _ _ e3
  have hB : Blank ST x D P.U := ⟨hD, ⟨knV, fun q hq => by rw [hq] at obV; cases obV⟩, by rw [al.findClass]; exact e2, kU, u1, by rw [u2]; exact i3, by rw [u2]; exact e5 i3⟩
  have F1 : Found ST "value" "[B" fV P.U := ⟨SBG.found_only al ⟨cfV, kV, iV, gV⟩, stV⟩
  have F2 : Found ST "coder" "B" fC P.U := ⟨SBG.found_only al ⟨cfC, kC, iC, gC⟩, stC⟩
  have hA : Ch b A P.U := ⟨⟨K.1, State.isArrayOf_alike al K.2.1, K.2.2, by omega⟩, hty⟩
  have hS : StaticIs P.U ST "COMPACT_STRINGS" "Z" (.int z) := by
    obtain ⟨cfS, iS, kS, fS, st, cS, t1, t2, t3, t4, t5, t6, t7⟩ := S
    exact StaticIs.there (s := { Z with heap := P.U.heap }) ⟨cfS, iS, kS, fS, st, cS, t1, t2, t3, t4, t5, (fun q => by rw [q] at t6; cases t6), t7⟩ al rfl
  obtain ⟨v, B, X', ⟨⟨hv, E', V', q1, q2, q3, q4, q5, q6, q7, q8, q9, q10, q11⟩, hl, hc, hs⟩, st⟩ := New1.pays x D fV fC b A z (tab_of (moved hZ hw)) hfr hlo m meth c P g ig mk _ X hg hsize hdg hW hn ⟨r1, r2, rfl, hB, F1, F2, hA, hS, hz, l0, l2, hp⟩
  have al' : Z.vm.Alike B.U.vm := hZ.alike.trans X'.warmed.alike
  have hsz : E'.slots.size = D.slots.size := by
    obtain ⟨-, -, -, kB, w1, w2, w3⟩ := q1
    obtain ⟨kB', y1, y2⟩ := al'.2.2 _ _ e3
    rw [q2.2.1] at w1
    cases w1.symm.trans y1
    rw [w3, e5 i3, y2]
  refine ⟨v, B, X', ⟨_, ⟨hv, ?_, ⟨by omega, fun y cy hy hn' => q10 y cy (by simpa using hn') hy, fun y cy hy => ?_⟩, q11, ⟨E', _, q1.1, by rw [q2.2.1]; exact e2, by rw [q2.2.1]; exact e3, by rw [q2.1]; exact obV, fun _ => by rw [hsz]; exact e5 i3⟩,
    ⟨E', cfV, kV, iV, fV, q1.1, gV, stV, by rw [q2.1]; exact knV, by rw [q2.1]; exact obV, by rw [q2.2.1]; exact asV, q3⟩, ⟨E', cfC, kC, iC, fC, q1.1, gC, stC, by rw [q2.1]; exact knV, by rw [q2.1]; exact obV, by rw [q2.2.1]; exact asC, q4⟩,
    ⟨V', ⟨q5.1, State.isArrayOf_alike al'.symm q5.2.1, q5.2.2.1⟩, q6, by rw [← al'.findClass]; exact q7, q8, fun j hj => by have := q9 j hj; rwa [Nat.zero_add] at this⟩, fun O n d w F n1 n2 => ?_⟩, hl, hc, hs⟩, st⟩
  · intro y hy
    simp only [List.mem_cons, List.not_mem_nil, or_false] at hy
    rcases hy with rfl | rfl <;> rfl
  · by_cases q : y = x
    · subst q
      cases hD.symm.trans hy
      exact ⟨E', q1.1, q2.2.1, q2.1, hsz⟩
    · exact ⟨cy, q10 y cy q hy, rfl, rfl, rfl⟩
  · obtain ⟨D3, cf, k, i, f, g1, g2, g3, g4, g5, g6, g7⟩ := F
    cases hD.symm.trans g1
    simp only [RoadKit.slotOf, g2, gV, gC, Option.map_some, Option.getD_some] at n1 n2
    exact ⟨E', cf, k, i, f, q1.1, g2, g3, by rw [q2.1]; exact g4, by rw [q2.1]; exact g5, by rw [q2.2.1]; exact g6, by rw [q2.2.2 f.slot (by simp [n1, n2])]; exact g7⟩
end StrChars.Road
namespace StrChars.Road
open Jvm Sem ClassFile Op Lib Jvm.Stand Jvm.Free Jvm.Free.XT
/-- WHAT COMES BACK, the byte[] as a list of values -/
def QA (Z : State) (x : Addr) (zn : Int32) (cs : List Int32) (h : Heap) (v : Option Value) (h' : Heap) (L : List Loc) : Prop := v = none ∧ (∀ y ∈ L, y.base = x) ∧ RoadKit.Keep h h' [x] ∧ h'.size = h.size + 1 ∧ RoadKit.Exa Z h' x ST ∧ RoadKit.Fld Z h' x ST "value" "[B" (.ref h.size) ∧ RoadKit.Fld Z h' x ST "coder" "B" (.int 0) ∧
  (∃ kb, Z.vm.findClass "[B" = some kb ∧ RoadKit.Arv Z h' h.size kb .byte zn (cs.map fun c => .int (lo8 c)) (.int 0)) ∧
  ∀ (O n d : String) (w : Value), RoadKit.Fld Z h x O n d w → RoadKit.slotOf Z O n d ≠ RoadKit.slotOf Z ST "value" "[B" → RoadKit.slotOf Z O n d ≠ RoadKit.slotOf Z ST "coder" "B" → RoadKit.Fld Z h' x O n d w
/-- **new String(chars) AT A CALL, THE ARRAYS AS LISTS**: the char[] at b holds cs, not empty, no char above 255 -/
theorem backArv {p : Program} {l : Launch} {e : Env} {R : Room} {s : State} {args : Array Value} {below : List Frame} {len W : Nat} {Z : State} {a0 : Array Value} {h : Heap} (hZ : Z.Warmed39 s.vm) (hw : ∀ d ∈ words, d.before a0 Z = true) {kI : Nat} (wi : (Jvm.Cond.instantiable ST kI).before a0 Z = true)
    {x b : Addr} {k : ClassId} {zn z : Int32} {cs : List Int32} {dv v0 c0 : Value} (E : RoadKit.Exa Z h x ST) (V : RoadKit.Fld Z h x ST "value" "[B" v0) (C : RoadKit.Fld Z h x ST "coder" "B" c0) (K : RoadKit.Arv Z h b k .char zn (cs.map Value.int) dv) (S : RoadKit.Sta Z h ST "COMPACT_STRINGS" "Z" (.int z)) (hz : ¬ z = 0)
    (hlen : zn.toNatClampNeg = cs.length) (h0 : 0 < cs.length) (hbig : cs.length ≤ 536870912) (hall : ∀ c ∈ cs, ¬ 255 < c) (hfr : 4 ≤ R.frames) (hlo : W + 65 ≤ R.locals) :
    Back l R p e below s args New1.yN len W (fun P a => a = #[.ref x, .ref b] ∧ P.U.heap = h ∧ P.cells + 1 ≤ R.cells ∧ P.slots + cs.length ≤ R.slots)
      (fun P _ v B => ∃ L, QA Z x zn cs h v B.U.heap L ∧ B.locs = P.locs ++ L ∧ B.cells = P.cells + 1 ∧ B.slots = P.slots + cs.length) := by
  obtain ⟨A, K1, K2, K3, K4, K5, K6⟩ := K
  have e : A.slots.size = cs.length := K3.trans hlen
  have hat : ∀ (i : Nat) (hi : i < cs.length), A.slots[i]? = some (.int cs[i]) := fun i hi => by rw [K5 i (by omega)]; simp [List.getD_eq_getElem?_getD, hi]
  have hcv : ∀ (i : Nat) (hi : i < cs.length), cv A i = cs[i] := fun i hi => by unfold cv; rw [hat i hi]
  have hty : Typed .char A := fun i v hv => by
    have hi : i < A.slots.size := (Array.getElem?_eq_some_iff.mp hv).1
    have q := K5 i hi
    rw [hv] at q
    rw [Option.some.inj q]
    exact K6 i hi
  refine Back.mono (back hZ hw wi E V C K1 hty S hz (by omega) (by omega) (fun i hi => by rw [hcv i (by omega)]; exact hall _ (List.getElem_mem _)) hfr hlo) (fun P a hp => ⟨hp.1, hp.2.1, hp.2.2.1, by rw [e]; exact hp.2.2.2⟩) (fun P a v B hp hq => ?_)
  obtain ⟨L, ⟨q1, q2, q3, q4, q5, q6, q7, ⟨V', v1, v2, v3, v4, v5⟩, q9⟩, hl, hc, hs⟩ := hq
  refine ⟨L, ⟨q1, q2, q3, q4, q5, q6, q7, ⟨V'.cls, v3, V', v1, rfl, by rw [v4, e, hlen], K4, fun i hi => ?_, fun i hi => ?_⟩, q9⟩, hl, hc, by rw [hs, e]⟩
  · have hi' : i < cs.length := by omega
    rw [v5 i (by omega), hcv i hi']; simp [List.getD_eq_getElem?_getD, hi']
  · have hi' : i < cs.length := by omega
    simp only [List.getD_eq_getElem?_getD, List.getElem?_map, List.getElem?_eq_getElem hi', Option.map_some, Option.getD_some]
    exact fits_lo8 _
end StrChars.Road
namespace StrChars.Road
open Jvm Sem ClassFile Op Lib Jvm.Stand Jvm.Free Jvm.Free.XT
/-- WHAT COMES BACK, in the writer's own shape -/
def QV (Z : State) (x : Addr) (N : Int32) (bs : List Int32) (h : Heap) (n0 : Nat) (v : Option Value) (h' : Heap) (L : List Loc) : Prop := v = none ∧ RoadKit.Fr n0 L ∧ RoadKit.Keep h h' [x] ∧ RoadKit.Exa Z h' x ST ∧ RoadKit.Fld Z h' x ST "coder" "B" (.int 0) ∧
  ∃ (t : Addr) (kb : ClassId), n0 ≤ t ∧ h.size ≤ t ∧ ¬ t = x ∧ RoadKit.Fld Z h' x ST "value" "[B" (.ref t) ∧ RoadKit.Arv Z h' t kb .byte N (bs.map Value.int) (.int 0)
/-- **new String(chars) AT A CALL, FOR THE WRITER**: a char[] of n known ints, each 0 to 255 -/
theorem backV {p : Program} {l : Launch} {e : Env} {R : Room} {s : State} {args : Array Value} {below : List Frame} {len W : Nat} {Z : State} {a0 : Array Value} {h : Heap} (hZ : Z.Warmed39 s.vm) (hw : ∀ d ∈ words, d.before a0 Z = true) {kI : Nat} (wi : (Jvm.Cond.instantiable ST kI).before a0 Z = true)
    {x b : Addr} {kC : ClassId} {cs bs : List Int32} {d v0 c0 : Value} {z N : Int32} {n n0 : Nat} (hx0 : n0 ≤ x) (hh0 : n0 ≤ h.size) (E : RoadKit.Exa Z h x ST) (V : RoadKit.Fld Z h x ST "value" "[B" v0) (C : RoadKit.Fld Z h x ST "coder" "B" c0) (K : RoadKit.Arv Z h b kC .char N (cs.map Value.int) d) (S : RoadKit.Sta Z h ST "COMPACT_STRINGS" "Z" (.int z)) (hz : ¬ z = 0)
    (hn : cs.length = n) (hN : N = Int32.ofNat n) (l0 : 0 < n) (l2 : n ≤ 4000) (hp : ∀ c ∈ cs, ¬ c < 0 ∧ ¬ (255 : Int32) < c) (hb : bs = cs.map (fun c => c.toInt8.toInt32)) (hfr : 4 ≤ R.frames) (hlo : W + 65 ≤ R.locals) :
    Back l R p e below s args (⟨"java/lang/String", "<init>", "([C)V"⟩ : MethodName) len W (fun P a => a = #[.ref x, .ref b] ∧ P.U.heap = h ∧ P.cells + 1 ≤ R.cells ∧ P.slots + n ≤ R.slots)
      (fun P _ v B => ∃ L, QV Z x N bs h n0 v B.U.heap L ∧ B.locs = P.locs ++ L ∧ B.cells = P.cells + 1 ∧ B.slots = P.slots + n) := by
  subst hn hN hb
  refine Back.mono (backArv hZ hw wi E V C K S hz (n32 (by omega)) l0 (by omega) (fun c hc => (hp c hc).2) hfr hlo) (fun P a hp => hp) (fun P a v B hp hq => ?_)
  obtain ⟨L, ⟨q1, q2, q3, q4, q5, q6, q7, ⟨kb, v1, v2⟩, q9⟩, hl, hc, hs⟩ := hq
  exact ⟨L, ⟨q1, fun y hy => by rw [q2 y hy]; exact hx0, q3, q5, q7, h.size, kb, hh0, Nat.le_refl _, Nat.ne_of_gt E.lt, q6, by rw [List.map_map]; exact v2⟩, hl, hc, hs⟩
end StrChars.Road
end Jvm.Pilot.@@N@@
namespace Jvm.Pilot.@@N@@
open Jvm Jvm.ClassFile Sem Op Lib Jvm.Free Jvm.Stand Jvm.LawKit Jvm.RoadKit Bundle Jvm.Pilot.@@N@@.Jvm.D
section Own0
theorem own_fld_to {Z : State} {h : Heap} {a : Addr} {C n d : String} {v v' : Value} (F : Fld Z h a C n d v) (q : v = v') : Fld Z h a C n d v' := q ▸ F
theorem own_sta_keep {Z : State} {h h' : Heap} {C n d : String} {v : Value} {ws : List Addr} (F : Sta Z h C n d v) (K : Keep h h' ws) (q : ∀ x ∈ ws, ∀ c : Cell, h[x]? = some c → c.vm.isStatics = false) : Sta Z h' C n d v := by
  obtain ⟨cf, i, k, f, st, cell, h1, h2, h3, h4, h5, h6, h7⟩ := F
  exact ⟨cf, i, k, f, st, cell, h1, h2, h3, h4, K.2.1 st cell h5 (fun y => by rw [q st y cell h5] at h6; cases h6), h6, h7⟩
theorem own_ins_keep {Z : State} {h h' : Heap} {a : Addr} {C : String} {bo : Bool} {ws : List Addr} (F : Ins Z h a C bo) (K : Keep h h' ws) : Ins Z h' a C bo := by
  obtain ⟨cell, cT, h1, h2, h3⟩ := F
  obtain ⟨c', e1, e2, e3, -⟩ := K.2.2 a cell h1
  exact ⟨c', cT, e1, h2, by rw [e2, e3]; exact h3⟩
theorem notsta_exa {Z : State} {h : Heap} {a : Addr} {C : String} (F : Exa Z h a C) : ∀ c : Cell, h[a]? = some c → c.vm.isStatics = false := fun c hc => by
  obtain ⟨cell, _, h1, -, -, h4, -⟩ := F
  cases hc.symm.trans h1; exact h4
theorem eqi_v {args : Array Value} {first s : State} {o : Option Outcome} {idx : List Nat} {a : Term} {k : Int32} (h : (Cond.eq a (.int k)).value args first o s idx = some true) : a.eval args first o idx s = some (.int k) := by
  obtain ⟨x, y, e1, e2, k1, k2⟩ := cmp_v (Or.inl h)
  have e3 : (Term.int k).eval args first o idx s = some (.int k) := rfl
  cases e3.symm.trans e2
  cases x <;> simp [Cond.value, e1, e3] at h
  rw [e1, h]
end Own0
section Own
variable {p : Program} {l : Launch} {e : Env} {R : Room} {s : State} {m : MethodId} {args : Array Value} {below : List Frame} {meth : Method} {c : Code} {T T' : State} {locs : List Loc} {cells slots : Nat} {Z : State} {h h' : Heap} {Q : Option Value → Heap → List Loc → Prop} {kc ks : Nat} {a b : Addr}
/-- from T the method comes to its end, and Q holds of what it returns, of the heap and of the written places -/
def Goes (p : Program) (e : Env) (below : List Frame) (s : State) (Q : Option Value → Heap → List Loc → Prop) (kc ks : Nat) (T : State) : Prop :=
  ∃ s₂ o, Steps p.tables e below T s₂ ∧ s₂.status = .running ∧ Ended s₂ below o ∧ ∃ v L, o = .returned v ∧ Q v s₂.heap L ∧ FrameEnd s o s₂ L kc ks
theorem Goes.step (st : ∀ t, Steps p.tables e below T' t → Steps p.tables e below T t) (k : Goes p e below s Q kc ks T') : Goes p e below s Q kc ks T := by
  obtain ⟨s₂, o, h1, h2⟩ := k; exact ⟨s₂, o, st _ h1, h2⟩
theorem Goes.ret (X : Stand p l e R s m args below meth c T locs cells slots) {v : Option Value} (hv : meth.sig.returnType = none → v = none) (hlocks : meth.locks = false) {T₀ : State}
    (st : ∀ fs, (∀ (f : JFrame) (acts : List Action), f.method = m → f.locked = none → f.entered = [] → (doReturn e (T.setTop f) acts v).1 = T.setFrames fs) → Steps p.tables e below T₀ (T.setFrames fs))
    (hq : Q v T.heap locs) (hc : cells ≤ kc) (hs : slots ≤ ks) : Goes p e below s Q kc ks T₀ := by
  obtain ⟨fs, hr, hrun, hended, hW, hsame⟩ := X.leave (v := v) hv hlocks
  exact ⟨_, _, st fs hr, hrun, hended, _, _, rfl, hq, ⟨_, rfl⟩, hW, hsame.mono hc hs⟩
theorem Goes.retZ (X : Stand p l e R s m args below meth c T locs cells slots) (hx : p.tables.exec = Jvm.exec) (hlocks : meth.locks = false) {pc : Nat} {Ls : Array Slot} {z r : Int32} {t : FieldType} {rest : List Value} (hret : meth.sig.returnType = some t) (ht : t = .boolean ∨ t = .byte ∨ t = .char ∨ t = .short)
    (hd : decode c.code pc = .ok (.ireturn, 1)) (hz : nar t z = r) (hq : Q (some (.int r)) T.heap locs) (hc : cells ≤ kc) (hs : slots ≤ ks) : Goes p e below s Q kc ks (T.setTop (mkF m pc Ls (.int z :: rest))) := by
  subst hz
  exact Goes.ret X (fun h => by rw [hret] at h; cases h) hlocks (fun fs hr => retN X hx hret ht hd hr) hq hc hs
theorem Goes.retI (X : Stand p l e R s m args below meth c T locs cells slots) (hx : p.tables.exec = Jvm.exec) (hlocks : meth.locks = false) {pc : Nat} {Ls : Array Slot} {z r : Int32} {rest : List Value} (hret : meth.sig.returnType = some .int)
    (hd : decode c.code pc = .ok (.ireturn, 1)) (hz : z = r) (hq : Q (some (.int r)) T.heap locs) (hc : cells ≤ kc) (hs : slots ≤ ks) : Goes p e below s Q kc ks (T.setTop (mkF m pc Ls (.int z :: rest))) := by
  subst hz
  exact Goes.ret X (fun h => by rw [hret] at h; cases h) hlocks (fun fs hr => retOut X hx hret rfl (Or.inl ⟨rfl, Or.inl rfl, z, rfl⟩) hd hr) hq hc hs
theorem Goes.retJ (X : Stand p l e R s m args below meth c T locs cells slots) (hx : p.tables.exec = Jvm.exec) (hlocks : meth.locks = false) {pc : Nat} {Ls : Array Slot} {z r : Int64} {rest : List Value} (hret : meth.sig.returnType = some .long)
    (hd : decode c.code pc = .ok (.lreturn, 1)) (hz : z = r) (hq : Q (some (.long r)) T.heap locs) (hc : cells ≤ kc) (hs : slots ≤ ks) : Goes p e below s Q kc ks (T.setTop (mkF m pc Ls (.long z :: rest))) := by
  subst hz
  exact Goes.ret X (fun h => by rw [hret] at h; cases h) hlocks (fun fs hr => retOut X hx hret rfl (Or.inr (Or.inl ⟨rfl, rfl, z, rfl⟩)) hd hr) hq hc hs
theorem Goes.retD (X : Stand p l e R s m args below meth c T locs cells slots) (hx : p.tables.exec = Jvm.exec) (hlocks : meth.locks = false) {pc : Nat} {Ls : Array Slot} {z r : UInt64} {rest : List Value} (hret : meth.sig.returnType = some .double)
    (hd : decode c.code pc = .ok (.dreturn, 1)) (hz : z = r) (hq : Q (some (.double r)) T.heap locs) (hc : cells ≤ kc) (hs : slots ≤ ks) : Goes p e below s Q kc ks (T.setTop (mkF m pc Ls (.double z :: rest))) := by
  subst hz
  exact Goes.ret X (fun h => by rw [hret] at h; cases h) hlocks (fun fs hr => retOut X hx hret rfl (Or.inr (Or.inr (Or.inl ⟨rfl, rfl, z, rfl⟩))) hd hr) hq hc hs
theorem Goes.retR (X : Stand p l e R s m args below meth c T locs cells slots) (hx : p.tables.exec = Jvm.exec) (hlocks : meth.locks = false) {pc : Nat} {Ls : Array Slot} {z r : Value} {t : FieldType} {rest : List Value} (hret : meth.sig.returnType = some t) (ht : t.isReference = true) (hn : narrow t z = z) (hw : z.isRef = true)
    (hd : decode c.code pc = .ok (.areturn, 1)) (hz : z = r) (hq : Q (some r) T.heap locs) (hc : cells ≤ kc) (hs : slots ≤ ks) : Goes p e below s Q kc ks (T.setTop (mkF m pc Ls (z :: rest))) := by
  subst hz
  exact Goes.ret X (fun h => by rw [hret] at h; cases h) hlocks (fun fs hr => retOut X hx hret hn (Or.inr (Or.inr (Or.inr (Or.inr ⟨rfl, ht, hw⟩)))) hd hr) hq hc hs
theorem Goes.retV (X : Stand p l e R s m args below meth c T locs cells slots) (hx : p.tables.exec = Jvm.exec) (hlocks : meth.locks = false) {pc : Nat} {Ls : Array Slot} (hret : meth.sig.returnType = none)
    (hd : decode c.code pc = .ok (.return_, 1)) (hq : Q none T.heap locs) (hc : cells ≤ kc) (hs : slots ≤ ks) : Goes p e below s Q kc ks (T.setTop (mkF m pc Ls [])) :=
  Goes.ret X (fun _ => rfl) hlocks (fun fs hr => X.returnOut hx hret hd hr) hq hc hs
/-- the array at a holds vs -/
def Ara (Z : State) (h : Heap) (a : Addr) (ty : FieldType) (vs : List Value) : Prop := ∃ cl : Cell, Arr Z h a cl ty ∧ cl.slots.toList = vs ∧ vs.length < 2 ^ 31 ∧ (∀ v ∈ vs, fits ty v = true) ∧ ∀ C, ty = .object C → Ovr Z cl.cls C
variable {ty : FieldType} {vs : List Value} {sl : Nat} {v : Value} {ws : List Addr}
theorem Ara.lt (F : Ara Z h a ty vs) : a < h.size := by obtain ⟨c, A, -⟩ := F; exact A.lt
theorem Ara.ext (F : Ara Z h a ty vs) (E : Ext h h') : Ara Z h' a ty vs := by obtain ⟨c, A, r⟩ := F; exact ⟨c, A.ext E, r⟩
theorem Ara.other (F : Ara Z h b ty vs) (W : Wr h h' a sl v) (q : b ≠ a) : Ara Z h' b ty vs := by obtain ⟨c, A, r⟩ := F; exact ⟨c, A.other W q, r⟩
theorem Ara.keep (F : Ara Z h a ty vs) (K : Keep h h' ws) (q : a ∉ ws) : Ara Z h' a ty vs := by obtain ⟨c, A, r⟩ := F; exact ⟨c, ⟨K.2.1 a c A.1 q, A.2⟩, r⟩
theorem fits_dflt (ty : FieldType) : fits ty (defaultValue ty) = true := by cases ty <;> rfl
theorem Ara.new {k : ClassId} {z : Int32} (A : Arr Z h a (newA k ty z) ty) (q : ¬ z < 0) (e : List.replicate z.toNatClampNeg (defaultValue ty) = vs) (O : ∀ C, ty = .object C → Ovr Z k C) : Ara Z h a ty vs := by
  subst e
  refine ⟨_, A, by simp [newA], by simpa using (back32 q).2, fun v hv => ?_, O⟩
  rw [(List.mem_replicate.mp hv).2]; exact fits_dflt ty
theorem Ara.same {j : Int32} {cl : Cell} (A : Arr Z h a cl ty) (e : cl.slots.toList = vs) (hl : vs.length < 2 ^ 31) (hf : ∀ v ∈ vs, fits ty v = true) (O : ∀ C, ty = .object C → Ovr Z cl.cls C) (hv : fits ty v = true) (W : Wr h h' a j.toNatClampNeg v) : Ara Z h' a ty (vs.set j.toNatClampNeg v) := by
  refine ⟨_, A.same W, by simp [Cell.setSlot, ← e], by simpa using hl, fun u hu => ?_, O⟩
  rcases List.mem_or_eq_of_mem_set hu with q | q
  · exact hf u q
  · rw [q]; exact hv
theorem inb {j : Int32} {cl : Cell} (e : cl.slots.toList = vs) (h0 : ¬ j < 0) (hj : j.toNatClampNeg < vs.length) : ¬ (j < 0 ∨ cl.slots.size ≤ j.toNatClampNeg) := by
  rintro (q | q)
  · exact h0 q
  · rw [← e] at hj; simp at hj; omega
theorem getb {j : Int32} {cl : Cell} (e : cl.slots.toList = vs) (hv : vs[j.toNatClampNeg]? = some v) : cl.slots[j.toNatClampNeg]? = some v := by rw [← e] at hv; simpa using hv
theorem ltb {n : Nat} (hv : vs[n]? = some v) : n < vs.length := (List.getElem?_eq_some_iff.mp hv).1
theorem lenb {cl : Cell} (e : cl.slots.toList = vs) : cl.slots.size = vs.length := by rw [← e]; simp
theorem notsta_ara (F : Ara Z h a ty vs) : ∀ c : Cell, h[a]? = some c → c.vm.isStatics = false := fun c hc => by
  obtain ⟨cl, A, -⟩ := F
  cases hc.symm.trans A.1; exact A.plain
theorem Ara.to {vs' : List Value} (F : Ara Z h a ty vs) (q : vs = vs') : Ara Z h a ty vs' := q ▸ F
end Own

theorem own_no {Z : State} {a0 : Array Value} {C K : String} {n : Nat} (wo : (Cond.noSuperclass "java/lang/Object").before a0 Z = true) (w : (Cond.superclass C "java/lang/Object").before a0 Z = true) (wk : (Cond.instantiable K n).before a0 Z = true) (h1 : C ≠ K) (h2 : "java/lang/Object" ≠ K) :
    ∃ c t, Z.vm.findClass C = some c ∧ Z.vm.findClass K = some t ∧ Z.vm.assignable c t = false := by
  obtain ⟨t, k', g0, g2, g3, g4, -⟩ := Cond.instantiable_spec wk
  obtain ⟨o, ko, o1, o2, o3, -, -⟩ := Cond.noSuperclass_spec wo
  have neo := ids_ne o1 g0 h2
  obtain ⟨c, h0⟩ := found_sup w
  obtain ⟨p, k, kp, p1, p2, p3, p4, p5, -, p7⟩ := Cond.superclass_spec h0 w
  cases o1.symm.trans p1
  have ne := ids_ne h0 g0 h1
  have n0 : ∀ fuel, Z.vm.isSubclassAux fuel o t = false := fun fuel => by
    cases fuel with
    | zero => rfl
    | succ f => simp [Vm.isSubclassAux, neo, o2, o3]
  have n3 : ∀ fuel, Z.vm.isSubclassAux fuel c t = false := fun fuel => by
    cases fuel with
    | zero => rfl
    | succ f => simp [Vm.isSubclassAux, ne, p2, p4, n0]
  have gi : k'.isInterface = false := by cases q : k'.isInterface <;> simp [q] at g4 ⊢
  refine ⟨c, t, h0, g0, ?_⟩
  show Z.vm.assignableAux (255 + 1) c t = false
  simp [Vm.assignableAux, ne, p2, g2, p5, g3, gi, Vm.isSubclass, n3]
theorem own_arv {Z : State} {h : Heap} {a : Addr} {ty : FieldType} {vs : List Value} {N : Int32} (d : Value) (F : Ara Z h a ty vs) (hN : ¬ N < 0) (hl : N.toNatClampNeg = vs.length) : ∃ k, Arv Z h a k ty N vs d := by
  obtain ⟨c, A, q, -, hf, -⟩ := F
  have sz : c.slots.size = vs.length := lenb q
  refine ⟨c.cls, c, A, rfl, by rw [sz, hl], hN, fun i hi => ?_, fun i hi => ?_⟩
  · have hi' : i < vs.length := by omega
    have e : c.slots.toList[i]? = some (vs.getD i d) := by rw [q]; simp [List.getD, hi']
    rw [Array.getElem?_toList] at e; exact e
  · have hi' : i < vs.length := by omega
    have : vs.getD i d ∈ vs := by simp [List.getD, hi']
    exact hf _ this
theorem own_qv {Z : State} {x : Addr} {N : Int32} {bs : List Int32} {h h' : Heap} {n0 : Nat} {v : Option Value} {L : List Loc} (q : StrChars.Road.QV Z x N bs h n0 v h' L) : v = none ∧ Fr n0 L ∧ Keep h h' [x] ∧ Exa Z h' x "java/lang/String" := ⟨q.1, q.2.1, q.2.2.1, q.2.2.2.1⟩
theorem own_lat (x : Int32) : ¬ nar .char ((x &&& (255 : Int32)).toUInt32.toUInt16.toUInt32.toInt32) < 0 ∧ ¬ (255 : Int32) < nar .char ((x &&& (255 : Int32)).toUInt32.toUInt16.toUInt32.toInt32) := by
  have e : nar .char ((x &&& (255 : Int32)).toUInt32.toUInt16.toUInt32.toInt32) = x &&& 255 := by
    show ((x &&& (255 : Int32)).toUInt32.toUInt16.toUInt32.toInt32).toUInt32.toUInt16.toUInt32.toInt32 = _
    rw [i2c_mask, i2c_mask]
  have h := c_mask x 255 8 (by decide) (by decide)
  rw [e, Int32.lt_iff_toInt_lt, Int32.lt_iff_toInt_lt, (by decide : (0 : Int32).toInt = 0), (by decide : (255 : Int32).toInt = 255)]; omega
theorem own_three (p y : Int32) (h : ((p.toUInt32 >>> ((3 : Int32) &&& 31).toUInt32).toInt32) &&& 3 = y) : y = 0 ∨ y = 1 ∨ y = 2 ∨ y = 3 := by
  have h1 := c_mask ((p.toUInt32 >>> ((3 : Int32) &&& 31).toUInt32).toInt32) 3 2 (by decide) (by decide)
  rw [h] at h1
  have h3 : y.toInt = 0 ∨ y.toInt = 1 ∨ y.toInt = 2 ∨ y.toInt = 3 := by omega
  rcases h3 with h | h | h | h <;> simp [← Int32.toInt_inj, h]
theorem own_pn0 : plainName "com/example/vigilant_schema/vigilantschema/Node$BooleanNode" = true := by first | (simp [plainName, overriddenIn]; done) | decide +kernel
theorem own_pn1 : plainName "com/example/vigilant_schema/vigilantschema/Node$NullNode" = true := by first | (simp [plainName, overriddenIn]; done) | decide +kernel
theorem own_pd0 : parseMethodDescriptor "([C)V" = some ⟨[(.array .char)], none⟩ := by decide +kernel
theorem own_pd1 : parseMethodDescriptor "(ZLjava/lang/String;)V" = some ⟨[.boolean, (.object "java/lang/String")], none⟩ := by decide +kernel
theorem own_pd2 : parseMethodDescriptor "(Ljava/lang/Object;)Z" = some ⟨[(.object "java/lang/Object")], some .boolean⟩ := by decide +kernel
theorem own_pd3 : parseMethodDescriptor "(Ljava/lang/String;)V" = some ⟨[(.object "java/lang/String")], none⟩ := by decide +kernel
theorem own_pn2 : plainName "com/example/vigilant_schema/vigilantschema/BooleanNodeEqualsPinLaw" = true := by first | (simp [plainName, overriddenIn]; done) | decide +kernel
theorem own_d7_0 : decode prog_52_method_2_code 0 = .ok (.aload_n 0, 1) := by decide +kernel
theorem own_d7_1 : decode prog_52_method_2_code 1 = .ok (.invokespecial 13, 3) := by decide +kernel
theorem own_d7_4 : decode prog_52_method_2_code 4 = .ok (.aload_n 0, 1) := by decide +kernel
theorem own_d7_5 : decode prog_52_method_2_code 5 = .ok (.iload_n 1, 1) := by decide +kernel
theorem own_d7_6 : decode prog_52_method_2_code 6 = .ok (.putfield 18, 3) := by decide +kernel
theorem own_d7_9 : decode prog_52_method_2_code 9 = .ok (.aload_n 0, 1) := by decide +kernel
theorem own_d7_10 : decode prog_52_method_2_code 10 = .ok (.aload_n 2, 1) := by decide +kernel
theorem own_d7_11 : decode prog_52_method_2_code 11 = .ok (.putfield 22, 3) := by decide +kernel
theorem own_d7_14 : decode prog_52_method_2_code 14 = .ok (.return_, 1) := by decide +kernel
theorem own_ef7 (m : MethodId) (a0 : Addr) (p1 : Int32) (a2 : Addr) : entryFrame m #[(.ref a0), (.int p1), (.ref a2)] 3 = mkF m 0 #[.val (.ref a0), .val (.int p1), .val (.ref a2)] [] := by first | (simp [entryFrame, mkF, argsToLocals, Value.category, maxLocals]; done) | rfl
abbrev RM7 : Room := ({ frames := 1, cells := 0, slots := 0, locals := 12 } : Room)
abbrev kC7 : Nat := 0
abbrev kS7 : Nat := 0
def Q7 (Z : State) (a0 : Addr) (p1 : Int32) (a2 : Addr) (h0 : Heap) (n0 : Nat) (v : Option Value) (h : Heap) (L : List Loc) : Prop := v = none ∧ Fr n0 L ∧ Keep h0 h [a0] ∧ Exa Z h a0 "com/example/vigilant_schema/vigilantschema/Node$BooleanNode" ∧ Fld Z h a0 "com/example/vigilant_schema/vigilantschema/Node$BooleanNode" "value" "Z" (.int (nar .boolean p1)) ∧ Fld Z h a0 "com/example/vigilant_schema/vigilantschema/Node$BooleanNode" "written" "Ljava/lang/String;" (.ref a2)
set_option maxRecDepth 65536 in
set_option maxHeartbeats 40000000 in
theorem rm7 (l : Launch) (Z : State) (tA : Array Value) (hw : ∀ d ∈ tables_1, d.before tA Z = true) (ws : List Jvm.Cond) (a0 : Addr) (p1 : Int32) (a2 : Addr) (h0 : Heap) (n0 : Nat) (Z0 : n0 ≤ h0.size) (H0 : Exa Z h0 a0 "com/example/vigilant_schema/vigilantschema/Node$BooleanNode") (H1 : Fld Z h0 a0 "com/example/vigilant_schema/vigilantschema/Node$BooleanNode" "value" "Z" (.int (0 : Int32))) (H2 : Fld Z h0 a0 "com/example/vigilant_schema/vigilantschema/Node$BooleanNode" "written" "Ljava/lang/String;" .null) (g_a0 : n0 ≤ a0) :
    MetFree l (⟨"com/example/vigilant_schema/vigilantschema/Node$BooleanNode", "<init>", "(ZLjava/lang/String;)V"⟩ : MethodName) (head1 (Jvm.Cond.code (⟨"com/example/vigilant_schema/vigilantschema/Node$BooleanNode", "<init>", "(ZLjava/lang/String;)V"⟩ : MethodName) prog_52_method_2_code 3 none :: ws) RM7) (fun a U => a = #[(.ref a0), (.int p1), (.ref a2)] ∧ Z.Warmed39 U.vm ∧ U.heap = h0) (fun _ _ _ _ _ => True) (fun _ U o U' => ∃ v L, o = .returned v ∧ Q7 Z a0 p1 a2 h0 n0 v U'.heap L ∧ FrameEnd U o U' L RM7.cells RM7.slots) := by
  refine MetFree.of_bodySF (plainFor_of_name own_pn0) hisR ?_
  intro p e s m args below meth c s₁ Bd hml0 hP hK
  obtain ⟨rfl, hZ, hh⟩ := hP
  have hx := Bd.exec
  have hby := Bd.bytes
  have hml : c.maxLocals = 3 := hml0
  have hown : s.vm.findClass "com/example/vigilant_schema/vigilantschema/Node$BooleanNode" = some m.cls := findClass_of_methodNamed Bd.named
  have hnm := (name_of_methodNamed Bd.named Bd.method).1
  have X0 : Stand p l e RM7 s m #[(.ref a0), (.int p1), (.ref a2)] below meth c s₁ [] 0 0 := Stand.of_body Bd
  have e0 : s₁.heap = h0 := by rw [← hh, Bd.state]; rfl
  have N0 := Fr.nil n0
  show Goes p e below s (Q7 Z a0 p1 a2 h0 n0) kC7 kS7 (s₁.setTop (entryFrame m #[(.ref a0), (.int p1), (.ref a2)] 3))
  refine Goes.step (fun t k => castTop (own_ef7 m a0 p1 a2) k) ?_
  show Goes _ _ _ _ _ _ _ (s₁.setTop (mkF m 0 #[.val (.ref a0), .val (.int p1), .val (.ref a2)] []))
  refine Goes.step (fun t k => XS.aloadN X0.here hx rfl (hb hby own_d7_0) rfl rfl k) ?_
  show Goes _ _ _ _ _ _ _ (s₁.setTop (mkF m 1 #[.val (.ref a0), .val (.int p1), .val (.ref a2)] [(.ref a0)]))
  obtain ⟨T1, X1, e1, st1⟩ := initO X0 hx hZ hown (hw _ (List.mem_of_getElem? (i := 36) rfl)) (hw _ (List.mem_of_getElem? (i := 12) rfl)) (hw _ (List.mem_of_getElem? (i := 13) rfl)) e0 (g := (mkF m 1 #[.val (.ref a0), .val (.int p1), .val (.ref a2)] [(.ref a0)])) rfl (by rw [hml]; rfl) rfl (hb hby own_d7_1) (by decide) (W := 0) (by show 2 * 0 + _ ≤ _; exact Nat.le_of_eq rfl) (by decide)
  refine Goes.step (fun t k => st1 t k) ?_
  show Goes _ _ _ _ _ _ _ (T1.setTop (mkF m 4 #[.val (.ref a0), .val (.int p1), .val (.ref a2)] []))
  refine Goes.step (fun t k => XS.aloadN X1.here hx rfl (hb hby own_d7_4) rfl rfl k) ?_
  show Goes _ _ _ _ _ _ _ (T1.setTop (mkF m 5 #[.val (.ref a0), .val (.int p1), .val (.ref a2)] [(.ref a0)]))
  refine Goes.step (fun t k => XS.iloadN X1.here hx rfl (hb hby own_d7_5) rfl k) ?_
  show Goes _ _ _ _ _ _ _ (T1.setTop (mkF m 6 #[.val (.ref a0), .val (.int p1), .val (.ref a2)] [(.int p1), (.ref a0)]))
  obtain ⟨T2, h2, X2, e2, W2, st2⟩ := putFN X1 hx hZ hown (hw _ (List.mem_of_getElem? (i := 37) rfl)) Via.refl e1 H1 H0 (Or.inr ⟨(hw _ (List.mem_of_getElem? (i := 38) rfl)), rfl, hnm⟩) (hw _ (List.mem_of_getElem? (i := 31) rfl)) (ty := .boolean) (v' := (.int (nar .boolean p1))) (by decide) rfl (fits_nar_bool _) (g := (mkF m 6 #[.val (.ref a0), .val (.int p1), .val (.ref a2)] [(.int p1), (.ref a0)])) rfl rfl (hb hby own_d7_6)
  have Fw2 := H1.same W2
  have F3 := H0.wr W2
  have F4 := H2.other W2 (Or.inr (slot_ne (Or.inr (hw _ (List.mem_of_getElem? (i := 40) rfl))) (Or.inr (hw _ (List.mem_of_getElem? (i := 38) rfl))) (by decide) (t := (.object "java/lang/String")) (t' := .boolean) (by decide) (by decide)))
  have K2 := (Keep.refl h0 [a0]).wr W2 (Or.inl (List.mem_of_getElem? (i := 0) rfl))
  have N2 := Fr.snoc X2 N0 g_a0
  have Z2 := Nat.le_trans Z0 (Nat.le_of_eq W2.size.symm)
  refine Goes.step (fun t k => st2 t k) ?_
  show Goes _ _ _ _ _ _ _ (T2.setTop (mkF m 9 #[.val (.ref a0), .val (.int p1), .val (.ref a2)] []))
  refine Goes.step (fun t k => XS.aloadN X2.here hx rfl (hb hby own_d7_9) rfl rfl k) ?_
  show Goes _ _ _ _ _ _ _ (T2.setTop (mkF m 10 #[.val (.ref a0), .val (.int p1), .val (.ref a2)] [(.ref a0)]))
  refine Goes.step (fun t k => XS.aloadN X2.here hx rfl (hb hby own_d7_10) rfl rfl k) ?_
  show Goes _ _ _ _ _ _ _ (T2.setTop (mkF m 11 #[.val (.ref a0), .val (.int p1), .val (.ref a2)] [(.ref a2), (.ref a0)]))
  obtain ⟨T5, h5, X5, e5, W5, st5⟩ := putF X2 hx hZ hown (host := "") (Or.inl (hw _ (List.mem_of_getElem? (i := 39) rfl))) Via.refl e2 F4 F3 (Or.inr ⟨(hw _ (List.mem_of_getElem? (i := 40) rfl)), rfl, hnm⟩) (hw _ (List.mem_of_getElem? (i := 31) rfl)) (ty := (.object "java/lang/String")) (by decide) rfl rfl (g := (mkF m 11 #[.val (.ref a0), .val (.int p1), .val (.ref a2)] [(.ref a2), (.ref a0)])) rfl rfl (hb hby own_d7_11)
  have Fw5 := F4.same W5
  have F6 := F3.wr W5
  have F7 := Fw2.other W5 (Or.inr (slot_ne (Or.inr (hw _ (List.mem_of_getElem? (i := 38) rfl))) (Or.inr (hw _ (List.mem_of_getElem? (i := 40) rfl))) (by decide) (t := .boolean) (t' := (.object "java/lang/String")) (by decide) (by decide)))
  have K5 := K2.wr W5 (Or.inl (List.mem_of_getElem? (i := 0) rfl))
  have N5 := Fr.snoc X5 N2 g_a0
  have Z5 := Nat.le_trans Z2 (Nat.le_of_eq W5.size.symm)
  refine Goes.step (fun t k => st5 t k) ?_
  show Goes _ _ _ _ _ _ _ (T5.setTop (mkF m 14 #[.val (.ref a0), .val (.int p1), .val (.ref a2)] []))
  exact Goes.retV X5 hx Bd.notSynchronized Bd.returns (hb hby own_d7_14) (by rw [e5]; exact ⟨rfl, N5, K5, F6, F7, Fw5⟩) (by decide) (by decide)
theorem own_d9_0 : decode prog_57_method_2_code 0 = .ok (.aload_n 0, 1) := by decide +kernel
theorem own_d9_1 : decode prog_57_method_2_code 1 = .ok (.invokespecial 9, 3) := by decide +kernel
theorem own_d9_4 : decode prog_57_method_2_code 4 = .ok (.aload_n 0, 1) := by decide +kernel
theorem own_d9_5 : decode prog_57_method_2_code 5 = .ok (.aload_n 1, 1) := by decide +kernel
theorem own_d9_6 : decode prog_57_method_2_code 6 = .ok (.putfield 14, 3) := by decide +kernel
theorem own_d9_9 : decode prog_57_method_2_code 9 = .ok (.return_, 1) := by decide +kernel
theorem own_ef9 (m : MethodId) (a0 : Addr) (a1 : Addr) : entryFrame m #[(.ref a0), (.ref a1)] 2 = mkF m 0 #[.val (.ref a0), .val (.ref a1)] [] := by first | (simp [entryFrame, mkF, argsToLocals, Value.category, maxLocals]; done) | rfl
abbrev RM9 : Room := ({ frames := 1, cells := 0, slots := 0, locals := 12 } : Room)
abbrev kC9 : Nat := 0
abbrev kS9 : Nat := 0
def Q9 (Z : State) (a0 : Addr) (a1 : Addr) (h0 : Heap) (n0 : Nat) (v : Option Value) (h : Heap) (L : List Loc) : Prop := v = none ∧ Fr n0 L ∧ Keep h0 h [a0] ∧ Exa Z h a0 "com/example/vigilant_schema/vigilantschema/Node$NullNode" ∧ Fld Z h a0 "com/example/vigilant_schema/vigilantschema/Node$NullNode" "written" "Ljava/lang/String;" (.ref a1)
set_option maxRecDepth 65536 in
set_option maxHeartbeats 40000000 in
theorem rm9 (l : Launch) (Z : State) (tA : Array Value) (hw : ∀ d ∈ tables_1, d.before tA Z = true) (ws : List Jvm.Cond) (a0 : Addr) (a1 : Addr) (h0 : Heap) (n0 : Nat) (Z0 : n0 ≤ h0.size) (H0 : Exa Z h0 a0 "com/example/vigilant_schema/vigilantschema/Node$NullNode") (H1 : Fld Z h0 a0 "com/example/vigilant_schema/vigilantschema/Node$NullNode" "written" "Ljava/lang/String;" .null) (g_a0 : n0 ≤ a0) :
    MetFree l (⟨"com/example/vigilant_schema/vigilantschema/Node$NullNode", "<init>", "(Ljava/lang/String;)V"⟩ : MethodName) (head1 (Jvm.Cond.code (⟨"com/example/vigilant_schema/vigilantschema/Node$NullNode", "<init>", "(Ljava/lang/String;)V"⟩ : MethodName) prog_57_method_2_code 2 none :: ws) RM9) (fun a U => a = #[(.ref a0), (.ref a1)] ∧ Z.Warmed39 U.vm ∧ U.heap = h0) (fun _ _ _ _ _ => True) (fun _ U o U' => ∃ v L, o = .returned v ∧ Q9 Z a0 a1 h0 n0 v U'.heap L ∧ FrameEnd U o U' L RM9.cells RM9.slots) := by
  refine MetFree.of_bodySF (plainFor_of_name own_pn1) hisR ?_
  intro p e s m args below meth c s₁ Bd hml0 hP hK
  obtain ⟨rfl, hZ, hh⟩ := hP
  have hx := Bd.exec
  have hby := Bd.bytes
  have hml : c.maxLocals = 2 := hml0
  have hown : s.vm.findClass "com/example/vigilant_schema/vigilantschema/Node$NullNode" = some m.cls := findClass_of_methodNamed Bd.named
  have hnm := (name_of_methodNamed Bd.named Bd.method).1
  have X0 : Stand p l e RM9 s m #[(.ref a0), (.ref a1)] below meth c s₁ [] 0 0 := Stand.of_body Bd
  have e0 : s₁.heap = h0 := by rw [← hh, Bd.state]; rfl
  have N0 := Fr.nil n0
  show Goes p e below s (Q9 Z a0 a1 h0 n0) kC9 kS9 (s₁.setTop (entryFrame m #[(.ref a0), (.ref a1)] 2))
  refine Goes.step (fun t k => castTop (own_ef9 m a0 a1) k) ?_
  show Goes _ _ _ _ _ _ _ (s₁.setTop (mkF m 0 #[.val (.ref a0), .val (.ref a1)] []))
  refine Goes.step (fun t k => XS.aloadN X0.here hx rfl (hb hby own_d9_0) rfl rfl k) ?_
  show Goes _ _ _ _ _ _ _ (s₁.setTop (mkF m 1 #[.val (.ref a0), .val (.ref a1)] [(.ref a0)]))
  obtain ⟨T1, X1, e1, st1⟩ := initO X0 hx hZ hown (hw _ (List.mem_of_getElem? (i := 56) rfl)) (hw _ (List.mem_of_getElem? (i := 12) rfl)) (hw _ (List.mem_of_getElem? (i := 13) rfl)) e0 (g := (mkF m 1 #[.val (.ref a0), .val (.ref a1)] [(.ref a0)])) rfl (by rw [hml]; rfl) rfl (hb hby own_d9_1) (by decide) (W := 0) (by show 2 * 0 + _ ≤ _; exact Nat.le_of_eq rfl) (by decide)
  refine Goes.step (fun t k => st1 t k) ?_
  show Goes _ _ _ _ _ _ _ (T1.setTop (mkF m 4 #[.val (.ref a0), .val (.ref a1)] []))
  refine Goes.step (fun t k => XS.aloadN X1.here hx rfl (hb hby own_d9_4) rfl rfl k) ?_
  show Goes _ _ _ _ _ _ _ (T1.setTop (mkF m 5 #[.val (.ref a0), .val (.ref a1)] [(.ref a0)]))
  refine Goes.step (fun t k => XS.aloadN X1.here hx rfl (hb hby own_d9_5) rfl rfl k) ?_
  show Goes _ _ _ _ _ _ _ (T1.setTop (mkF m 6 #[.val (.ref a0), .val (.ref a1)] [(.ref a1), (.ref a0)]))
  obtain ⟨T2, h2, X2, e2, W2, st2⟩ := putF X1 hx hZ hown (host := "") (Or.inl (hw _ (List.mem_of_getElem? (i := 57) rfl))) Via.refl e1 H1 H0 (Or.inr ⟨(hw _ (List.mem_of_getElem? (i := 58) rfl)), rfl, hnm⟩) (hw _ (List.mem_of_getElem? (i := 51) rfl)) (ty := (.object "java/lang/String")) (by decide) rfl rfl (g := (mkF m 6 #[.val (.ref a0), .val (.ref a1)] [(.ref a1), (.ref a0)])) rfl rfl (hb hby own_d9_6)
  have Fw2 := H1.same W2
  have F3 := H0.wr W2
  have K2 := (Keep.refl h0 [a0]).wr W2 (Or.inl (List.mem_of_getElem? (i := 0) rfl))
  have N2 := Fr.snoc X2 N0 g_a0
  have Z2 := Nat.le_trans Z0 (Nat.le_of_eq W2.size.symm)
  refine Goes.step (fun t k => st2 t k) ?_
  show Goes _ _ _ _ _ _ _ (T2.setTop (mkF m 9 #[.val (.ref a0), .val (.ref a1)] []))
  exact Goes.retV X2 hx Bd.notSynchronized Bd.returns (hb hby own_d9_9) (by rw [e2]; exact ⟨rfl, N2, K2, F3, Fw2⟩) (by decide) (by decide)
def f8B (wB : Int32) (wA : Int32) : Int32 := (nar .boolean (if wB = wA then (1 : Int32) else (0 : Int32)))
theorem own_d8_0 : decode prog_52_method_8_code 0 = .ok (.aload_n 1, 1) := by decide +kernel
theorem own_d8_1 : decode prog_52_method_8_code 1 = .ok (.instanceof 8, 3) := by decide +kernel
theorem own_d8_4 : decode prog_52_method_8_code 4 = .ok (.ifCond .eq 23, 3) := by decide +kernel
theorem own_d8_7 : decode prog_52_method_8_code 7 = .ok (.aload_n 1, 1) := by decide +kernel
theorem own_d8_8 : decode prog_52_method_8_code 8 = .ok (.checkcast 8, 3) := by decide +kernel
theorem own_d8_11 : decode prog_52_method_8_code 11 = .ok (.astore_n 2, 1) := by decide +kernel
theorem own_d8_12 : decode prog_52_method_8_code 12 = .ok (.aload_n 2, 1) := by decide +kernel
theorem own_d8_13 : decode prog_52_method_8_code 13 = .ok (.getfield 18, 3) := by decide +kernel
theorem own_d8_16 : decode prog_52_method_8_code 16 = .ok (.aload_n 0, 1) := by decide +kernel
theorem own_d8_17 : decode prog_52_method_8_code 17 = .ok (.getfield 18, 3) := by decide +kernel
theorem own_d8_20 : decode prog_52_method_8_code 20 = .ok (.if_icmp .ne 7, 3) := by decide +kernel
theorem own_d8_23 : decode prog_52_method_8_code 23 = .ok (.iconst 1, 1) := by decide +kernel
theorem own_d8_24 : decode prog_52_method_8_code 24 = .ok (.goto 4, 3) := by decide +kernel
theorem own_d8_27 : decode prog_52_method_8_code 27 = .ok (.iconst 0, 1) := by decide +kernel
theorem own_d8_28 : decode prog_52_method_8_code 28 = .ok (.ireturn, 1) := by decide +kernel
theorem own_ef8B (m : MethodId) (a0 : Addr) (a1 : Addr) : entryFrame m #[(.ref a0), (.ref a1)] 3 = mkF m 0 #[.val (.ref a0), .val (.ref a1), .unset] [] := by first | (simp [entryFrame, mkF, argsToLocals, Value.category, maxLocals]; done) | rfl
abbrev RM8B : Room := ({ frames := 0, cells := 0, slots := 0, locals := 0 } : Room)
abbrev kC8B : Nat := 0
abbrev kS8B : Nat := 0
def Q8B (Z : State) (a0 : Addr) (a1 : Addr) (wB : Int32) (wA : Int32) (h0 : Heap) (v : Option Value) (h : Heap) (L : List Loc) : Prop := v = some (.int (f8B wB wA)) ∧ L = [] ∧ h = h0
set_option maxRecDepth 65536 in
set_option maxHeartbeats 40000000 in
theorem rm8B (l : Launch) (Z : State) (tA : Array Value) (hw : ∀ d ∈ tables_1, d.before tA Z = true) (ws : List Jvm.Cond) (a0 : Addr) (a1 : Addr) (wB : Int32) (wA : Int32) (h0 : Heap) (H0 : Exa Z h0 a1 "com/example/vigilant_schema/vigilantschema/Node$BooleanNode") (H1 : Fld Z h0 a1 "com/example/vigilant_schema/vigilantschema/Node$BooleanNode" "value" "Z" (.int wB)) (H2 : Fld Z h0 a0 "com/example/vigilant_schema/vigilantschema/Node$BooleanNode" "value" "Z" (.int wA)) :
    MetFree l (⟨"com/example/vigilant_schema/vigilantschema/Node$BooleanNode", "equals", "(Ljava/lang/Object;)Z"⟩ : MethodName) (head1 (Jvm.Cond.code (⟨"com/example/vigilant_schema/vigilantschema/Node$BooleanNode", "equals", "(Ljava/lang/Object;)Z"⟩ : MethodName) prog_52_method_8_code 3 (some .boolean) :: ws) RM8B) (fun a U => a = #[(.ref a0), (.ref a1)] ∧ Z.Warmed39 U.vm ∧ U.heap = h0) (fun _ _ _ _ _ => True) (fun _ U o U' => ∃ v L, o = .returned v ∧ Q8B Z a0 a1 wB wA h0 v U'.heap L ∧ FrameEnd U o U' L RM8B.cells RM8B.slots) := by
  refine MetFree.of_bodySF (plainFor_of_name own_pn0) hisR ?_
  intro p e s m args below meth c s₁ Bd hml0 hP hK
  obtain ⟨rfl, hZ, hh⟩ := hP
  have hx := Bd.exec
  have hby := Bd.bytes
  have hml : c.maxLocals = 3 := hml0
  have hown : s.vm.findClass "com/example/vigilant_schema/vigilantschema/Node$BooleanNode" = some m.cls := findClass_of_methodNamed Bd.named
  have hnm := (name_of_methodNamed Bd.named Bd.method).1
  have X0 : Stand p l e RM8B s m #[(.ref a0), (.ref a1)] below meth c s₁ [] 0 0 := Stand.of_body Bd
  have e0 : s₁.heap = h0 := by rw [← hh, Bd.state]; rfl
  show Goes p e below s (Q8B Z a0 a1 wB wA h0) kC8B kS8B (s₁.setTop (entryFrame m #[(.ref a0), (.ref a1)] 3))
  refine Goes.step (fun t k => castTop (own_ef8B m a0 a1) k) ?_
  show Goes _ _ _ _ _ _ _ (s₁.setTop (mkF m 0 #[.val (.ref a0), .val (.ref a1), .unset] []))
  refine Goes.step (fun t k => XS.aloadN X0.here hx rfl (hb hby own_d8_0) rfl rfl k) ?_
  show Goes _ _ _ _ _ _ _ (s₁.setTop (mkF m 1 #[.val (.ref a0), .val (.ref a1), .unset] [(.ref a1)]))
  obtain ⟨T1, X1, e1, st1⟩ := instY X0 hx hZ hown (hw _ (List.mem_of_getElem? (i := 46) rfl)) e0 (Ins.self H0) (g := (mkF m 1 #[.val (.ref a0), .val (.ref a1), .unset] [(.ref a1)])) rfl rfl (hb hby own_d8_1)
  refine Goes.step (fun t k => st1 t k) ?_
  show Goes _ _ _ _ _ _ _ (T1.setTop (mkF m 4 #[.val (.ref a0), .val (.ref a1), .unset] [(.int (1 : Int32))]))
  refine Goes.step (fun t k => XS.ifNo X1.here hx rfl (hb hby own_d8_4) rfl ((if0 _ _).trans (feq (by decide)).1) k) ?_
  show Goes _ _ _ _ _ _ _ (T1.setTop (mkF m 7 #[.val (.ref a0), .val (.ref a1), .unset] []))
  refine Goes.step (fun t k => XS.aloadN X1.here hx rfl (hb hby own_d8_7) rfl rfl k) ?_
  show Goes _ _ _ _ _ _ _ (T1.setTop (mkF m 8 #[.val (.ref a0), .val (.ref a1), .unset] [(.ref a1)]))
  obtain ⟨T3, X3, e3, st3⟩ := castY X1 hx hZ hown (hw _ (List.mem_of_getElem? (i := 46) rfl)) e1 (Ins.self H0) (g := (mkF m 8 #[.val (.ref a0), .val (.ref a1), .unset] [(.ref a1)])) rfl rfl (hb hby own_d8_8)
  refine Goes.step (fun t k => st3 t k) ?_
  show Goes _ _ _ _ _ _ _ (T3.setTop (mkF m 11 #[.val (.ref a0), .val (.ref a1), .unset] [(.ref a1)]))
  refine Goes.step (fun t k => XS.astoreN X3.here hx rfl (hb hby own_d8_11) rfl rfl (l' := #[.val (.ref a0), .val (.ref a1), .val (.ref a1)]) rfl k) ?_
  show Goes _ _ _ _ _ _ _ (T3.setTop (mkF m 12 #[.val (.ref a0), .val (.ref a1), .val (.ref a1)] []))
  refine Goes.step (fun t k => XS.aloadN X3.here hx rfl (hb hby own_d8_12) rfl rfl k) ?_
  show Goes _ _ _ _ _ _ _ (T3.setTop (mkF m 13 #[.val (.ref a0), .val (.ref a1), .val (.ref a1)] [(.ref a1)]))
  obtain ⟨T4, X4, e4, st4⟩ := getF X3 hx hZ hown (host := "") (Or.inl (hw _ (List.mem_of_getElem? (i := 37) rfl))) Via.refl e3 H1 (g := (mkF m 13 #[.val (.ref a0), .val (.ref a1), .val (.ref a1)] [(.ref a1)])) rfl rfl (hb hby own_d8_13)
  refine Goes.step (fun t k => st4 t k) ?_
  show Goes _ _ _ _ _ _ _ (T4.setTop (mkF m 16 #[.val (.ref a0), .val (.ref a1), .val (.ref a1)] [(.int wB)]))
  refine Goes.step (fun t k => XS.aloadN X4.here hx rfl (hb hby own_d8_16) rfl rfl k) ?_
  show Goes _ _ _ _ _ _ _ (T4.setTop (mkF m 17 #[.val (.ref a0), .val (.ref a1), .val (.ref a1)] [(.ref a0), (.int wB)]))
  obtain ⟨T5, X5, e5, st5⟩ := getF X4 hx hZ hown (host := "") (Or.inl (hw _ (List.mem_of_getElem? (i := 37) rfl))) Via.refl e4 H2 (g := (mkF m 17 #[.val (.ref a0), .val (.ref a1), .val (.ref a1)] [(.ref a0), (.int wB)])) rfl rfl (hb hby own_d8_17)
  refine Goes.step (fun t k => st5 t k) ?_
  show Goes _ _ _ _ _ _ _ (T5.setTop (mkF m 20 #[.val (.ref a0), .val (.ref a1), .val (.ref a1)] [(.int wA), (.int wB)]))
  suffices k7 : ∀ (x7_0 : Int32), x7_0 = (if wB = wA then (1 : Int32) else (0 : Int32)) → Goes p e below s (Q8B Z a0 a1 wB wA h0) kC8B kS8B (T5.setTop (mkF m 28 #[.val (.ref a0), .val (.ref a1), .val (.ref a1)] [(.int x7_0)])) by
    by_cases hc20_6 : wB = wA
    · refine Goes.step (fun t k => XS.icmpNo X5.here hx rfl (hb hby own_d8_20) rfl (teq hc20_6).2 k) ?_
      show Goes _ _ _ _ _ _ _ (T5.setTop (mkF m 23 #[.val (.ref a0), .val (.ref a1), .val (.ref a1)] []))
      refine Goes.step (fun t k => XS.iconst X5.here hx rfl (hb hby own_d8_23) k) ?_
      show Goes _ _ _ _ _ _ _ (T5.setTop (mkF m 24 #[.val (.ref a0), .val (.ref a1), .val (.ref a1)] [(.int (1 : Int32))]))
      refine Goes.step (fun t k => XS.goto X5.here hx rfl (pc0 := 24) (pc' := 28) rfl (hb hby own_d8_24) (by decide) (by decide) k) ?_
      show Goes _ _ _ _ _ _ _ (T5.setTop (mkF m 28 #[.val (.ref a0), .val (.ref a1), .val (.ref a1)] [(.int (1 : Int32))]))
      exact k7 _ (if_pos hc20_6).symm
    · refine Goes.step (fun t k => XS.icmpYes X5.here hx rfl (pc0 := 20) (pc' := 27) rfl (hb hby own_d8_20) rfl (feq hc20_6).2 (by decide) (by decide) k) ?_
      show Goes _ _ _ _ _ _ _ (T5.setTop (mkF m 27 #[.val (.ref a0), .val (.ref a1), .val (.ref a1)] []))
      refine Goes.step (fun t k => XS.iconst X5.here hx rfl (hb hby own_d8_27) k) ?_
      show Goes _ _ _ _ _ _ _ (T5.setTop (mkF m 28 #[.val (.ref a0), .val (.ref a1), .val (.ref a1)] [(.int (0 : Int32))]))
      exact k7 _ (if_neg hc20_6).symm
  intro x7_0 hx7_0
  subst hx7_0
  exact Goes.retZ X5 hx Bd.notSynchronized (r := (f8B wB wA)) Bd.returns (by simp) (hb hby own_d8_28) rfl ⟨rfl, rfl, e5⟩ (by decide) (by decide)
def f8O  : Int32 := (0 : Int32)
theorem own_ef8O (m : MethodId) (a0 : Addr) : entryFrame m #[(.ref a0), .null] 3 = mkF m 0 #[.val (.ref a0), .val .null, .unset] [] := by first | (simp [entryFrame, mkF, argsToLocals, Value.category, maxLocals]; done) | rfl
abbrev RM8O : Room := ({ frames := 0, cells := 0, slots := 0, locals := 0 } : Room)
abbrev kC8O : Nat := 0
abbrev kS8O : Nat := 0
def Q8O (Z : State) (a0 : Addr) (h0 : Heap) (v : Option Value) (h : Heap) (L : List Loc) : Prop := v = some (.int f8O) ∧ L = [] ∧ h = h0
set_option maxRecDepth 65536 in
set_option maxHeartbeats 40000000 in
theorem rm8O (l : Launch) (Z : State) (tA : Array Value) (hw : ∀ d ∈ tables_1, d.before tA Z = true) (ws : List Jvm.Cond) (a0 : Addr) (h0 : Heap)  :
    MetFree l (⟨"com/example/vigilant_schema/vigilantschema/Node$BooleanNode", "equals", "(Ljava/lang/Object;)Z"⟩ : MethodName) (head1 (Jvm.Cond.code (⟨"com/example/vigilant_schema/vigilantschema/Node$BooleanNode", "equals", "(Ljava/lang/Object;)Z"⟩ : MethodName) prog_52_method_8_code 3 (some .boolean) :: ws) RM8O) (fun a U => a = #[(.ref a0), .null] ∧ Z.Warmed39 U.vm ∧ U.heap = h0) (fun _ _ _ _ _ => True) (fun _ U o U' => ∃ v L, o = .returned v ∧ Q8O Z a0 h0 v U'.heap L ∧ FrameEnd U o U' L RM8O.cells RM8O.slots) := by
  refine MetFree.of_bodySF (plainFor_of_name own_pn0) hisR ?_
  intro p e s m args below meth c s₁ Bd hml0 hP hK
  obtain ⟨rfl, hZ, hh⟩ := hP
  have hx := Bd.exec
  have hby := Bd.bytes
  have hml : c.maxLocals = 3 := hml0
  have hown : s.vm.findClass "com/example/vigilant_schema/vigilantschema/Node$BooleanNode" = some m.cls := findClass_of_methodNamed Bd.named
  have hnm := (name_of_methodNamed Bd.named Bd.method).1
  have X0 : Stand p l e RM8O s m #[(.ref a0), .null] below meth c s₁ [] 0 0 := Stand.of_body Bd
  have e0 : s₁.heap = h0 := by rw [← hh, Bd.state]; rfl
  show Goes p e below s (Q8O Z a0 h0) kC8O kS8O (s₁.setTop (entryFrame m #[(.ref a0), .null] 3))
  refine Goes.step (fun t k => castTop (own_ef8O m a0) k) ?_
  show Goes _ _ _ _ _ _ _ (s₁.setTop (mkF m 0 #[.val (.ref a0), .val .null, .unset] []))
  refine Goes.step (fun t k => XS.aloadN X0.here hx rfl (hb hby own_d8_0) rfl rfl k) ?_
  show Goes _ _ _ _ _ _ _ (s₁.setTop (mkF m 1 #[.val (.ref a0), .val .null, .unset] [.null]))
  refine Goes.step (fun t k => X0.instanceofNull hx (g := (mkF m 1 #[.val (.ref a0), .val .null, .unset] [.null])) rfl rfl (hb hby own_d8_1) t k) ?_
  show Goes _ _ _ _ _ _ _ (s₁.setTop (mkF m 4 #[.val (.ref a0), .val .null, .unset] [(.int (0 : Int32))]))
  refine Goes.step (fun t k => XS.ifYes X0.here hx rfl (pc0 := 4) (pc' := 27) rfl (hb hby own_d8_4) rfl ((if0 _ _).trans (teq (by decide)).1) (by decide) (by decide) k) ?_
  show Goes _ _ _ _ _ _ _ (s₁.setTop (mkF m 27 #[.val (.ref a0), .val .null, .unset] []))
  refine Goes.step (fun t k => XS.iconst X0.here hx rfl (hb hby own_d8_27) k) ?_
  show Goes _ _ _ _ _ _ _ (s₁.setTop (mkF m 28 #[.val (.ref a0), .val .null, .unset] [(.int (0 : Int32))]))
  exact Goes.retZ X0 hx Bd.notSynchronized (r := f8O) Bd.returns (by simp) (hb hby own_d8_28) rfl ⟨rfl, rfl, e0⟩ (by decide) (by decide)
def f8S  : Int32 := (0 : Int32)
theorem own_ef8S (m : MethodId) (a0 : Addr) (a1 : Addr) : entryFrame m #[(.ref a0), (.ref a1)] 3 = mkF m 0 #[.val (.ref a0), .val (.ref a1), .unset] [] := by first | (simp [entryFrame, mkF, argsToLocals, Value.category, maxLocals]; done) | rfl
abbrev RM8S : Room := ({ frames := 0, cells := 0, slots := 0, locals := 0 } : Room)
abbrev kC8S : Nat := 0
abbrev kS8S : Nat := 0
def Q8S (Z : State) (a0 : Addr) (a1 : Addr) (h0 : Heap) (v : Option Value) (h : Heap) (L : List Loc) : Prop := v = some (.int f8S) ∧ L = [] ∧ h = h0
set_option maxRecDepth 65536 in
set_option maxHeartbeats 40000000 in
theorem rm8S (l : Launch) (Z : State) (tA : Array Value) (hw : ∀ d ∈ tables_1, d.before tA Z = true) (ws : List Jvm.Cond) (a0 : Addr) (a1 : Addr) (h0 : Heap) (H0 : Exa Z h0 a1 "java/lang/String") :
    MetFree l (⟨"com/example/vigilant_schema/vigilantschema/Node$BooleanNode", "equals", "(Ljava/lang/Object;)Z"⟩ : MethodName) (head1 (Jvm.Cond.code (⟨"com/example/vigilant_schema/vigilantschema/Node$BooleanNode", "equals", "(Ljava/lang/Object;)Z"⟩ : MethodName) prog_52_method_8_code 3 (some .boolean) :: ws) RM8S) (fun a U => a = #[(.ref a0), (.ref a1)] ∧ Z.Warmed39 U.vm ∧ U.heap = h0) (fun _ _ _ _ _ => True) (fun _ U o U' => ∃ v L, o = .returned v ∧ Q8S Z a0 a1 h0 v U'.heap L ∧ FrameEnd U o U' L RM8S.cells RM8S.slots) := by
  refine MetFree.of_bodySF (plainFor_of_name own_pn0) hisR ?_
  intro p e s m args below meth c s₁ Bd hml0 hP hK
  obtain ⟨rfl, hZ, hh⟩ := hP
  have hx := Bd.exec
  have hby := Bd.bytes
  have hml : c.maxLocals = 3 := hml0
  have hown : s.vm.findClass "com/example/vigilant_schema/vigilantschema/Node$BooleanNode" = some m.cls := findClass_of_methodNamed Bd.named
  have hnm := (name_of_methodNamed Bd.named Bd.method).1
  have X0 : Stand p l e RM8S s m #[(.ref a0), (.ref a1)] below meth c s₁ [] 0 0 := Stand.of_body Bd
  have e0 : s₁.heap = h0 := by rw [← hh, Bd.state]; rfl
  show Goes p e below s (Q8S Z a0 a1 h0) kC8S kS8S (s₁.setTop (entryFrame m #[(.ref a0), (.ref a1)] 3))
  refine Goes.step (fun t k => castTop (own_ef8S m a0 a1) k) ?_
  show Goes _ _ _ _ _ _ _ (s₁.setTop (mkF m 0 #[.val (.ref a0), .val (.ref a1), .unset] []))
  refine Goes.step (fun t k => XS.aloadN X0.here hx rfl (hb hby own_d8_0) rfl rfl k) ?_
  show Goes _ _ _ _ _ _ _ (s₁.setTop (mkF m 1 #[.val (.ref a0), .val (.ref a1), .unset] [(.ref a1)]))
  obtain ⟨T1, X1, e1, st1⟩ := instNo X0 hx hZ hown (hw _ (List.mem_of_getElem? (i := 46) rfl)) e0 H0 (own_no (hw _ (List.mem_of_getElem? (i := 49) rfl)) (hw _ (List.mem_of_getElem? (i := 48) rfl)) (hw _ (List.mem_of_getElem? (i := 31) rfl)) (by decide) (by decide)) (g := (mkF m 1 #[.val (.ref a0), .val (.ref a1), .unset] [(.ref a1)])) rfl rfl (hb hby own_d8_1)
  refine Goes.step (fun t k => st1 t k) ?_
  show Goes _ _ _ _ _ _ _ (T1.setTop (mkF m 4 #[.val (.ref a0), .val (.ref a1), .unset] [(.int (0 : Int32))]))
  refine Goes.step (fun t k => XS.ifYes X1.here hx rfl (pc0 := 4) (pc' := 27) rfl (hb hby own_d8_4) rfl ((if0 _ _).trans (teq (by decide)).1) (by decide) (by decide) k) ?_
  show Goes _ _ _ _ _ _ _ (T1.setTop (mkF m 27 #[.val (.ref a0), .val (.ref a1), .unset] []))
  refine Goes.step (fun t k => XS.iconst X1.here hx rfl (hb hby own_d8_27) k) ?_
  show Goes _ _ _ _ _ _ _ (T1.setTop (mkF m 28 #[.val (.ref a0), .val (.ref a1), .unset] [(.int (0 : Int32))]))
  exact Goes.retZ X1 hx Bd.notSynchronized (r := f8S) Bd.returns (by simp) (hb hby own_d8_28) rfl ⟨rfl, rfl, e1⟩ (by decide) (by decide)
def f8N  : Int32 := (0 : Int32)
theorem own_ef8N (m : MethodId) (a0 : Addr) (a1 : Addr) : entryFrame m #[(.ref a0), (.ref a1)] 3 = mkF m 0 #[.val (.ref a0), .val (.ref a1), .unset] [] := by first | (simp [entryFrame, mkF, argsToLocals, Value.category, maxLocals]; done) | rfl
abbrev RM8N : Room := ({ frames := 0, cells := 0, slots := 0, locals := 0 } : Room)
abbrev kC8N : Nat := 0
abbrev kS8N : Nat := 0
def Q8N (Z : State) (a0 : Addr) (a1 : Addr) (h0 : Heap) (v : Option Value) (h : Heap) (L : List Loc) : Prop := v = some (.int f8N) ∧ L = [] ∧ h = h0
set_option maxRecDepth 65536 in
set_option maxHeartbeats 40000000 in
theorem rm8N (l : Launch) (Z : State) (tA : Array Value) (hw : ∀ d ∈ tables_1, d.before tA Z = true) (ws : List Jvm.Cond) (a0 : Addr) (a1 : Addr) (h0 : Heap) (H0 : Exa Z h0 a1 "com/example/vigilant_schema/vigilantschema/Node$NullNode") :
    MetFree l (⟨"com/example/vigilant_schema/vigilantschema/Node$BooleanNode", "equals", "(Ljava/lang/Object;)Z"⟩ : MethodName) (head1 (Jvm.Cond.code (⟨"com/example/vigilant_schema/vigilantschema/Node$BooleanNode", "equals", "(Ljava/lang/Object;)Z"⟩ : MethodName) prog_52_method_8_code 3 (some .boolean) :: ws) RM8N) (fun a U => a = #[(.ref a0), (.ref a1)] ∧ Z.Warmed39 U.vm ∧ U.heap = h0) (fun _ _ _ _ _ => True) (fun _ U o U' => ∃ v L, o = .returned v ∧ Q8N Z a0 a1 h0 v U'.heap L ∧ FrameEnd U o U' L RM8N.cells RM8N.slots) := by
  refine MetFree.of_bodySF (plainFor_of_name own_pn0) hisR ?_
  intro p e s m args below meth c s₁ Bd hml0 hP hK
  obtain ⟨rfl, hZ, hh⟩ := hP
  have hx := Bd.exec
  have hby := Bd.bytes
  have hml : c.maxLocals = 3 := hml0
  have hown : s.vm.findClass "com/example/vigilant_schema/vigilantschema/Node$BooleanNode" = some m.cls := findClass_of_methodNamed Bd.named
  have hnm := (name_of_methodNamed Bd.named Bd.method).1
  have X0 : Stand p l e RM8N s m #[(.ref a0), (.ref a1)] below meth c s₁ [] 0 0 := Stand.of_body Bd
  have e0 : s₁.heap = h0 := by rw [← hh, Bd.state]; rfl
  show Goes p e below s (Q8N Z a0 a1 h0) kC8N kS8N (s₁.setTop (entryFrame m #[(.ref a0), (.ref a1)] 3))
  refine Goes.step (fun t k => castTop (own_ef8N m a0 a1) k) ?_
  show Goes _ _ _ _ _ _ _ (s₁.setTop (mkF m 0 #[.val (.ref a0), .val (.ref a1), .unset] []))
  refine Goes.step (fun t k => XS.aloadN X0.here hx rfl (hb hby own_d8_0) rfl rfl k) ?_
  show Goes _ _ _ _ _ _ _ (s₁.setTop (mkF m 1 #[.val (.ref a0), .val (.ref a1), .unset] [(.ref a1)]))
  obtain ⟨T1, X1, e1, st1⟩ := instNo X0 hx hZ hown (hw _ (List.mem_of_getElem? (i := 46) rfl)) e0 H0 (own_no (hw _ (List.mem_of_getElem? (i := 49) rfl)) (hw _ (List.mem_of_getElem? (i := 59) rfl)) (hw _ (List.mem_of_getElem? (i := 31) rfl)) (by decide) (by decide)) (g := (mkF m 1 #[.val (.ref a0), .val (.ref a1), .unset] [(.ref a1)])) rfl rfl (hb hby own_d8_1)
  refine Goes.step (fun t k => st1 t k) ?_
  show Goes _ _ _ _ _ _ _ (T1.setTop (mkF m 4 #[.val (.ref a0), .val (.ref a1), .unset] [(.int (0 : Int32))]))
  refine Goes.step (fun t k => XS.ifYes X1.here hx rfl (pc0 := 4) (pc' := 27) rfl (hb hby own_d8_4) rfl ((if0 _ _).trans (teq (by decide)).1) (by decide) (by decide) k) ?_
  show Goes _ _ _ _ _ _ _ (T1.setTop (mkF m 27 #[.val (.ref a0), .val (.ref a1), .unset] []))
  refine Goes.step (fun t k => XS.iconst X1.here hx rfl (hb hby own_d8_27) k) ?_
  show Goes _ _ _ _ _ _ _ (T1.setTop (mkF m 28 #[.val (.ref a0), .val (.ref a1), .unset] [(.int (0 : Int32))]))
  exact Goes.retZ X1 hx Bd.notSynchronized (r := f8N) Bd.returns (by simp) (hb hby own_d8_28) rfl ⟨rfl, rfl, e1⟩ (by decide) (by decide)
set_option maxRecDepth 65536 in
set_option maxHeartbeats 4000000 in
theorem own_plain (p0 : Int32) (x2_0 : Int32) (x4_0 : Int32) (x66_0 : Int32) (x69_0 : Int32) (y71 : Int32) (x76_0 : Int32) (hx2_0 : x2_0 = (if (p0 &&& (1 : Int32)) = (0 : Int32) then (0 : Int32) else (1 : Int32))) (hx4_0 : x4_0 = (if (p0 &&& (2 : Int32)) = (0 : Int32) then (0 : Int32) else (1 : Int32))) (hx66_0 : x66_0 = (if x2_0 = x4_0 then (1 : Int32) else (0 : Int32))) (hx69_0 : x69_0 = (if (f8B (nar .boolean x2_0) (nar .boolean x4_0)) = x66_0 then (1 : Int32) else (0 : Int32))) (hy71 : (f8B (nar .boolean x2_0) (nar .boolean x2_0)) = y71) (hx76_0 : x76_0 = (if y71 = (0 : Int32) then (0 : Int32) else (if x69_0 = (0 : Int32) then (0 : Int32) else (if (f8B (nar .boolean x4_0) (nar .boolean x2_0)) = x66_0 then (1 : Int32) else (0 : Int32))))) : nar .boolean x76_0 = (1 : Int32) := by
  subst_vars
  by_cases h1 : (p0 &&& (1 : Int32)) = (0 : Int32) <;> by_cases h2 : (p0 &&& (2 : Int32)) = (0 : Int32) <;> simp only [h1, h2, if_true, if_false] <;> decide
set_option maxRecDepth 65536 in
set_option maxHeartbeats 4000000 in
theorem own_plain_2 (p0 : Int32) (x2_0 : Int32) (y118 : Int32) (x123_0 : Int32) (hx2_0 : x2_0 = (if (p0 &&& (1 : Int32)) = (0 : Int32) then (0 : Int32) else (1 : Int32))) (hy118 : (f8B (nar .boolean x2_0) (nar .boolean x2_0)) = y118) (hx123_0 : x123_0 = (if y118 = (0 : Int32) then (0 : Int32) else (if f8O = (0 : Int32) then (1 : Int32) else (0 : Int32)))) : nar .boolean x123_0 = (1 : Int32) := by
  subst_vars
  by_cases h1 : (p0 &&& (1 : Int32)) = (0 : Int32) <;> by_cases h2 : (p0 &&& (2 : Int32)) = (0 : Int32) <;> simp only [h1, h2, if_true, if_false] <;> decide
set_option maxRecDepth 65536 in
set_option maxHeartbeats 4000000 in
theorem own_plain_3 (p0 : Int32) (x2_0 : Int32) (y166 : Int32) (x171_0 : Int32) (hx2_0 : x2_0 = (if (p0 &&& (1 : Int32)) = (0 : Int32) then (0 : Int32) else (1 : Int32))) (hy166 : (f8B (nar .boolean x2_0) (nar .boolean x2_0)) = y166) (hx171_0 : x171_0 = (if y166 = (0 : Int32) then (0 : Int32) else (if f8S = (0 : Int32) then (1 : Int32) else (0 : Int32)))) : nar .boolean x171_0 = (1 : Int32) := by
  subst_vars
  by_cases h1 : (p0 &&& (1 : Int32)) = (0 : Int32) <;> by_cases h2 : (p0 &&& (2 : Int32)) = (0 : Int32) <;> simp only [h1, h2, if_true, if_false] <;> decide
set_option maxRecDepth 65536 in
set_option maxHeartbeats 4000000 in
theorem own_plain_4 (p0 : Int32) (x2_0 : Int32) (y231 : Int32) (x236_0 : Int32) (hx2_0 : x2_0 = (if (p0 &&& (1 : Int32)) = (0 : Int32) then (0 : Int32) else (1 : Int32))) (hy231 : (f8B (nar .boolean x2_0) (nar .boolean x2_0)) = y231) (hx236_0 : x236_0 = (if y231 = (0 : Int32) then (0 : Int32) else (if f8N = (0 : Int32) then (1 : Int32) else (0 : Int32)))) : nar .boolean x236_0 = (1 : Int32) := by
  subst_vars
  by_cases h1 : (p0 &&& (1 : Int32)) = (0 : Int32) <;> by_cases h2 : (p0 &&& (2 : Int32)) = (0 : Int32) <;> simp only [h1, h2, if_true, if_false] <;> decide
set_option maxRecDepth 65536 in
set_option maxHeartbeats 4000000 in
theorem own_plain_5 (p0 : Int32) (x2_0 : Int32) (x4_0 : Int32) (x311_0 : Int32) (x314_0 : Int32) (y316 : Int32) (x321_0 : Int32) (hx2_0 : x2_0 = (if (p0 &&& (1 : Int32)) = (0 : Int32) then (0 : Int32) else (1 : Int32))) (hx4_0 : x4_0 = (if (p0 &&& (2 : Int32)) = (0 : Int32) then (0 : Int32) else (1 : Int32))) (hx311_0 : x311_0 = (if x2_0 = x4_0 then (1 : Int32) else (0 : Int32))) (hx314_0 : x314_0 = (if (f8B (nar .boolean x2_0) (nar .boolean x4_0)) = x311_0 then (1 : Int32) else (0 : Int32))) (hy316 : (f8B (nar .boolean x2_0) (nar .boolean x2_0)) = y316) (hx321_0 : x321_0 = (if y316 = (0 : Int32) then (0 : Int32) else (if x314_0 = (0 : Int32) then (0 : Int32) else (if (f8B (nar .boolean x4_0) (nar .boolean x2_0)) = x311_0 then (1 : Int32) else (0 : Int32))))) : nar .boolean x321_0 = (1 : Int32) := by
  subst_vars
  by_cases h1 : (p0 &&& (1 : Int32)) = (0 : Int32) <;> by_cases h2 : (p0 &&& (2 : Int32)) = (0 : Int32) <;> simp only [h1, h2, if_true, if_false] <;> decide
set_option maxRecDepth 65536 in
set_option maxHeartbeats 4000000 in
theorem own_plain_6 (p0 : Int32) (x2_0 : Int32) (y377 : Int32) (x382_0 : Int32) (hx2_0 : x2_0 = (if (p0 &&& (1 : Int32)) = (0 : Int32) then (0 : Int32) else (1 : Int32))) (hy377 : (f8B (nar .boolean x2_0) (nar .boolean x2_0)) = y377) (hx382_0 : x382_0 = (if y377 = (0 : Int32) then (0 : Int32) else (if f8O = (0 : Int32) then (1 : Int32) else (0 : Int32)))) : nar .boolean x382_0 = (1 : Int32) := by
  subst_vars
  by_cases h1 : (p0 &&& (1 : Int32)) = (0 : Int32) <;> by_cases h2 : (p0 &&& (2 : Int32)) = (0 : Int32) <;> simp only [h1, h2, if_true, if_false] <;> decide
set_option maxRecDepth 65536 in
set_option maxHeartbeats 4000000 in
theorem own_plain_7 (p0 : Int32) (x2_0 : Int32) (y439 : Int32) (x444_0 : Int32) (hx2_0 : x2_0 = (if (p0 &&& (1 : Int32)) = (0 : Int32) then (0 : Int32) else (1 : Int32))) (hy439 : (f8B (nar .boolean x2_0) (nar .boolean x2_0)) = y439) (hx444_0 : x444_0 = (if y439 = (0 : Int32) then (0 : Int32) else (if f8S = (0 : Int32) then (1 : Int32) else (0 : Int32)))) : nar .boolean x444_0 = (1 : Int32) := by
  subst_vars
  by_cases h1 : (p0 &&& (1 : Int32)) = (0 : Int32) <;> by_cases h2 : (p0 &&& (2 : Int32)) = (0 : Int32) <;> simp only [h1, h2, if_true, if_false] <;> decide
set_option maxRecDepth 65536 in
set_option maxHeartbeats 4000000 in
theorem own_plain_8 (p0 : Int32) (x2_0 : Int32) (y520 : Int32) (x525_0 : Int32) (hx2_0 : x2_0 = (if (p0 &&& (1 : Int32)) = (0 : Int32) then (0 : Int32) else (1 : Int32))) (hy520 : (f8B (nar .boolean x2_0) (nar .boolean x2_0)) = y520) (hx525_0 : x525_0 = (if y520 = (0 : Int32) then (0 : Int32) else (if f8N = (0 : Int32) then (1 : Int32) else (0 : Int32)))) : nar .boolean x525_0 = (1 : Int32) := by
  subst_vars
  by_cases h1 : (p0 &&& (1 : Int32)) = (0 : Int32) <;> by_cases h2 : (p0 &&& (2 : Int32)) = (0 : Int32) <;> simp only [h1, h2, if_true, if_false] <;> decide
theorem own_ef0 (m : MethodId) (p0 : Int32) (p1 : Int32) (p2 : Int32) : entryFrame m #[(.int p0), (.int p1), (.int p2)] maxLocals = mkF m 0 #[.val (.int p0), .val (.int p1), .val (.int p2), .unset, .unset, .unset, .unset, .unset, .unset, .unset, .unset, .unset, .unset, .unset, .unset, .unset] [] := by first | (simp [entryFrame, mkF, argsToLocals, Value.category, maxLocals]; done) | rfl
abbrev kC0 : Nat := 8
abbrev kS0 : Nat := 20
def Q0 (Z : State) (p0 : Int32) (p1 : Int32) (p2 : Int32) (wC : Int32) (h0 : Heap) (n0 : Nat) (v : Option Value) (h : Heap) (L : List Loc) : Prop := v = some (.int 1) ∧ Fr n0 L
set_option maxRecDepth 65536 in
set_option maxHeartbeats 40000000 in
theorem rm0 (l : Launch) (Z : State) (tA : Array Value) (hw : ∀ d ∈ tables_1, d.before tA Z = true) (ws : List Jvm.Cond) (p0 : Int32) (p1 : Int32) (p2 : Int32) (wC : Int32) (h0 : Heap) (n0 : Nat) (Z0 : n0 ≤ h0.size) (S_c : Sta Z h0 "java/lang/String" "COMPACT_STRINGS" "Z" (.int wC)) (P3 : ¬ (wC = (0 : Int32))) :
    MetFree l x (head1 (Jvm.Cond.code x code maxLocals ret :: ws) room_1) (fun a U => a = #[(.int p0), (.int p1), (.int p2)] ∧ Z.Warmed39 U.vm ∧ U.heap = h0) (fun _ _ _ _ _ => True) (fun _ U o U' => ∃ v L, o = .returned v ∧ Q0 Z p0 p1 p2 wC h0 n0 v U'.heap L ∧ FrameEnd U o U' L kC0 kS0) := by
  refine MetFree.of_bodySF (plainFor_of_name own_pn2) hisR ?_
  intro p e s m args below meth c s₁ Bd hml0 hP hK
  obtain ⟨rfl, hZ, hh⟩ := hP
  have hx := Bd.exec
  have hby := Bd.bytes
  have hml : c.maxLocals = 16 := hml0
  have hown : s.vm.findClass "com/example/vigilant_schema/vigilantschema/BooleanNodeEqualsPinLaw" = some m.cls := findClass_of_methodNamed Bd.named
  have hnm := (name_of_methodNamed Bd.named Bd.method).1
  have X0 : Stand p l e room_1 s m #[(.int p0), (.int p1), (.int p2)] below meth c s₁ [] 0 0 := Stand.of_body Bd
  have e0 : s₁.heap = h0 := by rw [← hh, Bd.state]; rfl
  have N0 := Fr.nil n0
  show Goes p e below s (Q0 Z p0 p1 p2 wC h0 n0) kC0 kS0 (s₁.setTop (entryFrame m #[(.int p0), (.int p1), (.int p2)] maxLocals))
  refine Goes.step (fun t k => castTop (own_ef0 m p0 p1 p2) k) ?_
  have hws : ∀ d ∈ StrChars.Road.words, d.before tA Z = true := fun d hd => hw d ((by decide +kernel : ∀ d ∈ StrChars.Road.words, d ∈ tables_1) d hd)
  show Goes _ _ _ _ _ _ _ (s₁.setTop (mkF m 0 #[.val (.int p0), .val (.int p1), .val (.int p2), .unset, .unset, .unset, .unset, .unset, .unset, .unset, .unset, .unset, .unset, .unset, .unset, .unset] []))
  refine Goes.step (fun t k => XS.iloadN X0.here hx rfl (hb hby at_0) rfl k) ?_
  show Goes _ _ _ _ _ _ _ (s₁.setTop (mkF m 1 #[.val (.int p0), .val (.int p1), .val (.int p2), .unset, .unset, .unset, .unset, .unset, .unset, .unset, .unset, .unset, .unset, .unset, .unset, .unset] [(.int p0)]))
  refine Goes.step (fun t k => XS.iconst X0.here hx rfl (hb hby at_1) k) ?_
  show Goes _ _ _ _ _ _ _ (s₁.setTop (mkF m 2 #[.val (.int p0), .val (.int p1), .val (.int p2), .unset, .unset, .unset, .unset, .unset, .unset, .unset, .unset, .unset, .unset, .unset, .unset, .unset] [(.int (1 : Int32)), (.int p0)]))
  refine Goes.step (fun t k => XS.iand X0.here hx rfl (hb hby at_2) rfl k) ?_
  show Goes _ _ _ _ _ _ _ (s₁.setTop (mkF m 3 #[.val (.int p0), .val (.int p1), .val (.int p2), .unset, .unset, .unset, .unset, .unset, .unset, .unset, .unset, .unset, .unset, .unset, .unset, .unset] [(.int (p0 &&& (1 : Int32)))]))
  suffices k2 : ∀ (x2_0 : Int32), x2_0 = (if (p0 &&& (1 : Int32)) = (0 : Int32) then (0 : Int32) else (1 : Int32)) → Goes p e below s (Q0 Z p0 p1 p2 wC h0 n0) kC0 kS0 (s₁.setTop (mkF m 11 #[.val (.int p0), .val (.int p1), .val (.int p2), .unset, .unset, .unset, .unset, .unset, .unset, .unset, .unset, .unset, .unset, .unset, .unset, .unset] [(.int x2_0)])) by
    by_cases hc3_1 : (p0 &&& (1 : Int32)) = (0 : Int32)
    · refine Goes.step (fun t k => XS.ifYes X0.here hx rfl (pc0 := 3) (pc' := 10) rfl (hb hby at_3) rfl ((if0 _ _).trans (teq hc3_1).1) (by decide) (by decide) k) ?_
      show Goes _ _ _ _ _ _ _ (s₁.setTop (mkF m 10 #[.val (.int p0), .val (.int p1), .val (.int p2), .unset, .unset, .unset, .unset, .unset, .unset, .unset, .unset, .unset, .unset, .unset, .unset, .unset] []))
      refine Goes.step (fun t k => XS.iconst X0.here hx rfl (hb hby at_10) k) ?_
      show Goes _ _ _ _ _ _ _ (s₁.setTop (mkF m 11 #[.val (.int p0), .val (.int p1), .val (.int p2), .unset, .unset, .unset, .unset, .unset, .unset, .unset, .unset, .unset, .unset, .unset, .unset, .unset] [(.int (0 : Int32))]))
      exact k2 _ (if_pos hc3_1).symm
    · refine Goes.step (fun t k => XS.ifNo X0.here hx rfl (hb hby at_3) rfl ((if0 _ _).trans (feq hc3_1).1) k) ?_
      show Goes _ _ _ _ _ _ _ (s₁.setTop (mkF m 6 #[.val (.int p0), .val (.int p1), .val (.int p2), .unset, .unset, .unset, .unset, .unset, .unset, .unset, .unset, .unset, .unset, .unset, .unset, .unset] []))
      refine Goes.step (fun t k => XS.iconst X0.here hx rfl (hb hby at_6) k) ?_
      show Goes _ _ _ _ _ _ _ (s₁.setTop (mkF m 7 #[.val (.int p0), .val (.int p1), .val (.int p2), .unset, .unset, .unset, .unset, .unset, .unset, .unset, .unset, .unset, .unset, .unset, .unset, .unset] [(.int (1 : Int32))]))
      refine Goes.step (fun t k => XS.goto X0.here hx rfl (pc0 := 7) (pc' := 11) rfl (hb hby at_7) (by decide) (by decide) k) ?_
      show Goes _ _ _ _ _ _ _ (s₁.setTop (mkF m 11 #[.val (.int p0), .val (.int p1), .val (.int p2), .unset, .unset, .unset, .unset, .unset, .unset, .unset, .unset, .unset, .unset, .unset, .unset, .unset] [(.int (1 : Int32))]))
      exact k2 _ (if_neg hc3_1).symm
  intro x2_0 hx2_0
  refine Goes.step (fun t k => XS.istoreN X0.here hx rfl (hb hby at_11) rfl (l' := #[.val (.int p0), .val (.int p1), .val (.int p2), .val (.int x2_0), .unset, .unset, .unset, .unset, .unset, .unset, .unset, .unset, .unset, .unset, .unset, .unset]) rfl k) ?_
  show Goes _ _ _ _ _ _ _ (s₁.setTop (mkF m 12 #[.val (.int p0), .val (.int p1), .val (.int p2), .val (.int x2_0), .unset, .unset, .unset, .unset, .unset, .unset, .unset, .unset, .unset, .unset, .unset, .unset] []))
  refine Goes.step (fun t k => XS.iloadN X0.here hx rfl (hb hby at_12) rfl k) ?_
  show Goes _ _ _ _ _ _ _ (s₁.setTop (mkF m 13 #[.val (.int p0), .val (.int p1), .val (.int p2), .val (.int x2_0), .unset, .unset, .unset, .unset, .unset, .unset, .unset, .unset, .unset, .unset, .unset, .unset] [(.int p0)]))
  refine Goes.step (fun t k => XS.iconst X0.here hx rfl (hb hby at_13) k) ?_
  show Goes _ _ _ _ _ _ _ (s₁.setTop (mkF m 14 #[.val (.int p0), .val (.int p1), .val (.int p2), .val (.int x2_0), .unset, .unset, .unset, .unset, .unset, .unset, .unset, .unset, .unset, .unset, .unset, .unset] [(.int (2 : Int32)), (.int p0)]))
  refine Goes.step (fun t k => XS.iand X0.here hx rfl (hb hby at_14) rfl k) ?_
  show Goes _ _ _ _ _ _ _ (s₁.setTop (mkF m 15 #[.val (.int p0), .val (.int p1), .val (.int p2), .val (.int x2_0), .unset, .unset, .unset, .unset, .unset, .unset, .unset, .unset, .unset, .unset, .unset, .unset] [(.int (p0 &&& (2 : Int32)))]))
  suffices k4 : ∀ (x4_0 : Int32), x4_0 = (if (p0 &&& (2 : Int32)) = (0 : Int32) then (0 : Int32) else (1 : Int32)) → Goes p e below s (Q0 Z p0 p1 p2 wC h0 n0) kC0 kS0 (s₁.setTop (mkF m 23 #[.val (.int p0), .val (.int p1), .val (.int p2), .val (.int x2_0), .unset, .unset, .unset, .unset, .unset, .unset, .unset, .unset, .unset, .unset, .unset, .unset] [(.int x4_0)])) by
    by_cases hc15_3 : (p0 &&& (2 : Int32)) = (0 : Int32)
    · refine Goes.step (fun t k => XS.ifYes X0.here hx rfl (pc0 := 15) (pc' := 22) rfl (hb hby at_15) rfl ((if0 _ _).trans (teq hc15_3).1) (by decide) (by decide) k) ?_
      show Goes _ _ _ _ _ _ _ (s₁.setTop (mkF m 22 #[.val (.int p0), .val (.int p1), .val (.int p2), .val (.int x2_0), .unset, .unset, .unset, .unset, .unset, .unset, .unset, .unset, .unset, .unset, .unset, .unset] []))
      refine Goes.step (fun t k => XS.iconst X0.here hx rfl (hb hby at_22) k) ?_
      show Goes _ _ _ _ _ _ _ (s₁.setTop (mkF m 23 #[.val (.int p0), .val (.int p1), .val (.int p2), .val (.int x2_0), .unset, .unset, .unset, .unset, .unset, .unset, .unset, .unset, .unset, .unset, .unset, .unset] [(.int (0 : Int32))]))
      exact k4 _ (if_pos hc15_3).symm
    · refine Goes.step (fun t k => XS.ifNo X0.here hx rfl (hb hby at_15) rfl ((if0 _ _).trans (feq hc15_3).1) k) ?_
      show Goes _ _ _ _ _ _ _ (s₁.setTop (mkF m 18 #[.val (.int p0), .val (.int p1), .val (.int p2), .val (.int x2_0), .unset, .unset, .unset, .unset, .unset, .unset, .unset, .unset, .unset, .unset, .unset, .unset] []))
      refine Goes.step (fun t k => XS.iconst X0.here hx rfl (hb hby at_18) k) ?_
      show Goes _ _ _ _ _ _ _ (s₁.setTop (mkF m 19 #[.val (.int p0), .val (.int p1), .val (.int p2), .val (.int x2_0), .unset, .unset, .unset, .unset, .unset, .unset, .unset, .unset, .unset, .unset, .unset, .unset] [(.int (1 : Int32))]))
      refine Goes.step (fun t k => XS.goto X0.here hx rfl (pc0 := 19) (pc' := 23) rfl (hb hby at_19) (by decide) (by decide) k) ?_
      show Goes _ _ _ _ _ _ _ (s₁.setTop (mkF m 23 #[.val (.int p0), .val (.int p1), .val (.int p2), .val (.int x2_0), .unset, .unset, .unset, .unset, .unset, .unset, .unset, .unset, .unset, .unset, .unset, .unset] [(.int (1 : Int32))]))
      exact k4 _ (if_neg hc15_3).symm
  intro x4_0 hx4_0
  refine Goes.step (fun t k => XS.istore X0.here hx rfl (hb hby at_23) rfl (l' := #[.val (.int p0), .val (.int p1), .val (.int p2), .val (.int x2_0), .val (.int x4_0), .unset, .unset, .unset, .unset, .unset, .unset, .unset, .unset, .unset, .unset, .unset]) rfl k) ?_
  show Goes _ _ _ _ _ _ _ (s₁.setTop (mkF m 25 #[.val (.int p0), .val (.int p1), .val (.int p2), .val (.int x2_0), .val (.int x4_0), .unset, .unset, .unset, .unset, .unset, .unset, .unset, .unset, .unset, .unset, .unset] []))
  refine Goes.step (fun t k => XS.iloadN X0.here hx rfl (hb hby at_25) rfl k) ?_
  show Goes _ _ _ _ _ _ _ (s₁.setTop (mkF m 26 #[.val (.int p0), .val (.int p1), .val (.int p2), .val (.int x2_0), .val (.int x4_0), .unset, .unset, .unset, .unset, .unset, .unset, .unset, .unset, .unset, .unset, .unset] [(.int p0)]))
  refine Goes.step (fun t k => XS.iconst X0.here hx rfl (hb hby at_26) k) ?_
  show Goes _ _ _ _ _ _ _ (s₁.setTop (mkF m 27 #[.val (.int p0), .val (.int p1), .val (.int p2), .val (.int x2_0), .val (.int x4_0), .unset, .unset, .unset, .unset, .unset, .unset, .unset, .unset, .unset, .unset, .unset] [(.int (4 : Int32)), (.int p0)]))
  refine Goes.step (fun t k => XS.iand X0.here hx rfl (hb hby at_27) rfl k) ?_
  show Goes _ _ _ _ _ _ _ (s₁.setTop (mkF m 28 #[.val (.int p0), .val (.int p1), .val (.int p2), .val (.int x2_0), .val (.int x4_0), .unset, .unset, .unset, .unset, .unset, .unset, .unset, .unset, .unset, .unset, .unset] [(.int (p0 &&& (4 : Int32)))]))
  suffices k6 : ∀ (x6_0 : Int32), x6_0 = (if (p0 &&& (4 : Int32)) = (0 : Int32) then (0 : Int32) else (1 : Int32)) → Goes p e below s (Q0 Z p0 p1 p2 wC h0 n0) kC0 kS0 (s₁.setTop (mkF m 36 #[.val (.int p0), .val (.int p1), .val (.int p2), .val (.int x2_0), .val (.int x4_0), .unset, .unset, .unset, .unset, .unset, .unset, .unset, .unset, .unset, .unset, .unset] [(.int x6_0)])) by
    by_cases hc28_5 : (p0 &&& (4 : Int32)) = (0 : Int32)
    · refine Goes.step (fun t k => XS.ifYes X0.here hx rfl (pc0 := 28) (pc' := 35) rfl (hb hby at_28) rfl ((if0 _ _).trans (teq hc28_5).1) (by decide) (by decide) k) ?_
      show Goes _ _ _ _ _ _ _ (s₁.setTop (mkF m 35 #[.val (.int p0), .val (.int p1), .val (.int p2), .val (.int x2_0), .val (.int x4_0), .unset, .unset, .unset, .unset, .unset, .unset, .unset, .unset, .unset, .unset, .unset] []))
      refine Goes.step (fun t k => XS.iconst X0.here hx rfl (hb hby at_35) k) ?_
      show Goes _ _ _ _ _ _ _ (s₁.setTop (mkF m 36 #[.val (.int p0), .val (.int p1), .val (.int p2), .val (.int x2_0), .val (.int x4_0), .unset, .unset, .unset, .unset, .unset, .unset, .unset, .unset, .unset, .unset, .unset] [(.int (0 : Int32))]))
      exact k6 _ (if_pos hc28_5).symm
    · refine Goes.step (fun t k => XS.ifNo X0.here hx rfl (hb hby at_28) rfl ((if0 _ _).trans (feq hc28_5).1) k) ?_
      show Goes _ _ _ _ _ _ _ (s₁.setTop (mkF m 31 #[.val (.int p0), .val (.int p1), .val (.int p2), .val (.int x2_0), .val (.int x4_0), .unset, .unset, .unset, .unset, .unset, .unset, .unset, .unset, .unset, .unset, .unset] []))
      refine Goes.step (fun t k => XS.iconst X0.here hx rfl (hb hby at_31) k) ?_
      show Goes _ _ _ _ _ _ _ (s₁.setTop (mkF m 32 #[.val (.int p0), .val (.int p1), .val (.int p2), .val (.int x2_0), .val (.int x4_0), .unset, .unset, .unset, .unset, .unset, .unset, .unset, .unset, .unset, .unset, .unset] [(.int (1 : Int32))]))
      refine Goes.step (fun t k => XS.goto X0.here hx rfl (pc0 := 32) (pc' := 36) rfl (hb hby at_32) (by decide) (by decide) k) ?_
      show Goes _ _ _ _ _ _ _ (s₁.setTop (mkF m 36 #[.val (.int p0), .val (.int p1), .val (.int p2), .val (.int x2_0), .val (.int x4_0), .unset, .unset, .unset, .unset, .unset, .unset, .unset, .unset, .unset, .unset, .unset] [(.int (1 : Int32))]))
      exact k6 _ (if_neg hc28_5).symm
  intro x6_0 hx6_0
  refine Goes.step (fun t k => XS.istore X0.here hx rfl (hb hby at_36) rfl (l' := #[.val (.int p0), .val (.int p1), .val (.int p2), .val (.int x2_0), .val (.int x4_0), .val (.int x6_0), .unset, .unset, .unset, .unset, .unset, .unset, .unset, .unset, .unset, .unset]) rfl k) ?_
  show Goes _ _ _ _ _ _ _ (s₁.setTop (mkF m 38 #[.val (.int p0), .val (.int p1), .val (.int p2), .val (.int x2_0), .val (.int x4_0), .val (.int x6_0), .unset, .unset, .unset, .unset, .unset, .unset, .unset, .unset, .unset, .unset] []))
  refine Goes.step (fun t k => XS.iloadN X0.here hx rfl (hb hby at_38) rfl k) ?_
  show Goes _ _ _ _ _ _ _ (s₁.setTop (mkF m 39 #[.val (.int p0), .val (.int p1), .val (.int p2), .val (.int x2_0), .val (.int x4_0), .val (.int x6_0), .unset, .unset, .unset, .unset, .unset, .unset, .unset, .unset, .unset, .unset] [(.int p0)]))
  refine Goes.step (fun t k => XS.iconst X0.here hx rfl (hb hby at_39) k) ?_
  show Goes _ _ _ _ _ _ _ (s₁.setTop (mkF m 40 #[.val (.int p0), .val (.int p1), .val (.int p2), .val (.int x2_0), .val (.int x4_0), .val (.int x6_0), .unset, .unset, .unset, .unset, .unset, .unset, .unset, .unset, .unset, .unset] [(.int (3 : Int32)), (.int p0)]))
  refine Goes.step (fun t k => XS.iushr X0.here hx rfl (hb hby at_40) rfl k) ?_
  show Goes _ _ _ _ _ _ _ (s₁.setTop (mkF m 41 #[.val (.int p0), .val (.int p1), .val (.int p2), .val (.int x2_0), .val (.int x4_0), .val (.int x6_0), .unset, .unset, .unset, .unset, .unset, .unset, .unset, .unset, .unset, .unset] [(.int ((p0.toUInt32 >>> ((3 : Int32) &&& 31).toUInt32).toInt32))]))
  refine Goes.step (fun t k => XS.iconst X0.here hx rfl (hb hby at_41) k) ?_
  show Goes _ _ _ _ _ _ _ (s₁.setTop (mkF m 42 #[.val (.int p0), .val (.int p1), .val (.int p2), .val (.int x2_0), .val (.int x4_0), .val (.int x6_0), .unset, .unset, .unset, .unset, .unset, .unset, .unset, .unset, .unset, .unset] [(.int (3 : Int32)), (.int ((p0.toUInt32 >>> ((3 : Int32) &&& 31).toUInt32).toInt32))]))
  refine Goes.step (fun t k => XS.iand X0.here hx rfl (hb hby at_42) rfl k) ?_
  show Goes _ _ _ _ _ _ _ (s₁.setTop (mkF m 43 #[.val (.int p0), .val (.int p1), .val (.int p2), .val (.int x2_0), .val (.int x4_0), .val (.int x6_0), .unset, .unset, .unset, .unset, .unset, .unset, .unset, .unset, .unset, .unset] [(.int (((p0.toUInt32 >>> ((3 : Int32) &&& 31).toUInt32).toInt32) &&& (3 : Int32)))]))
  refine Goes.step (fun t k => XS.istore X0.here hx rfl (hb hby at_43) rfl (l' := #[.val (.int p0), .val (.int p1), .val (.int p2), .val (.int x2_0), .val (.int x4_0), .val (.int x6_0), .val (.int (((p0.toUInt32 >>> ((3 : Int32) &&& 31).toUInt32).toInt32) &&& (3 : Int32))), .unset, .unset, .unset, .unset, .unset, .unset, .unset, .unset, .unset]) rfl k) ?_
  show Goes _ _ _ _ _ _ _ (s₁.setTop (mkF m 45 #[.val (.int p0), .val (.int p1), .val (.int p2), .val (.int x2_0), .val (.int x4_0), .val (.int x6_0), .val (.int (((p0.toUInt32 >>> ((3 : Int32) &&& 31).toUInt32).toInt32) &&& (3 : Int32))), .unset, .unset, .unset, .unset, .unset, .unset, .unset, .unset, .unset] []))
  generalize hy7 : (((p0.toUInt32 >>> ((3 : Int32) &&& 31).toUInt32).toInt32) &&& (3 : Int32)) = y7
  have h4 := own_three _ _ hy7
  have h2 : x6_0 = 1 ∨ x6_0 = 0 := by rw [hx6_0]; split; exact Or.inr rfl; exact Or.inl rfl
  rcases h2 with rfl | rfl <;> rcases h4 with rfl | rfl | rfl | rfl
  · show Goes _ _ _ _ _ _ _ (s₁.setTop (mkF m 45 #[.val (.int p0), .val (.int p1), .val (.int p2), .val (.int x2_0), .val (.int x4_0), .val (.int (1 : Int32)), .val (.int (0 : Int32)), .unset, .unset, .unset, .unset, .unset, .unset, .unset, .unset, .unset] []))
    refine Goes.step (fun t k => XS.iconst X0.here hx rfl (hb hby at_45) k) ?_
    show Goes _ _ _ _ _ _ _ (s₁.setTop (mkF m 46 #[.val (.int p0), .val (.int p1), .val (.int p2), .val (.int x2_0), .val (.int x4_0), .val (.int (1 : Int32)), .val (.int (0 : Int32)), .unset, .unset, .unset, .unset, .unset, .unset, .unset, .unset, .unset] [(.int (2 : Int32))]))
    obtain ⟨T8, h8, k8, X8, e8, E8, A8, st8⟩ := newP X0 hx hZ (hw _ (List.mem_of_getElem? (i := 0) rfl)) e0 (g := (mkF m 46 #[.val (.int p0), .val (.int p1), .val (.int p2), .val (.int x2_0), .val (.int x4_0), .val (.int (1 : Int32)), .val (.int (0 : Int32)), .unset, .unset, .unset, .unset, .unset, .unset, .unset, .unset, .unset] [(.int (2 : Int32))])) rfl (hb hby at_46) rfl (by decide) (cap := 2) (by decide) (by decide) (by decide) (by decide)
    obtain ⟨b8, g8⟩ : ∃ z, z = h0.size := ⟨_, rfl⟩
    rw [← g8] at A8 st8
    have Zs8 : n0 ≤ b8 := Nat.le_trans Z0 (Nat.le_of_eq g8.symm)
    have Zh8 : h0.size ≤ b8 := Nat.le_trans (Keep.refl h0 []).1 (Nat.le_of_eq g8.symm)
    have F9 := S_c.ext E8
    have K8 := (Keep.refl h0 []).ext E8
    have Z8 := Nat.le_trans Z0 E8.1
    have V8 : Ara Z h8 b8 .char [(.int (0 : Int32)), (.int (0 : Int32))] := Ara.new A8 (by decide) rfl (fun _ q => nomatch q)
    refine Goes.step (fun t k => st8 t k) ?_
    show Goes _ _ _ _ _ _ _ (T8.setTop (mkF m 48 #[.val (.int p0), .val (.int p1), .val (.int p2), .val (.int x2_0), .val (.int x4_0), .val (.int (1 : Int32)), .val (.int (0 : Int32)), .unset, .unset, .unset, .unset, .unset, .unset, .unset, .unset, .unset] [(.ref b8)]))
    refine Goes.step (fun t k => XS.dup X8.here hx rfl (hb hby at_48) rfl rfl k) ?_
    show Goes _ _ _ _ _ _ _ (T8.setTop (mkF m 49 #[.val (.int p0), .val (.int p1), .val (.int p2), .val (.int x2_0), .val (.int x4_0), .val (.int (1 : Int32)), .val (.int (0 : Int32)), .unset, .unset, .unset, .unset, .unset, .unset, .unset, .unset, .unset] [(.ref b8), (.ref b8)]))
    refine Goes.step (fun t k => XS.iconst X8.here hx rfl (hb hby at_49) k) ?_
    show Goes _ _ _ _ _ _ _ (T8.setTop (mkF m 50 #[.val (.int p0), .val (.int p1), .val (.int p2), .val (.int x2_0), .val (.int x4_0), .val (.int (1 : Int32)), .val (.int (0 : Int32)), .unset, .unset, .unset, .unset, .unset, .unset, .unset, .unset, .unset] [(.int (0 : Int32)), (.ref b8), (.ref b8)]))
    refine Goes.step (fun t k => XS.iloadN X8.here hx rfl (hb hby at_50) rfl k) ?_
    show Goes _ _ _ _ _ _ _ (T8.setTop (mkF m 51 #[.val (.int p0), .val (.int p1), .val (.int p2), .val (.int x2_0), .val (.int x4_0), .val (.int (1 : Int32)), .val (.int (0 : Int32)), .unset, .unset, .unset, .unset, .unset, .unset, .unset, .unset, .unset] [(.int p1), (.int (0 : Int32)), (.ref b8), (.ref b8)]))
    refine Goes.step (fun t k => XS.sipush X8.here hx rfl (hb hby at_51) k) ?_
    show Goes _ _ _ _ _ _ _ (T8.setTop (mkF m 54 #[.val (.int p0), .val (.int p1), .val (.int p2), .val (.int x2_0), .val (.int x4_0), .val (.int (1 : Int32)), .val (.int (0 : Int32)), .unset, .unset, .unset, .unset, .unset, .unset, .unset, .unset, .unset] [(.int (255 : Int32)), (.int p1), (.int (0 : Int32)), (.ref b8), (.ref b8)]))
    refine Goes.step (fun t k => XS.iand X8.here hx rfl (hb hby at_54) rfl k) ?_
    show Goes _ _ _ _ _ _ _ (T8.setTop (mkF m 55 #[.val (.int p0), .val (.int p1), .val (.int p2), .val (.int x2_0), .val (.int x4_0), .val (.int (1 : Int32)), .val (.int (0 : Int32)), .unset, .unset, .unset, .unset, .unset, .unset, .unset, .unset, .unset] [(.int (p1 &&& (255 : Int32))), (.int (0 : Int32)), (.ref b8), (.ref b8)]))
    refine Goes.step (fun t k => XS.i2c X8.here hx rfl (hb hby at_55) rfl k) ?_
    show Goes _ _ _ _ _ _ _ (T8.setTop (mkF m 56 #[.val (.int p0), .val (.int p1), .val (.int p2), .val (.int x2_0), .val (.int x4_0), .val (.int (1 : Int32)), .val (.int (0 : Int32)), .unset, .unset, .unset, .unset, .unset, .unset, .unset, .unset, .unset] [(.int ((p1 &&& (255 : Int32)).toUInt32.toUInt16.toUInt32.toInt32)), (.int (0 : Int32)), (.ref b8), (.ref b8)]))
    obtain ⟨cl10, Ar10, q10, ll10, ff10, oo10⟩ := id V8
    have hn10 : ¬ (0 : Int32) < 0 := by decide
    have hl10 : ((0 : Int32)).toNatClampNeg < ([(.int (0 : Int32)), (.int (0 : Int32))] : List Value).length := by exact Nat.le_of_ble_eq_true rfl
    obtain ⟨T10, h10, X10, e10, W10, st10⟩ := stC X8 hx hZ e8 Ar10 (j := (0 : Int32)) (inb q10 hn10 hl10) (g := (mkF m 56 #[.val (.int p0), .val (.int p1), .val (.int p2), .val (.int x2_0), .val (.int x4_0), .val (.int (1 : Int32)), .val (.int (0 : Int32)), .unset, .unset, .unset, .unset, .unset, .unset, .unset, .unset, .unset] [(.int ((p1 &&& (255 : Int32)).toUInt32.toUInt16.toUInt32.toInt32)), (.int (0 : Int32)), (.ref b8), (.ref b8)])) rfl rfl (hb hby at_56)
    have V10 : Ara Z h10 b8 .char [(.int (nar .char ((p1 &&& (255 : Int32)).toUInt32.toUInt16.toUInt32.toInt32))), (.int (0 : Int32))] := Ara.same (j := (0 : Int32)) Ar10 q10 ll10 ff10 oo10 (fits_nar_char _) W10
    have F11 := F9.wr W10
    have K10 := K8.wr W10 (Or.inr Zh8)
    have N10 := Fr.snoc X10 N0 Zs8
    have Z10 := Nat.le_trans Z8 (Nat.le_of_eq W10.size.symm)
    refine Goes.step (fun t k => st10 t k) ?_
    show Goes _ _ _ _ _ _ _ (T10.setTop (mkF m 57 #[.val (.int p0), .val (.int p1), .val (.int p2), .val (.int x2_0), .val (.int x4_0), .val (.int (1 : Int32)), .val (.int (0 : Int32)), .unset, .unset, .unset, .unset, .unset, .unset, .unset, .unset, .unset] [(.ref b8)]))
    refine Goes.step (fun t k => XS.dup X10.here hx rfl (hb hby at_57) rfl rfl k) ?_
    show Goes _ _ _ _ _ _ _ (T10.setTop (mkF m 58 #[.val (.int p0), .val (.int p1), .val (.int p2), .val (.int x2_0), .val (.int x4_0), .val (.int (1 : Int32)), .val (.int (0 : Int32)), .unset, .unset, .unset, .unset, .unset, .unset, .unset, .unset, .unset] [(.ref b8), (.ref b8)]))
    refine Goes.step (fun t k => XS.iconst X10.here hx rfl (hb hby at_58) k) ?_
    show Goes _ _ _ _ _ _ _ (T10.setTop (mkF m 59 #[.val (.int p0), .val (.int p1), .val (.int p2), .val (.int x2_0), .val (.int x4_0), .val (.int (1 : Int32)), .val (.int (0 : Int32)), .unset, .unset, .unset, .unset, .unset, .unset, .unset, .unset, .unset] [(.int (1 : Int32)), (.ref b8), (.ref b8)]))
    refine Goes.step (fun t k => XS.iloadN X10.here hx rfl (hb hby at_59) rfl k) ?_
    show Goes _ _ _ _ _ _ _ (T10.setTop (mkF m 60 #[.val (.int p0), .val (.int p1), .val (.int p2), .val (.int x2_0), .val (.int x4_0), .val (.int (1 : Int32)), .val (.int (0 : Int32)), .unset, .unset, .unset, .unset, .unset, .unset, .unset, .unset, .unset] [(.int p1), (.int (1 : Int32)), (.ref b8), (.ref b8)]))
    refine Goes.step (fun t k => XS.bipush X10.here hx rfl (hb hby at_60) k) ?_
    show Goes _ _ _ _ _ _ _ (T10.setTop (mkF m 62 #[.val (.int p0), .val (.int p1), .val (.int p2), .val (.int x2_0), .val (.int x4_0), .val (.int (1 : Int32)), .val (.int (0 : Int32)), .unset, .unset, .unset, .unset, .unset, .unset, .unset, .unset, .unset] [(.int (8 : Int32)), (.int p1), (.int (1 : Int32)), (.ref b8), (.ref b8)]))
    refine Goes.step (fun t k => XS.iushr X10.here hx rfl (hb hby at_62) rfl k) ?_
    show Goes _ _ _ _ _ _ _ (T10.setTop (mkF m 63 #[.val (.int p0), .val (.int p1), .val (.int p2), .val (.int x2_0), .val (.int x4_0), .val (.int (1 : Int32)), .val (.int (0 : Int32)), .unset, .unset, .unset, .unset, .unset, .unset, .unset, .unset, .unset] [(.int ((p1.toUInt32 >>> ((8 : Int32) &&& 31).toUInt32).toInt32)), (.int (1 : Int32)), (.ref b8), (.ref b8)]))
    refine Goes.step (fun t k => XS.sipush X10.here hx rfl (hb hby at_63) k) ?_
    show Goes _ _ _ _ _ _ _ (T10.setTop (mkF m 66 #[.val (.int p0), .val (.int p1), .val (.int p2), .val (.int x2_0), .val (.int x4_0), .val (.int (1 : Int32)), .val (.int (0 : Int32)), .unset, .unset, .unset, .unset, .unset, .unset, .unset, .unset, .unset] [(.int (255 : Int32)), (.int ((p1.toUInt32 >>> ((8 : Int32) &&& 31).toUInt32).toInt32)), (.int (1 : Int32)), (.ref b8), (.ref b8)]))
    refine Goes.step (fun t k => XS.iand X10.here hx rfl (hb hby at_66) rfl k) ?_
    show Goes _ _ _ _ _ _ _ (T10.setTop (mkF m 67 #[.val (.int p0), .val (.int p1), .val (.int p2), .val (.int x2_0), .val (.int x4_0), .val (.int (1 : Int32)), .val (.int (0 : Int32)), .unset, .unset, .unset, .unset, .unset, .unset, .unset, .unset, .unset] [(.int (((p1.toUInt32 >>> ((8 : Int32) &&& 31).toUInt32).toInt32) &&& (255 : Int32))), (.int (1 : Int32)), (.ref b8), (.ref b8)]))
    refine Goes.step (fun t k => XS.i2c X10.here hx rfl (hb hby at_67) rfl k) ?_
    show Goes _ _ _ _ _ _ _ (T10.setTop (mkF m 68 #[.val (.int p0), .val (.int p1), .val (.int p2), .val (.int x2_0), .val (.int x4_0), .val (.int (1 : Int32)), .val (.int (0 : Int32)), .unset, .unset, .unset, .unset, .unset, .unset, .unset, .unset, .unset] [(.int ((((p1.toUInt32 >>> ((8 : Int32) &&& 31).toUInt32).toInt32) &&& (255 : Int32)).toUInt32.toUInt16.toUInt32.toInt32)), (.int (1 : Int32)), (.ref b8), (.ref b8)]))
    obtain ⟨cl12, Ar12, q12, ll12, ff12, oo12⟩ := id V10
    have hn12 : ¬ (1 : Int32) < 0 := by decide
    have hl12 : ((1 : Int32)).toNatClampNeg < ([(.int (nar .char ((p1 &&& (255 : Int32)).toUInt32.toUInt16.toUInt32.toInt32))), (.int (0 : Int32))] : List Value).length := by exact Nat.le_of_ble_eq_true rfl
    obtain ⟨T12, h12, X12, e12, W12, st12⟩ := stC X10 hx hZ e10 Ar12 (j := (1 : Int32)) (inb q12 hn12 hl12) (g := (mkF m 68 #[.val (.int p0), .val (.int p1), .val (.int p2), .val (.int x2_0), .val (.int x4_0), .val (.int (1 : Int32)), .val (.int (0 : Int32)), .unset, .unset, .unset, .unset, .unset, .unset, .unset, .unset, .unset] [(.int ((((p1.toUInt32 >>> ((8 : Int32) &&& 31).toUInt32).toInt32) &&& (255 : Int32)).toUInt32.toUInt16.toUInt32.toInt32)), (.int (1 : Int32)), (.ref b8), (.ref b8)])) rfl rfl (hb hby at_68)
    have V12 : Ara Z h12 b8 .char [(.int (nar .char ((p1 &&& (255 : Int32)).toUInt32.toUInt16.toUInt32.toInt32))), (.int (nar .char ((((p1.toUInt32 >>> ((8 : Int32) &&& 31).toUInt32).toInt32) &&& (255 : Int32)).toUInt32.toUInt16.toUInt32.toInt32)))] := Ara.same (j := (1 : Int32)) Ar12 q12 ll12 ff12 oo12 (fits_nar_char _) W12
    have F13 := F11.wr W12
    have K12 := K10.wr W12 (Or.inr Zh8)
    have N12 := Fr.snoc X12 N10 Zs8
    have Z12 := Nat.le_trans Z10 (Nat.le_of_eq W12.size.symm)
    refine Goes.step (fun t k => st12 t k) ?_
    show Goes _ _ _ _ _ _ _ (T12.setTop (mkF m 69 #[.val (.int p0), .val (.int p1), .val (.int p2), .val (.int x2_0), .val (.int x4_0), .val (.int (1 : Int32)), .val (.int (0 : Int32)), .unset, .unset, .unset, .unset, .unset, .unset, .unset, .unset, .unset] [(.ref b8)]))
    refine Goes.step (fun t k => XS.astore X12.here hx rfl (hb hby at_69) rfl rfl (l' := #[.val (.int p0), .val (.int p1), .val (.int p2), .val (.int x2_0), .val (.int x4_0), .val (.int (1 : Int32)), .val (.int (0 : Int32)), .val (.ref b8), .unset, .unset, .unset, .unset, .unset, .unset, .unset, .unset]) rfl k) ?_
    show Goes _ _ _ _ _ _ _ (T12.setTop (mkF m 71 #[.val (.int p0), .val (.int p1), .val (.int p2), .val (.int x2_0), .val (.int x4_0), .val (.int (1 : Int32)), .val (.int (0 : Int32)), .val (.ref b8), .unset, .unset, .unset, .unset, .unset, .unset, .unset, .unset] []))
    refine Goes.step (fun t k => XS.iconst X12.here hx rfl (hb hby at_71) k) ?_
    show Goes _ _ _ _ _ _ _ (T12.setTop (mkF m 72 #[.val (.int p0), .val (.int p1), .val (.int p2), .val (.int x2_0), .val (.int x4_0), .val (.int (1 : Int32)), .val (.int (0 : Int32)), .val (.ref b8), .unset, .unset, .unset, .unset, .unset, .unset, .unset, .unset] [(.int (2 : Int32))]))
    obtain ⟨T14, h14, k14, X14, e14, E14, A14, st14⟩ := newP X12 hx hZ (hw _ (List.mem_of_getElem? (i := 0) rfl)) e12 (g := (mkF m 72 #[.val (.int p0), .val (.int p1), .val (.int p2), .val (.int x2_0), .val (.int x4_0), .val (.int (1 : Int32)), .val (.int (0 : Int32)), .val (.ref b8), .unset, .unset, .unset, .unset, .unset, .unset, .unset, .unset] [(.int (2 : Int32))])) rfl (hb hby at_72) rfl (by decide) (cap := 2) (by decide) (by decide) (by decide) (by decide)
    obtain ⟨b14, g14⟩ : ∃ z, z = h12.size := ⟨_, rfl⟩
    rw [← g14] at A14 st14
    have ne_b8_b14 : b8 ≠ b14 := Nat.ne_of_lt (Nat.lt_of_lt_of_le V12.lt (Nat.le_of_eq g14.symm))
    have Zs14 : n0 ≤ b14 := Nat.le_trans Z12 (Nat.le_of_eq g14.symm)
    have Zh14 : h0.size ≤ b14 := Nat.le_trans K12.1 (Nat.le_of_eq g14.symm)
    have F15 := F13.ext E14
    have F16 := V12.ext E14
    have K14 := K12.ext E14
    have Z14 := Nat.le_trans Z12 E14.1
    have V14 : Ara Z h14 b14 .char [(.int (0 : Int32)), (.int (0 : Int32))] := Ara.new A14 (by decide) rfl (fun _ q => nomatch q)
    refine Goes.step (fun t k => st14 t k) ?_
    show Goes _ _ _ _ _ _ _ (T14.setTop (mkF m 74 #[.val (.int p0), .val (.int p1), .val (.int p2), .val (.int x2_0), .val (.int x4_0), .val (.int (1 : Int32)), .val (.int (0 : Int32)), .val (.ref b8), .unset, .unset, .unset, .unset, .unset, .unset, .unset, .unset] [(.ref b14)]))
    refine Goes.step (fun t k => XS.dup X14.here hx rfl (hb hby at_74) rfl rfl k) ?_
    show Goes _ _ _ _ _ _ _ (T14.setTop (mkF m 75 #[.val (.int p0), .val (.int p1), .val (.int p2), .val (.int x2_0), .val (.int x4_0), .val (.int (1 : Int32)), .val (.int (0 : Int32)), .val (.ref b8), .unset, .unset, .unset, .unset, .unset, .unset, .unset, .unset] [(.ref b14), (.ref b14)]))
    refine Goes.step (fun t k => XS.iconst X14.here hx rfl (hb hby at_75) k) ?_
    show Goes _ _ _ _ _ _ _ (T14.setTop (mkF m 76 #[.val (.int p0), .val (.int p1), .val (.int p2), .val (.int x2_0), .val (.int x4_0), .val (.int (1 : Int32)), .val (.int (0 : Int32)), .val (.ref b8), .unset, .unset, .unset, .unset, .unset, .unset, .unset, .unset] [(.int (0 : Int32)), (.ref b14), (.ref b14)]))
    refine Goes.step (fun t k => XS.iloadN X14.here hx rfl (hb hby at_76) rfl k) ?_
    show Goes _ _ _ _ _ _ _ (T14.setTop (mkF m 77 #[.val (.int p0), .val (.int p1), .val (.int p2), .val (.int x2_0), .val (.int x4_0), .val (.int (1 : Int32)), .val (.int (0 : Int32)), .val (.ref b8), .unset, .unset, .unset, .unset, .unset, .unset, .unset, .unset] [(.int p2), (.int (0 : Int32)), (.ref b14), (.ref b14)]))
    refine Goes.step (fun t k => XS.sipush X14.here hx rfl (hb hby at_77) k) ?_
    show Goes _ _ _ _ _ _ _ (T14.setTop (mkF m 80 #[.val (.int p0), .val (.int p1), .val (.int p2), .val (.int x2_0), .val (.int x4_0), .val (.int (1 : Int32)), .val (.int (0 : Int32)), .val (.ref b8), .unset, .unset, .unset, .unset, .unset, .unset, .unset, .unset] [(.int (255 : Int32)), (.int p2), (.int (0 : Int32)), (.ref b14), (.ref b14)]))
    refine Goes.step (fun t k => XS.iand X14.here hx rfl (hb hby at_80) rfl k) ?_
    show Goes _ _ _ _ _ _ _ (T14.setTop (mkF m 81 #[.val (.int p0), .val (.int p1), .val (.int p2), .val (.int x2_0), .val (.int x4_0), .val (.int (1 : Int32)), .val (.int (0 : Int32)), .val (.ref b8), .unset, .unset, .unset, .unset, .unset, .unset, .unset, .unset] [(.int (p2 &&& (255 : Int32))), (.int (0 : Int32)), (.ref b14), (.ref b14)]))
    refine Goes.step (fun t k => XS.i2c X14.here hx rfl (hb hby at_81) rfl k) ?_
    show Goes _ _ _ _ _ _ _ (T14.setTop (mkF m 82 #[.val (.int p0), .val (.int p1), .val (.int p2), .val (.int x2_0), .val (.int x4_0), .val (.int (1 : Int32)), .val (.int (0 : Int32)), .val (.ref b8), .unset, .unset, .unset, .unset, .unset, .unset, .unset, .unset] [(.int ((p2 &&& (255 : Int32)).toUInt32.toUInt16.toUInt32.toInt32)), (.int (0 : Int32)), (.ref b14), (.ref b14)]))
    obtain ⟨cl17, Ar17, q17, ll17, ff17, oo17⟩ := id V14
    have hn17 : ¬ (0 : Int32) < 0 := by decide
    have hl17 : ((0 : Int32)).toNatClampNeg < ([(.int (0 : Int32)), (.int (0 : Int32))] : List Value).length := by exact Nat.le_of_ble_eq_true rfl
    obtain ⟨T17, h17, X17, e17, W17, st17⟩ := stC X14 hx hZ e14 Ar17 (j := (0 : Int32)) (inb q17 hn17 hl17) (g := (mkF m 82 #[.val (.int p0), .val (.int p1), .val (.int p2), .val (.int x2_0), .val (.int x4_0), .val (.int (1 : Int32)), .val (.int (0 : Int32)), .val (.ref b8), .unset, .unset, .unset, .unset, .unset, .unset, .unset, .unset] [(.int ((p2 &&& (255 : Int32)).toUInt32.toUInt16.toUInt32.toInt32)), (.int (0 : Int32)), (.ref b14), (.ref b14)])) rfl rfl (hb hby at_82)
    have V17 : Ara Z h17 b14 .char [(.int (nar .char ((p2 &&& (255 : Int32)).toUInt32.toUInt16.toUInt32.toInt32))), (.int (0 : Int32))] := Ara.same (j := (0 : Int32)) Ar17 q17 ll17 ff17 oo17 (fits_nar_char _) W17
    have F18 := F15.wr W17
    have F19 := F16.other W17 ne_b8_b14
    have K17 := K14.wr W17 (Or.inr Zh14)
    have N17 := Fr.snoc X17 N12 Zs14
    have Z17 := Nat.le_trans Z14 (Nat.le_of_eq W17.size.symm)
    refine Goes.step (fun t k => st17 t k) ?_
    show Goes _ _ _ _ _ _ _ (T17.setTop (mkF m 83 #[.val (.int p0), .val (.int p1), .val (.int p2), .val (.int x2_0), .val (.int x4_0), .val (.int (1 : Int32)), .val (.int (0 : Int32)), .val (.ref b8), .unset, .unset, .unset, .unset, .unset, .unset, .unset, .unset] [(.ref b14)]))
    refine Goes.step (fun t k => XS.dup X17.here hx rfl (hb hby at_83) rfl rfl k) ?_
    show Goes _ _ _ _ _ _ _ (T17.setTop (mkF m 84 #[.val (.int p0), .val (.int p1), .val (.int p2), .val (.int x2_0), .val (.int x4_0), .val (.int (1 : Int32)), .val (.int (0 : Int32)), .val (.ref b8), .unset, .unset, .unset, .unset, .unset, .unset, .unset, .unset] [(.ref b14), (.ref b14)]))
    refine Goes.step (fun t k => XS.iconst X17.here hx rfl (hb hby at_84) k) ?_
    show Goes _ _ _ _ _ _ _ (T17.setTop (mkF m 85 #[.val (.int p0), .val (.int p1), .val (.int p2), .val (.int x2_0), .val (.int x4_0), .val (.int (1 : Int32)), .val (.int (0 : Int32)), .val (.ref b8), .unset, .unset, .unset, .unset, .unset, .unset, .unset, .unset] [(.int (1 : Int32)), (.ref b14), (.ref b14)]))
    refine Goes.step (fun t k => XS.iloadN X17.here hx rfl (hb hby at_85) rfl k) ?_
    show Goes _ _ _ _ _ _ _ (T17.setTop (mkF m 86 #[.val (.int p0), .val (.int p1), .val (.int p2), .val (.int x2_0), .val (.int x4_0), .val (.int (1 : Int32)), .val (.int (0 : Int32)), .val (.ref b8), .unset, .unset, .unset, .unset, .unset, .unset, .unset, .unset] [(.int p2), (.int (1 : Int32)), (.ref b14), (.ref b14)]))
    refine Goes.step (fun t k => XS.bipush X17.here hx rfl (hb hby at_86) k) ?_
    show Goes _ _ _ _ _ _ _ (T17.setTop (mkF m 88 #[.val (.int p0), .val (.int p1), .val (.int p2), .val (.int x2_0), .val (.int x4_0), .val (.int (1 : Int32)), .val (.int (0 : Int32)), .val (.ref b8), .unset, .unset, .unset, .unset, .unset, .unset, .unset, .unset] [(.int (8 : Int32)), (.int p2), (.int (1 : Int32)), (.ref b14), (.ref b14)]))
    refine Goes.step (fun t k => XS.iushr X17.here hx rfl (hb hby at_88) rfl k) ?_
    show Goes _ _ _ _ _ _ _ (T17.setTop (mkF m 89 #[.val (.int p0), .val (.int p1), .val (.int p2), .val (.int x2_0), .val (.int x4_0), .val (.int (1 : Int32)), .val (.int (0 : Int32)), .val (.ref b8), .unset, .unset, .unset, .unset, .unset, .unset, .unset, .unset] [(.int ((p2.toUInt32 >>> ((8 : Int32) &&& 31).toUInt32).toInt32)), (.int (1 : Int32)), (.ref b14), (.ref b14)]))
    refine Goes.step (fun t k => XS.sipush X17.here hx rfl (hb hby at_89) k) ?_
    show Goes _ _ _ _ _ _ _ (T17.setTop (mkF m 92 #[.val (.int p0), .val (.int p1), .val (.int p2), .val (.int x2_0), .val (.int x4_0), .val (.int (1 : Int32)), .val (.int (0 : Int32)), .val (.ref b8), .unset, .unset, .unset, .unset, .unset, .unset, .unset, .unset] [(.int (255 : Int32)), (.int ((p2.toUInt32 >>> ((8 : Int32) &&& 31).toUInt32).toInt32)), (.int (1 : Int32)), (.ref b14), (.ref b14)]))
    refine Goes.step (fun t k => XS.iand X17.here hx rfl (hb hby at_92) rfl k) ?_
    show Goes _ _ _ _ _ _ _ (T17.setTop (mkF m 93 #[.val (.int p0), .val (.int p1), .val (.int p2), .val (.int x2_0), .val (.int x4_0), .val (.int (1 : Int32)), .val (.int (0 : Int32)), .val (.ref b8), .unset, .unset, .unset, .unset, .unset, .unset, .unset, .unset] [(.int (((p2.toUInt32 >>> ((8 : Int32) &&& 31).toUInt32).toInt32) &&& (255 : Int32))), (.int (1 : Int32)), (.ref b14), (.ref b14)]))
    refine Goes.step (fun t k => XS.i2c X17.here hx rfl (hb hby at_93) rfl k) ?_
    show Goes _ _ _ _ _ _ _ (T17.setTop (mkF m 94 #[.val (.int p0), .val (.int p1), .val (.int p2), .val (.int x2_0), .val (.int x4_0), .val (.int (1 : Int32)), .val (.int (0 : Int32)), .val (.ref b8), .unset, .unset, .unset, .unset, .unset, .unset, .unset, .unset] [(.int ((((p2.toUInt32 >>> ((8 : Int32) &&& 31).toUInt32).toInt32) &&& (255 : Int32)).toUInt32.toUInt16.toUInt32.toInt32)), (.int (1 : Int32)), (.ref b14), (.ref b14)]))
    obtain ⟨cl20, Ar20, q20, ll20, ff20, oo20⟩ := id V17
    have hn20 : ¬ (1 : Int32) < 0 := by decide
    have hl20 : ((1 : Int32)).toNatClampNeg < ([(.int (nar .char ((p2 &&& (255 : Int32)).toUInt32.toUInt16.toUInt32.toInt32))), (.int (0 : Int32))] : List Value).length := by exact Nat.le_of_ble_eq_true rfl
    obtain ⟨T20, h20, X20, e20, W20, st20⟩ := stC X17 hx hZ e17 Ar20 (j := (1 : Int32)) (inb q20 hn20 hl20) (g := (mkF m 94 #[.val (.int p0), .val (.int p1), .val (.int p2), .val (.int x2_0), .val (.int x4_0), .val (.int (1 : Int32)), .val (.int (0 : Int32)), .val (.ref b8), .unset, .unset, .unset, .unset, .unset, .unset, .unset, .unset] [(.int ((((p2.toUInt32 >>> ((8 : Int32) &&& 31).toUInt32).toInt32) &&& (255 : Int32)).toUInt32.toUInt16.toUInt32.toInt32)), (.int (1 : Int32)), (.ref b14), (.ref b14)])) rfl rfl (hb hby at_94)
    have V20 : Ara Z h20 b14 .char [(.int (nar .char ((p2 &&& (255 : Int32)).toUInt32.toUInt16.toUInt32.toInt32))), (.int (nar .char ((((p2.toUInt32 >>> ((8 : Int32) &&& 31).toUInt32).toInt32) &&& (255 : Int32)).toUInt32.toUInt16.toUInt32.toInt32)))] := Ara.same (j := (1 : Int32)) Ar20 q20 ll20 ff20 oo20 (fits_nar_char _) W20
    have F21 := F18.wr W20
    have F22 := F19.other W20 ne_b8_b14
    have K20 := K17.wr W20 (Or.inr Zh14)
    have N20 := Fr.snoc X20 N17 Zs14
    have Z20 := Nat.le_trans Z17 (Nat.le_of_eq W20.size.symm)
    refine Goes.step (fun t k => st20 t k) ?_
    show Goes _ _ _ _ _ _ _ (T20.setTop (mkF m 95 #[.val (.int p0), .val (.int p1), .val (.int p2), .val (.int x2_0), .val (.int x4_0), .val (.int (1 : Int32)), .val (.int (0 : Int32)), .val (.ref b8), .unset, .unset, .unset, .unset, .unset, .unset, .unset, .unset] [(.ref b14)]))
    refine Goes.step (fun t k => XS.astore X20.here hx rfl (hb hby at_95) rfl rfl (l' := #[.val (.int p0), .val (.int p1), .val (.int p2), .val (.int x2_0), .val (.int x4_0), .val (.int (1 : Int32)), .val (.int (0 : Int32)), .val (.ref b8), .val (.ref b14), .unset, .unset, .unset, .unset, .unset, .unset, .unset]) rfl k) ?_
    show Goes _ _ _ _ _ _ _ (T20.setTop (mkF m 97 #[.val (.int p0), .val (.int p1), .val (.int p2), .val (.int x2_0), .val (.int x4_0), .val (.int (1 : Int32)), .val (.int (0 : Int32)), .val (.ref b8), .val (.ref b14), .unset, .unset, .unset, .unset, .unset, .unset, .unset] []))
    obtain ⟨T23, h23, X23, e23, E23, A23, D23, -, st23⟩ := newO X20 hx hZ hown (hw _ (List.mem_of_getElem? (i := 1) rfl)) (hw _ (List.mem_of_getElem? (i := 2) rfl)) (hw _ (List.mem_of_getElem? (i := 3) rfl)) e20 (g := (mkF m 97 #[.val (.int p0), .val (.int p1), .val (.int p2), .val (.int x2_0), .val (.int x4_0), .val (.int (1 : Int32)), .val (.int (0 : Int32)), .val (.ref b8), .val (.ref b14), .unset, .unset, .unset, .unset, .unset, .unset, .unset] [])) rfl (hb hby at_97) (by decide) (by decide)
    obtain ⟨b23, g23⟩ : ∃ z, z = h20.size := ⟨_, rfl⟩
    rw [← g23] at A23 D23 st23
    have ne_b8_b23 : b8 ≠ b23 := Nat.ne_of_lt (Nat.lt_of_lt_of_le F22.lt (Nat.le_of_eq g23.symm))
    have ne_b14_b23 : b14 ≠ b23 := Nat.ne_of_lt (Nat.lt_of_lt_of_le V20.lt (Nat.le_of_eq g23.symm))
    have Zs23 : n0 ≤ b23 := Nat.le_trans Z20 (Nat.le_of_eq g23.symm)
    have Zh23 : h0.size ≤ b23 := Nat.le_trans K20.1 (Nat.le_of_eq g23.symm)
    have F24 := F21.ext E23
    have F25 := F22.ext E23
    have F26 := V20.ext E23
    have K23 := K20.ext E23
    have Z23 := Nat.le_trans Z20 E23.1
    have F27 : Fld Z h23 b23 "java/lang/String" "coder" "B" (.int (0 : Int32)) := D23 (Or.inr (hw _ (List.mem_of_getElem? (i := 27) rfl))) (ty := .byte) (by decide)
    have F28 : Fld Z h23 b23 "java/lang/String" "value" "[B" .null := D23 (Or.inr (hw _ (List.mem_of_getElem? (i := 29) rfl))) (ty := (.array .byte)) (by decide)
    refine Goes.step (fun t k => st23 t k) ?_
    show Goes _ _ _ _ _ _ _ (T23.setTop (mkF m 100 #[.val (.int p0), .val (.int p1), .val (.int p2), .val (.int x2_0), .val (.int x4_0), .val (.int (1 : Int32)), .val (.int (0 : Int32)), .val (.ref b8), .val (.ref b14), .unset, .unset, .unset, .unset, .unset, .unset, .unset] [(.ref b23)]))
    refine Goes.step (fun t k => XS.dup X23.here hx rfl (hb hby at_100) rfl rfl k) ?_
    show Goes _ _ _ _ _ _ _ (T23.setTop (mkF m 101 #[.val (.int p0), .val (.int p1), .val (.int p2), .val (.int x2_0), .val (.int x4_0), .val (.int (1 : Int32)), .val (.int (0 : Int32)), .val (.ref b8), .val (.ref b14), .unset, .unset, .unset, .unset, .unset, .unset, .unset] [(.ref b23), (.ref b23)]))
    refine Goes.step (fun t k => XS.aload X23.here hx rfl (hb hby at_101) rfl rfl k) ?_
    show Goes _ _ _ _ _ _ _ (T23.setTop (mkF m 103 #[.val (.int p0), .val (.int p1), .val (.int p2), .val (.int x2_0), .val (.int x4_0), .val (.int (1 : Int32)), .val (.int (0 : Int32)), .val (.ref b8), .val (.ref b14), .unset, .unset, .unset, .unset, .unset, .unset, .unset] [(.ref b8), (.ref b23), (.ref b23)]))
    obtain ⟨kc29, Kc29⟩ := own_arv (N := (2 : Int32)) (.int (0 : Int32)) F25 (by decide) rfl
    have hlat29 : ∀ c ∈ [(nar .char ((p1 &&& (255 : Int32)).toUInt32.toUInt16.toUInt32.toInt32)), (nar .char ((((p1.toUInt32 >>> ((8 : Int32) &&& 31).toUInt32).toInt32) &&& (255 : Int32)).toUInt32.toUInt16.toUInt32.toInt32))], ¬ c < 0 ∧ ¬ (255 : Int32) < c := by
      intro c hc
      simp only [List.mem_cons, List.not_mem_nil, or_false] at hc
      rcases hc with rfl | rfl <;> exact own_lat _
    obtain ⟨_, _, ⟨T29, L29, k29, n29⟩, -, X29, ⟨Lc29, hQ29, l29, y29, z29⟩, st29⟩ := X23.specialBack hx (y := (⟨"java/lang/String", "<init>", "([C)V"⟩ : MethodName)) rfl hown (mvT hZ (hw _ (List.mem_of_getElem? (i := 4) rfl))) (mvT hZ (hw _ (List.mem_of_getElem? (i := 5) rfl))) (mvT hZ (hw _ (List.mem_of_getElem? (i := 6) rfl))) (by decide) (StrChars.Road.backV (W := 1) hZ hws (kI := 4) (hw _ (List.mem_of_getElem? (i := 2) rfl)) (cs := [(nar .char ((p1 &&& (255 : Int32)).toUInt32.toUInt16.toUInt32.toInt32)), (nar .char ((((p1.toUInt32 >>> ((8 : Int32) &&& 31).toUInt32).toInt32) &&& (255 : Int32)).toUInt32.toUInt16.toUInt32.toInt32))]) (bs := [((nar .char ((p1 &&& (255 : Int32)).toUInt32.toUInt16.toUInt32.toInt32))).toInt8.toInt32, ((nar .char ((((p1.toUInt32 >>> ((8 : Int32) &&& 31).toUInt32).toInt32) &&& (255 : Int32)).toUInt32.toUInt16.toUInt32.toInt32))).toInt8.toInt32]) (n := 2) (n0 := n0) Zs23 Z23 A23 F28 F27 Kc29 F24 P3 rfl rfl (by decide) (by decide) hlat29 rfl (by decide) (by decide)) (g := (mkF m 103 #[.val (.int p0), .val (.int p1), .val (.int p2), .val (.int x2_0), .val (.int x4_0), .val (.int (1 : Int32)), .val (.int (0 : Int32)), .val (.ref b8), .val (.ref b14), .unset, .unset, .unset, .unset, .unset, .unset, .unset] [(.ref b8), (.ref b23), (.ref b23)])) rfl (by rw [hml]; rfl) (Steps.refl _) (a := b23) (argsL := [(.ref b8)]) (rest := [(.ref b23)]) (lenOf own_pd0 rfl) rfl (by show 2 * 0 + _ ≤ _; exact Nat.le_of_eq rfl) (hb hby at_103) (fun _ _ => ⟨rfl, e23, (by decide : 3 + 1 ≤ _), (by decide : 8 + 2 ≤ _)⟩)
    dsimp only [Pt.U, Pt.locs, Pt.cells, Pt.slots] at X29 l29 y29 z29 st29 hQ29
    rw [l29, y29, z29] at X29
    replace hQ29 := own_qv hQ29
    generalize e29 : T29.heap = h29 at hQ29
    obtain ⟨rfl, Nq29, Kq29, G29_0⟩ := hQ29
    have F30 := own_sta_keep F24 Kq29 (allS (notsta_exa A23) all0)
    have F31 := F25.keep Kq29 (ninS ne_b8_b23 nin0)
    have F32 := F26.keep Kq29 (ninS ne_b14_b23 nin0)
    have N29 := Fr.app N20 Nq29
    have K29 := K23.trans Kq29 (allS (Or.inr Zh23) all0)
    have Z29 := Nat.le_trans Z23 Kq29.1
    change Stand _ _ _ _ _ _ _ _ _ _ _ _ 4 10 at X29
    refine Goes.step (fun t k => st29.trans k) ?_
    show Goes _ _ _ _ _ _ _ (T29.setTop (mkF m 106 #[.val (.int p0), .val (.int p1), .val (.int p2), .val (.int x2_0), .val (.int x4_0), .val (.int (1 : Int32)), .val (.int (0 : Int32)), .val (.ref b8), .val (.ref b14), .unset, .unset, .unset, .unset, .unset, .unset, .unset] [(.ref b23)]))
    refine Goes.step (fun t k => XS.astore X29.here hx rfl (hb hby at_106) rfl rfl (l' := #[.val (.int p0), .val (.int p1), .val (.int p2), .val (.int x2_0), .val (.int x4_0), .val (.int (1 : Int32)), .val (.int (0 : Int32)), .val (.ref b8), .val (.ref b14), .val (.ref b23), .unset, .unset, .unset, .unset, .unset, .unset]) rfl k) ?_
    show Goes _ _ _ _ _ _ _ (T29.setTop (mkF m 108 #[.val (.int p0), .val (.int p1), .val (.int p2), .val (.int x2_0), .val (.int x4_0), .val (.int (1 : Int32)), .val (.int (0 : Int32)), .val (.ref b8), .val (.ref b14), .val (.ref b23), .unset, .unset, .unset, .unset, .unset, .unset] []))
    refine Goes.step (fun t k => XS.iload X29.here hx rfl (hb hby at_108) rfl k) ?_
    show Goes _ _ _ _ _ _ _ (T29.setTop (mkF m 110 #[.val (.int p0), .val (.int p1), .val (.int p2), .val (.int x2_0), .val (.int x4_0), .val (.int (1 : Int32)), .val (.int (0 : Int32)), .val (.ref b8), .val (.ref b14), .val (.ref b23), .unset, .unset, .unset, .unset, .unset, .unset] [(.int (1 : Int32))]))
    refine Goes.step (fun t k => XS.ifNo X29.here hx rfl (hb hby at_110) rfl ((if0 _ _).trans (feq (by decide)).1) k) ?_
    show Goes _ _ _ _ _ _ _ (T29.setTop (mkF m 113 #[.val (.int p0), .val (.int p1), .val (.int p2), .val (.int x2_0), .val (.int x4_0), .val (.int (1 : Int32)), .val (.int (0 : Int32)), .val (.ref b8), .val (.ref b14), .val (.ref b23), .unset, .unset, .unset, .unset, .unset, .unset] []))
    refine Goes.step (fun t k => XS.aload X29.here hx rfl (hb hby at_113) rfl rfl k) ?_
    show Goes _ _ _ _ _ _ _ (T29.setTop (mkF m 115 #[.val (.int p0), .val (.int p1), .val (.int p2), .val (.int x2_0), .val (.int x4_0), .val (.int (1 : Int32)), .val (.int (0 : Int32)), .val (.ref b8), .val (.ref b14), .val (.ref b23), .unset, .unset, .unset, .unset, .unset, .unset] [(.ref b23)]))
    refine Goes.step (fun t k => XS.goto X29.here hx rfl (pc0 := 115) (pc' := 127) rfl (hb hby at_115) (by decide) (by decide) k) ?_
    show Goes _ _ _ _ _ _ _ (T29.setTop (mkF m 127 #[.val (.int p0), .val (.int p1), .val (.int p2), .val (.int x2_0), .val (.int x4_0), .val (.int (1 : Int32)), .val (.int (0 : Int32)), .val (.ref b8), .val (.ref b14), .val (.ref b23), .unset, .unset, .unset, .unset, .unset, .unset] [(.ref b23)]))
    refine Goes.step (fun t k => XS.astore X29.here hx rfl (hb hby at_127) rfl rfl (l' := #[.val (.int p0), .val (.int p1), .val (.int p2), .val (.int x2_0), .val (.int x4_0), .val (.int (1 : Int32)), .val (.int (0 : Int32)), .val (.ref b8), .val (.ref b14), .val (.ref b23), .val (.ref b23), .unset, .unset, .unset, .unset, .unset]) rfl k) ?_
    show Goes _ _ _ _ _ _ _ (T29.setTop (mkF m 129 #[.val (.int p0), .val (.int p1), .val (.int p2), .val (.int x2_0), .val (.int x4_0), .val (.int (1 : Int32)), .val (.int (0 : Int32)), .val (.ref b8), .val (.ref b14), .val (.ref b23), .val (.ref b23), .unset, .unset, .unset, .unset, .unset] []))
    obtain ⟨T34, h34, X34, e34, E34, A34, D34, -, st34⟩ := newO X29 hx hZ hown (hw _ (List.mem_of_getElem? (i := 30) rfl)) (hw _ (List.mem_of_getElem? (i := 31) rfl)) (hw _ (List.mem_of_getElem? (i := 32) rfl)) e29 (g := (mkF m 129 #[.val (.int p0), .val (.int p1), .val (.int p2), .val (.int x2_0), .val (.int x4_0), .val (.int (1 : Int32)), .val (.int (0 : Int32)), .val (.ref b8), .val (.ref b14), .val (.ref b23), .val (.ref b23), .unset, .unset, .unset, .unset, .unset] [])) rfl (hb hby at_129) (by decide) (by decide)
    obtain ⟨b34, g34⟩ : ∃ z, z = h29.size := ⟨_, rfl⟩
    rw [← g34] at A34 D34 st34
    have ne_b8_b34 : b8 ≠ b34 := Nat.ne_of_lt (Nat.lt_of_lt_of_le F31.lt (Nat.le_of_eq g34.symm))
    have ne_b14_b34 : b14 ≠ b34 := Nat.ne_of_lt (Nat.lt_of_lt_of_le F32.lt (Nat.le_of_eq g34.symm))
    have ne_b23_b34 : b23 ≠ b34 := Nat.ne_of_lt (Nat.lt_of_lt_of_le G29_0.lt (Nat.le_of_eq g34.symm))
    have Zs34 : n0 ≤ b34 := Nat.le_trans Z29 (Nat.le_of_eq g34.symm)
    have Zh34 : h0.size ≤ b34 := Nat.le_trans K29.1 (Nat.le_of_eq g34.symm)
    have F35 := F30.ext E34
    have F36 := F31.ext E34
    have F37 := F32.ext E34
    have F38 := G29_0.ext E34
    have K34 := K29.ext E34
    have Z34 := Nat.le_trans Z29 E34.1
    have F39 : Fld Z h34 b34 "com/example/vigilant_schema/vigilantschema/Node$BooleanNode" "value" "Z" (.int (0 : Int32)) := D34 (Or.inr (hw _ (List.mem_of_getElem? (i := 38) rfl))) (ty := .boolean) (by decide)
    have F40 : Fld Z h34 b34 "com/example/vigilant_schema/vigilantschema/Node$BooleanNode" "written" "Ljava/lang/String;" .null := D34 (Or.inr (hw _ (List.mem_of_getElem? (i := 40) rfl))) (ty := (.object "java/lang/String")) (by decide)
    refine Goes.step (fun t k => st34 t k) ?_
    show Goes _ _ _ _ _ _ _ (T34.setTop (mkF m 132 #[.val (.int p0), .val (.int p1), .val (.int p2), .val (.int x2_0), .val (.int x4_0), .val (.int (1 : Int32)), .val (.int (0 : Int32)), .val (.ref b8), .val (.ref b14), .val (.ref b23), .val (.ref b23), .unset, .unset, .unset, .unset, .unset] [(.ref b34)]))
    refine Goes.step (fun t k => XS.dup X34.here hx rfl (hb hby at_132) rfl rfl k) ?_
    show Goes _ _ _ _ _ _ _ (T34.setTop (mkF m 133 #[.val (.int p0), .val (.int p1), .val (.int p2), .val (.int x2_0), .val (.int x4_0), .val (.int (1 : Int32)), .val (.int (0 : Int32)), .val (.ref b8), .val (.ref b14), .val (.ref b23), .val (.ref b23), .unset, .unset, .unset, .unset, .unset] [(.ref b34), (.ref b34)]))
    refine Goes.step (fun t k => XS.iloadN X34.here hx rfl (hb hby at_133) rfl k) ?_
    show Goes _ _ _ _ _ _ _ (T34.setTop (mkF m 134 #[.val (.int p0), .val (.int p1), .val (.int p2), .val (.int x2_0), .val (.int x4_0), .val (.int (1 : Int32)), .val (.int (0 : Int32)), .val (.ref b8), .val (.ref b14), .val (.ref b23), .val (.ref b23), .unset, .unset, .unset, .unset, .unset] [(.int x2_0), (.ref b34), (.ref b34)]))
    refine Goes.step (fun t k => XS.aload X34.here hx rfl (hb hby at_134) rfl rfl k) ?_
    show Goes _ _ _ _ _ _ _ (T34.setTop (mkF m 136 #[.val (.int p0), .val (.int p1), .val (.int p2), .val (.int x2_0), .val (.int x4_0), .val (.int (1 : Int32)), .val (.int (0 : Int32)), .val (.ref b8), .val (.ref b14), .val (.ref b23), .val (.ref b23), .unset, .unset, .unset, .unset, .unset] [(.ref b23), (.int x2_0), (.ref b34), (.ref b34)]))
    obtain ⟨_, _, ⟨T41, L41, k41, n41⟩, -, X41, ⟨Lc41, hQ41, l41, y41, z41⟩, st41⟩ := X34.specialBack hx (y := (⟨"com/example/vigilant_schema/vigilantschema/Node$BooleanNode", "<init>", "(ZLjava/lang/String;)V"⟩ : MethodName)) rfl hown (mvT hZ (hw _ (List.mem_of_getElem? (i := 33) rfl))) (mvT hZ (hw _ (List.mem_of_getElem? (i := 34) rfl))) (mvT hZ (hw _ (List.mem_of_getElem? (i := 35) rfl))) (by decide) (backOf (W := 1) (rm7 l Z tA hw [] b34 x2_0 b23 h34 n0 Z34 A34 F39 F40 Zs34) hZ (hw _ (List.mem_of_getElem? (i := 35) rfl)) (hw _ (List.mem_of_getElem? (i := 32) rfl)) (by decide) (by decide)) (g := (mkF m 136 #[.val (.int p0), .val (.int p1), .val (.int p2), .val (.int x2_0), .val (.int x4_0), .val (.int (1 : Int32)), .val (.int (0 : Int32)), .val (.ref b8), .val (.ref b14), .val (.ref b23), .val (.ref b23), .unset, .unset, .unset, .unset, .unset] [(.ref b23), (.int x2_0), (.ref b34), (.ref b34)])) rfl (by rw [hml]; rfl) (Steps.refl _) (a := b34) (argsL := [(.int x2_0), (.ref b23)]) (rest := [(.ref b34)]) (lenOf own_pd1 rfl) rfl (by show 2 * 0 + _ ≤ _; exact Nat.le_of_eq rfl) (hb hby at_136) (fun _ _ => ⟨rfl, e34, (by decide : 5 + 0 ≤ _), (by decide : 12 + 0 ≤ _)⟩)
    dsimp only [Pt.U, Pt.locs, Pt.cells, Pt.slots] at X41 l41 y41 z41 st41 hQ41
    rw [l41, y41, z41] at X41
    generalize e41 : T41.heap = h41 at hQ41
    obtain ⟨rfl, Nq41, Kq41, G41_0, G41_1, G41_2⟩ := hQ41
    have F42 := own_sta_keep F35 Kq41 (allS (notsta_exa A34) all0)
    have F43 := F36.keep Kq41 (ninS ne_b8_b34 nin0)
    have F44 := F37.keep Kq41 (ninS ne_b14_b34 nin0)
    have F45 := F38.keep Kq41
    have N41 := Fr.app N29 Nq41
    have K41 := K34.trans Kq41 (allS (Or.inr Zh34) all0)
    have Z41 := Nat.le_trans Z34 Kq41.1
    change Stand _ _ _ _ _ _ _ _ _ _ _ _ 5 12 at X41
    refine Goes.step (fun t k => st41.trans k) ?_
    show Goes _ _ _ _ _ _ _ (T41.setTop (mkF m 139 #[.val (.int p0), .val (.int p1), .val (.int p2), .val (.int x2_0), .val (.int x4_0), .val (.int (1 : Int32)), .val (.int (0 : Int32)), .val (.ref b8), .val (.ref b14), .val (.ref b23), .val (.ref b23), .unset, .unset, .unset, .unset, .unset] [(.ref b34)]))
    refine Goes.step (fun t k => XS.astore X41.here hx rfl (hb hby at_139) rfl rfl (l' := #[.val (.int p0), .val (.int p1), .val (.int p2), .val (.int x2_0), .val (.int x4_0), .val (.int (1 : Int32)), .val (.int (0 : Int32)), .val (.ref b8), .val (.ref b14), .val (.ref b23), .val (.ref b23), .val (.ref b34), .unset, .unset, .unset, .unset]) rfl k) ?_
    show Goes _ _ _ _ _ _ _ (T41.setTop (mkF m 141 #[.val (.int p0), .val (.int p1), .val (.int p2), .val (.int x2_0), .val (.int x4_0), .val (.int (1 : Int32)), .val (.int (0 : Int32)), .val (.ref b8), .val (.ref b14), .val (.ref b23), .val (.ref b23), .val (.ref b34), .unset, .unset, .unset, .unset] []))
    refine Goes.step (fun t k => XS.iconst X41.here hx rfl (hb hby at_141) k) ?_
    show Goes _ _ _ _ _ _ _ (T41.setTop (mkF m 142 #[.val (.int p0), .val (.int p1), .val (.int p2), .val (.int x2_0), .val (.int x4_0), .val (.int (1 : Int32)), .val (.int (0 : Int32)), .val (.ref b8), .val (.ref b14), .val (.ref b23), .val (.ref b23), .val (.ref b34), .unset, .unset, .unset, .unset] [(.int (1 : Int32))]))
    refine Goes.step (fun t k => XS.istore X41.here hx rfl (hb hby at_142) rfl (l' := #[.val (.int p0), .val (.int p1), .val (.int p2), .val (.int x2_0), .val (.int x4_0), .val (.int (1 : Int32)), .val (.int (0 : Int32)), .val (.ref b8), .val (.ref b14), .val (.ref b23), .val (.ref b23), .val (.ref b34), .unset, .unset, .val (.int (1 : Int32)), .unset]) rfl k) ?_
    show Goes _ _ _ _ _ _ _ (T41.setTop (mkF m 144 #[.val (.int p0), .val (.int p1), .val (.int p2), .val (.int x2_0), .val (.int x4_0), .val (.int (1 : Int32)), .val (.int (0 : Int32)), .val (.ref b8), .val (.ref b14), .val (.ref b23), .val (.ref b23), .val (.ref b34), .unset, .unset, .val (.int (1 : Int32)), .unset] []))
    refine Goes.step (fun t k => XS.iload X41.here hx rfl (hb hby at_144) rfl k) ?_
    show Goes _ _ _ _ _ _ _ (T41.setTop (mkF m 146 #[.val (.int p0), .val (.int p1), .val (.int p2), .val (.int x2_0), .val (.int x4_0), .val (.int (1 : Int32)), .val (.int (0 : Int32)), .val (.ref b8), .val (.ref b14), .val (.ref b23), .val (.ref b23), .val (.ref b34), .unset, .unset, .val (.int (1 : Int32)), .unset] [(.int (0 : Int32))]))
    refine Goes.step (fun t k => XS.ifNo X41.here hx rfl (hb hby at_146) rfl ((if0 _ _).trans (teq (by decide)).2) k) ?_
    show Goes _ _ _ _ _ _ _ (T41.setTop (mkF m 149 #[.val (.int p0), .val (.int p1), .val (.int p2), .val (.int x2_0), .val (.int x4_0), .val (.int (1 : Int32)), .val (.int (0 : Int32)), .val (.ref b8), .val (.ref b14), .val (.ref b23), .val (.ref b23), .val (.ref b34), .unset, .unset, .val (.int (1 : Int32)), .unset] []))
    obtain ⟨T47, h47, X47, e47, E47, A47, D47, -, st47⟩ := newO X41 hx hZ hown (hw _ (List.mem_of_getElem? (i := 30) rfl)) (hw _ (List.mem_of_getElem? (i := 31) rfl)) (hw _ (List.mem_of_getElem? (i := 32) rfl)) e41 (g := (mkF m 149 #[.val (.int p0), .val (.int p1), .val (.int p2), .val (.int x2_0), .val (.int x4_0), .val (.int (1 : Int32)), .val (.int (0 : Int32)), .val (.ref b8), .val (.ref b14), .val (.ref b23), .val (.ref b23), .val (.ref b34), .unset, .unset, .val (.int (1 : Int32)), .unset] [])) rfl (hb hby at_149) (by decide) (by decide)
    obtain ⟨b47, g47⟩ : ∃ z, z = h41.size := ⟨_, rfl⟩
    rw [← g47] at A47 D47 st47
    have ne_b8_b47 : b8 ≠ b47 := Nat.ne_of_lt (Nat.lt_of_lt_of_le F43.lt (Nat.le_of_eq g47.symm))
    have ne_b14_b47 : b14 ≠ b47 := Nat.ne_of_lt (Nat.lt_of_lt_of_le F44.lt (Nat.le_of_eq g47.symm))
    have ne_b23_b47 : b23 ≠ b47 := Nat.ne_of_lt (Nat.lt_of_lt_of_le F45.lt (Nat.le_of_eq g47.symm))
    have ne_b34_b47 : b34 ≠ b47 := Nat.ne_of_lt (Nat.lt_of_lt_of_le G41_0.lt (Nat.le_of_eq g47.symm))
    have Zs47 : n0 ≤ b47 := Nat.le_trans Z41 (Nat.le_of_eq g47.symm)
    have Zh47 : h0.size ≤ b47 := Nat.le_trans K41.1 (Nat.le_of_eq g47.symm)
    have F48 := F42.ext E47
    have F49 := F43.ext E47
    have F50 := F44.ext E47
    have F51 := F45.ext E47
    have F52 := G41_0.ext E47
    have F53 := G41_1.ext E47
    have F54 := G41_2.ext E47
    have K47 := K41.ext E47
    have Z47 := Nat.le_trans Z41 E47.1
    have F55 : Fld Z h47 b47 "com/example/vigilant_schema/vigilantschema/Node$BooleanNode" "value" "Z" (.int (0 : Int32)) := D47 (Or.inr (hw _ (List.mem_of_getElem? (i := 38) rfl))) (ty := .boolean) (by decide)
    have F56 : Fld Z h47 b47 "com/example/vigilant_schema/vigilantschema/Node$BooleanNode" "written" "Ljava/lang/String;" .null := D47 (Or.inr (hw _ (List.mem_of_getElem? (i := 40) rfl))) (ty := (.object "java/lang/String")) (by decide)
    refine Goes.step (fun t k => st47 t k) ?_
    show Goes _ _ _ _ _ _ _ (T47.setTop (mkF m 152 #[.val (.int p0), .val (.int p1), .val (.int p2), .val (.int x2_0), .val (.int x4_0), .val (.int (1 : Int32)), .val (.int (0 : Int32)), .val (.ref b8), .val (.ref b14), .val (.ref b23), .val (.ref b23), .val (.ref b34), .unset, .unset, .val (.int (1 : Int32)), .unset] [(.ref b47)]))
    refine Goes.step (fun t k => XS.dup X47.here hx rfl (hb hby at_152) rfl rfl k) ?_
    show Goes _ _ _ _ _ _ _ (T47.setTop (mkF m 153 #[.val (.int p0), .val (.int p1), .val (.int p2), .val (.int x2_0), .val (.int x4_0), .val (.int (1 : Int32)), .val (.int (0 : Int32)), .val (.ref b8), .val (.ref b14), .val (.ref b23), .val (.ref b23), .val (.ref b34), .unset, .unset, .val (.int (1 : Int32)), .unset] [(.ref b47), (.ref b47)]))
    refine Goes.step (fun t k => XS.iload X47.here hx rfl (hb hby at_153) rfl k) ?_
    show Goes _ _ _ _ _ _ _ (T47.setTop (mkF m 155 #[.val (.int p0), .val (.int p1), .val (.int p2), .val (.int x2_0), .val (.int x4_0), .val (.int (1 : Int32)), .val (.int (0 : Int32)), .val (.ref b8), .val (.ref b14), .val (.ref b23), .val (.ref b23), .val (.ref b34), .unset, .unset, .val (.int (1 : Int32)), .unset] [(.int x4_0), (.ref b47), (.ref b47)]))
    refine Goes.step (fun t k => XS.aload X47.here hx rfl (hb hby at_155) rfl rfl k) ?_
    show Goes _ _ _ _ _ _ _ (T47.setTop (mkF m 157 #[.val (.int p0), .val (.int p1), .val (.int p2), .val (.int x2_0), .val (.int x4_0), .val (.int (1 : Int32)), .val (.int (0 : Int32)), .val (.ref b8), .val (.ref b14), .val (.ref b23), .val (.ref b23), .val (.ref b34), .unset, .unset, .val (.int (1 : Int32)), .unset] [(.ref b23), (.int x4_0), (.ref b47), (.ref b47)]))
    obtain ⟨_, _, ⟨T57, L57, k57, n57⟩, -, X57, ⟨Lc57, hQ57, l57, y57, z57⟩, st57⟩ := X47.specialBack hx (y := (⟨"com/example/vigilant_schema/vigilantschema/Node$BooleanNode", "<init>", "(ZLjava/lang/String;)V"⟩ : MethodName)) rfl hown (mvT hZ (hw _ (List.mem_of_getElem? (i := 33) rfl))) (mvT hZ (hw _ (List.mem_of_getElem? (i := 34) rfl))) (mvT hZ (hw _ (List.mem_of_getElem? (i := 35) rfl))) (by decide) (backOf (W := 1) (rm7 l Z tA hw [] b47 x4_0 b23 h47 n0 Z47 A47 F55 F56 Zs47) hZ (hw _ (List.mem_of_getElem? (i := 35) rfl)) (hw _ (List.mem_of_getElem? (i := 32) rfl)) (by decide) (by decide)) (g := (mkF m 157 #[.val (.int p0), .val (.int p1), .val (.int p2), .val (.int x2_0), .val (.int x4_0), .val (.int (1 : Int32)), .val (.int (0 : Int32)), .val (.ref b8), .val (.ref b14), .val (.ref b23), .val (.ref b23), .val (.ref b34), .unset, .unset, .val (.int (1 : Int32)), .unset] [(.ref b23), (.int x4_0), (.ref b47), (.ref b47)])) rfl (by rw [hml]; rfl) (Steps.refl _) (a := b47) (argsL := [(.int x4_0), (.ref b23)]) (rest := [(.ref b47)]) (lenOf own_pd1 rfl) rfl (by show 2 * 0 + _ ≤ _; exact Nat.le_of_eq rfl) (hb hby at_157) (fun _ _ => ⟨rfl, e47, (by decide : 6 + 0 ≤ _), (by decide : 14 + 0 ≤ _)⟩)
    dsimp only [Pt.U, Pt.locs, Pt.cells, Pt.slots] at X57 l57 y57 z57 st57 hQ57
    rw [l57, y57, z57] at X57
    generalize e57 : T57.heap = h57 at hQ57
    obtain ⟨rfl, Nq57, Kq57, G57_0, G57_1, G57_2⟩ := hQ57
    have F58 := own_sta_keep F48 Kq57 (allS (notsta_exa A47) all0)
    have F59 := F49.keep Kq57 (ninS ne_b8_b47 nin0)
    have F60 := F50.keep Kq57 (ninS ne_b14_b47 nin0)
    have F61 := F51.keep Kq57
    have F62 := F52.keep Kq57
    have F63 := F53.keep Kq57 (ninS ne_b34_b47 nin0)
    have F64 := F54.keep Kq57 (ninS ne_b34_b47 nin0)
    have N57 := Fr.app N41 Nq57
    have K57 := K47.trans Kq57 (allS (Or.inr Zh47) all0)
    have Z57 := Nat.le_trans Z47 Kq57.1
    change Stand _ _ _ _ _ _ _ _ _ _ _ _ 6 14 at X57
    refine Goes.step (fun t k => st57.trans k) ?_
    show Goes _ _ _ _ _ _ _ (T57.setTop (mkF m 160 #[.val (.int p0), .val (.int p1), .val (.int p2), .val (.int x2_0), .val (.int x4_0), .val (.int (1 : Int32)), .val (.int (0 : Int32)), .val (.ref b8), .val (.ref b14), .val (.ref b23), .val (.ref b23), .val (.ref b34), .unset, .unset, .val (.int (1 : Int32)), .unset] [(.ref b47)]))
    refine Goes.step (fun t k => XS.astore X57.here hx rfl (hb hby at_160) rfl rfl (l' := #[.val (.int p0), .val (.int p1), .val (.int p2), .val (.int x2_0), .val (.int x4_0), .val (.int (1 : Int32)), .val (.int (0 : Int32)), .val (.ref b8), .val (.ref b14), .val (.ref b23), .val (.ref b23), .val (.ref b34), .unset, .unset, .val (.int (1 : Int32)), .val (.ref b47)]) rfl k) ?_
    show Goes _ _ _ _ _ _ _ (T57.setTop (mkF m 162 #[.val (.int p0), .val (.int p1), .val (.int p2), .val (.int x2_0), .val (.int x4_0), .val (.int (1 : Int32)), .val (.int (0 : Int32)), .val (.ref b8), .val (.ref b14), .val (.ref b23), .val (.ref b23), .val (.ref b34), .unset, .unset, .val (.int (1 : Int32)), .val (.ref b47)] []))
    refine Goes.step (fun t k => XS.aload X57.here hx rfl (hb hby at_162) rfl rfl k) ?_
    show Goes _ _ _ _ _ _ _ (T57.setTop (mkF m 164 #[.val (.int p0), .val (.int p1), .val (.int p2), .val (.int x2_0), .val (.int x4_0), .val (.int (1 : Int32)), .val (.int (0 : Int32)), .val (.ref b8), .val (.ref b14), .val (.ref b23), .val (.ref b23), .val (.ref b34), .unset, .unset, .val (.int (1 : Int32)), .val (.ref b47)] [(.ref b47)]))
    refine Goes.step (fun t k => XS.astore X57.here hx rfl (hb hby at_164) rfl rfl (l' := #[.val (.int p0), .val (.int p1), .val (.int p2), .val (.int x2_0), .val (.int x4_0), .val (.int (1 : Int32)), .val (.int (0 : Int32)), .val (.ref b8), .val (.ref b14), .val (.ref b23), .val (.ref b23), .val (.ref b34), .val (.ref b47), .unset, .val (.int (1 : Int32)), .val (.ref b47)]) rfl k) ?_
    show Goes _ _ _ _ _ _ _ (T57.setTop (mkF m 166 #[.val (.int p0), .val (.int p1), .val (.int p2), .val (.int x2_0), .val (.int x4_0), .val (.int (1 : Int32)), .val (.int (0 : Int32)), .val (.ref b8), .val (.ref b14), .val (.ref b23), .val (.ref b23), .val (.ref b34), .val (.ref b47), .unset, .val (.int (1 : Int32)), .val (.ref b47)] []))
    refine Goes.step (fun t k => XS.iloadN X57.here hx rfl (hb hby at_166) rfl k) ?_
    show Goes _ _ _ _ _ _ _ (T57.setTop (mkF m 167 #[.val (.int p0), .val (.int p1), .val (.int p2), .val (.int x2_0), .val (.int x4_0), .val (.int (1 : Int32)), .val (.int (0 : Int32)), .val (.ref b8), .val (.ref b14), .val (.ref b23), .val (.ref b23), .val (.ref b34), .val (.ref b47), .unset, .val (.int (1 : Int32)), .val (.ref b47)] [(.int x2_0)]))
    refine Goes.step (fun t k => XS.iload X57.here hx rfl (hb hby at_167) rfl k) ?_
    show Goes _ _ _ _ _ _ _ (T57.setTop (mkF m 169 #[.val (.int p0), .val (.int p1), .val (.int p2), .val (.int x2_0), .val (.int x4_0), .val (.int (1 : Int32)), .val (.int (0 : Int32)), .val (.ref b8), .val (.ref b14), .val (.ref b23), .val (.ref b23), .val (.ref b34), .val (.ref b47), .unset, .val (.int (1 : Int32)), .val (.ref b47)] [(.int x4_0), (.int x2_0)]))
    suffices k66 : ∀ (x66_0 : Int32), x66_0 = (if x2_0 = x4_0 then (1 : Int32) else (0 : Int32)) → Goes p e below s (Q0 Z p0 p1 p2 wC h0 n0) kC0 kS0 (T57.setTop (mkF m 177 #[.val (.int p0), .val (.int p1), .val (.int p2), .val (.int x2_0), .val (.int x4_0), .val (.int (1 : Int32)), .val (.int (0 : Int32)), .val (.ref b8), .val (.ref b14), .val (.ref b23), .val (.ref b23), .val (.ref b34), .val (.ref b47), .unset, .val (.int (1 : Int32)), .val (.ref b47)] [(.int x66_0)])) by
      by_cases hc169_65 : x2_0 = x4_0
      · refine Goes.step (fun t k => XS.icmpNo X57.here hx rfl (hb hby at_169) rfl (teq hc169_65).2 k) ?_
        show Goes _ _ _ _ _ _ _ (T57.setTop (mkF m 172 #[.val (.int p0), .val (.int p1), .val (.int p2), .val (.int x2_0), .val (.int x4_0), .val (.int (1 : Int32)), .val (.int (0 : Int32)), .val (.ref b8), .val (.ref b14), .val (.ref b23), .val (.ref b23), .val (.ref b34), .val (.ref b47), .unset, .val (.int (1 : Int32)), .val (.ref b47)] []))
        refine Goes.step (fun t k => XS.iconst X57.here hx rfl (hb hby at_172) k) ?_
        show Goes _ _ _ _ _ _ _ (T57.setTop (mkF m 173 #[.val (.int p0), .val (.int p1), .val (.int p2), .val (.int x2_0), .val (.int x4_0), .val (.int (1 : Int32)), .val (.int (0 : Int32)), .val (.ref b8), .val (.ref b14), .val (.ref b23), .val (.ref b23), .val (.ref b34), .val (.ref b47), .unset, .val (.int (1 : Int32)), .val (.ref b47)] [(.int (1 : Int32))]))
        refine Goes.step (fun t k => XS.goto X57.here hx rfl (pc0 := 173) (pc' := 177) rfl (hb hby at_173) (by decide) (by decide) k) ?_
        show Goes _ _ _ _ _ _ _ (T57.setTop (mkF m 177 #[.val (.int p0), .val (.int p1), .val (.int p2), .val (.int x2_0), .val (.int x4_0), .val (.int (1 : Int32)), .val (.int (0 : Int32)), .val (.ref b8), .val (.ref b14), .val (.ref b23), .val (.ref b23), .val (.ref b34), .val (.ref b47), .unset, .val (.int (1 : Int32)), .val (.ref b47)] [(.int (1 : Int32))]))
        exact k66 _ (if_pos hc169_65).symm
      · refine Goes.step (fun t k => XS.icmpYes X57.here hx rfl (pc0 := 169) (pc' := 176) rfl (hb hby at_169) rfl (feq hc169_65).2 (by decide) (by decide) k) ?_
        show Goes _ _ _ _ _ _ _ (T57.setTop (mkF m 176 #[.val (.int p0), .val (.int p1), .val (.int p2), .val (.int x2_0), .val (.int x4_0), .val (.int (1 : Int32)), .val (.int (0 : Int32)), .val (.ref b8), .val (.ref b14), .val (.ref b23), .val (.ref b23), .val (.ref b34), .val (.ref b47), .unset, .val (.int (1 : Int32)), .val (.ref b47)] []))
        refine Goes.step (fun t k => XS.iconst X57.here hx rfl (hb hby at_176) k) ?_
        show Goes _ _ _ _ _ _ _ (T57.setTop (mkF m 177 #[.val (.int p0), .val (.int p1), .val (.int p2), .val (.int x2_0), .val (.int x4_0), .val (.int (1 : Int32)), .val (.int (0 : Int32)), .val (.ref b8), .val (.ref b14), .val (.ref b23), .val (.ref b23), .val (.ref b34), .val (.ref b47), .unset, .val (.int (1 : Int32)), .val (.ref b47)] [(.int (0 : Int32))]))
        exact k66 _ (if_neg hc169_65).symm
    intro x66_0 hx66_0
    refine Goes.step (fun t k => XS.istore X57.here hx rfl (hb hby at_177) rfl (l' := #[.val (.int p0), .val (.int p1), .val (.int p2), .val (.int x2_0), .val (.int x4_0), .val (.int (1 : Int32)), .val (.int (0 : Int32)), .val (.ref b8), .val (.ref b14), .val (.ref b23), .val (.ref b23), .val (.ref b34), .val (.ref b47), .val (.int x66_0), .val (.int (1 : Int32)), .val (.ref b47)]) rfl k) ?_
    show Goes _ _ _ _ _ _ _ (T57.setTop (mkF m 179 #[.val (.int p0), .val (.int p1), .val (.int p2), .val (.int x2_0), .val (.int x4_0), .val (.int (1 : Int32)), .val (.int (0 : Int32)), .val (.ref b8), .val (.ref b14), .val (.ref b23), .val (.ref b23), .val (.ref b34), .val (.ref b47), .val (.int x66_0), .val (.int (1 : Int32)), .val (.ref b47)] []))
    refine Goes.step (fun t k => XS.aload X57.here hx rfl (hb hby at_179) rfl rfl k) ?_
    show Goes _ _ _ _ _ _ _ (T57.setTop (mkF m 181 #[.val (.int p0), .val (.int p1), .val (.int p2), .val (.int x2_0), .val (.int x4_0), .val (.int (1 : Int32)), .val (.int (0 : Int32)), .val (.ref b8), .val (.ref b14), .val (.ref b23), .val (.ref b23), .val (.ref b34), .val (.ref b47), .val (.int x66_0), .val (.int (1 : Int32)), .val (.ref b47)] [(.ref b47)]))
    refine Goes.step (fun t k => XS.aload X57.here hx rfl (hb hby at_181) rfl rfl k) ?_
    show Goes _ _ _ _ _ _ _ (T57.setTop (mkF m 183 #[.val (.int p0), .val (.int p1), .val (.int p2), .val (.int x2_0), .val (.int x4_0), .val (.int (1 : Int32)), .val (.int (0 : Int32)), .val (.ref b8), .val (.ref b14), .val (.ref b23), .val (.ref b23), .val (.ref b34), .val (.ref b47), .val (.int x66_0), .val (.int (1 : Int32)), .val (.ref b47)] [(.ref b34), (.ref b47)]))
    obtain ⟨cq67, kq67, q67a, q67b, q67c⟩ := isOf hZ e57 G57_0
    obtain ⟨_, _, ⟨T67, L67, k67, n67⟩, -, X67, ⟨Lc67, hQ67, l67, y67, z67⟩, st67⟩ := X57.virtualBack hx (y := (⟨"com/example/vigilant_schema/vigilantschema/Node$BooleanNode", "equals", "(Ljava/lang/Object;)Z"⟩ : MethodName)) (z := (⟨"com/example/vigilant_schema/vigilantschema/Node$BooleanNode", "equals", "(Ljava/lang/Object;)Z"⟩ : MethodName)) hown (mvT hZ (hw _ (List.mem_of_getElem? (i := 41) rfl))) (mvT hZ (hw _ (List.mem_of_getElem? (i := 42) rfl))) (notFace_of_selects (args := #[]) (mvT hZ (hw _ (List.mem_of_getElem? (i := 44) rfl)))) (mvT hZ (hw _ (List.mem_of_getElem? (i := 44) rfl))) (mvT hZ (hw _ (List.mem_of_getElem? (i := 43) rfl))) (by decide) (backOf (W := 0) (rm8B l Z tA hw [] b47 b34 (nar .boolean x2_0) (nar .boolean x4_0) h57 F62 F63 G57_1) hZ (hw _ (List.mem_of_getElem? (i := 45) rfl)) (hw _ (List.mem_of_getElem? (i := 32) rfl)) (by decide) (by decide)) q67a q67c (g := (mkF m 183 #[.val (.int p0), .val (.int p1), .val (.int p2), .val (.int x2_0), .val (.int x4_0), .val (.int (1 : Int32)), .val (.int (0 : Int32)), .val (.ref b8), .val (.ref b14), .val (.ref b23), .val (.ref b23), .val (.ref b34), .val (.ref b47), .val (.int x66_0), .val (.int (1 : Int32)), .val (.ref b47)] [(.ref b34), (.ref b47)])) rfl (by rw [hml]; rfl) (Steps.refl _) (argsL := [(.ref b34)]) (rest := []) (lenOf own_pd2 rfl) rfl (by show 2 * 0 + _ ≤ _; exact Nat.le_of_eq rfl) (hb hby at_183) (fun _ _ => ⟨rfl, e57, (by decide : 6 + 0 ≤ _), (by decide : 14 + 0 ≤ _)⟩)
    dsimp only [Pt.U, Pt.locs, Pt.cells, Pt.slots] at X67 l67 y67 z67 st67 hQ67
    rw [l67, y67, z67] at X67
    obtain ⟨rfl, rfl, e67⟩ := hQ67
    try rw [List.append_nil] at X67
    change Stand _ _ _ _ _ _ _ _ _ _ _ _ 6 14 at X67
    refine Goes.step (fun t k => st67.trans k) ?_
    show Goes _ _ _ _ _ _ _ (T67.setTop (mkF m 186 #[.val (.int p0), .val (.int p1), .val (.int p2), .val (.int x2_0), .val (.int x4_0), .val (.int (1 : Int32)), .val (.int (0 : Int32)), .val (.ref b8), .val (.ref b14), .val (.ref b23), .val (.ref b23), .val (.ref b34), .val (.ref b47), .val (.int x66_0), .val (.int (1 : Int32)), .val (.ref b47)] [(.int (f8B (nar .boolean x2_0) (nar .boolean x4_0)))]))
    refine Goes.step (fun t k => XS.iload X67.here hx rfl (hb hby at_186) rfl k) ?_
    show Goes _ _ _ _ _ _ _ (T67.setTop (mkF m 188 #[.val (.int p0), .val (.int p1), .val (.int p2), .val (.int x2_0), .val (.int x4_0), .val (.int (1 : Int32)), .val (.int (0 : Int32)), .val (.ref b8), .val (.ref b14), .val (.ref b23), .val (.ref b23), .val (.ref b34), .val (.ref b47), .val (.int x66_0), .val (.int (1 : Int32)), .val (.ref b47)] [(.int x66_0), (.int (f8B (nar .boolean x2_0) (nar .boolean x4_0)))]))
    suffices k69 : ∀ (x69_0 : Int32), x69_0 = (if (f8B (nar .boolean x2_0) (nar .boolean x4_0)) = x66_0 then (1 : Int32) else (0 : Int32)) → Goes p e below s (Q0 Z p0 p1 p2 wC h0 n0) kC0 kS0 (T67.setTop (mkF m 196 #[.val (.int p0), .val (.int p1), .val (.int p2), .val (.int x2_0), .val (.int x4_0), .val (.int (1 : Int32)), .val (.int (0 : Int32)), .val (.ref b8), .val (.ref b14), .val (.ref b23), .val (.ref b23), .val (.ref b34), .val (.ref b47), .val (.int x66_0), .val (.int (1 : Int32)), .val (.ref b47)] [(.int x69_0)])) by
      by_cases hc188_68 : (f8B (nar .boolean x2_0) (nar .boolean x4_0)) = x66_0
      · refine Goes.step (fun t k => XS.icmpNo X67.here hx rfl (hb hby at_188) rfl (teq hc188_68).2 k) ?_
        show Goes _ _ _ _ _ _ _ (T67.setTop (mkF m 191 #[.val (.int p0), .val (.int p1), .val (.int p2), .val (.int x2_0), .val (.int x4_0), .val (.int (1 : Int32)), .val (.int (0 : Int32)), .val (.ref b8), .val (.ref b14), .val (.ref b23), .val (.ref b23), .val (.ref b34), .val (.ref b47), .val (.int x66_0), .val (.int (1 : Int32)), .val (.ref b47)] []))
        refine Goes.step (fun t k => XS.iconst X67.here hx rfl (hb hby at_191) k) ?_
        show Goes _ _ _ _ _ _ _ (T67.setTop (mkF m 192 #[.val (.int p0), .val (.int p1), .val (.int p2), .val (.int x2_0), .val (.int x4_0), .val (.int (1 : Int32)), .val (.int (0 : Int32)), .val (.ref b8), .val (.ref b14), .val (.ref b23), .val (.ref b23), .val (.ref b34), .val (.ref b47), .val (.int x66_0), .val (.int (1 : Int32)), .val (.ref b47)] [(.int (1 : Int32))]))
        refine Goes.step (fun t k => XS.goto X67.here hx rfl (pc0 := 192) (pc' := 196) rfl (hb hby at_192) (by decide) (by decide) k) ?_
        show Goes _ _ _ _ _ _ _ (T67.setTop (mkF m 196 #[.val (.int p0), .val (.int p1), .val (.int p2), .val (.int x2_0), .val (.int x4_0), .val (.int (1 : Int32)), .val (.int (0 : Int32)), .val (.ref b8), .val (.ref b14), .val (.ref b23), .val (.ref b23), .val (.ref b34), .val (.ref b47), .val (.int x66_0), .val (.int (1 : Int32)), .val (.ref b47)] [(.int (1 : Int32))]))
        exact k69 _ (if_pos hc188_68).symm
      · refine Goes.step (fun t k => XS.icmpYes X67.here hx rfl (pc0 := 188) (pc' := 195) rfl (hb hby at_188) rfl (feq hc188_68).2 (by decide) (by decide) k) ?_
        show Goes _ _ _ _ _ _ _ (T67.setTop (mkF m 195 #[.val (.int p0), .val (.int p1), .val (.int p2), .val (.int x2_0), .val (.int x4_0), .val (.int (1 : Int32)), .val (.int (0 : Int32)), .val (.ref b8), .val (.ref b14), .val (.ref b23), .val (.ref b23), .val (.ref b34), .val (.ref b47), .val (.int x66_0), .val (.int (1 : Int32)), .val (.ref b47)] []))
        refine Goes.step (fun t k => XS.iconst X67.here hx rfl (hb hby at_195) k) ?_
        show Goes _ _ _ _ _ _ _ (T67.setTop (mkF m 196 #[.val (.int p0), .val (.int p1), .val (.int p2), .val (.int x2_0), .val (.int x4_0), .val (.int (1 : Int32)), .val (.int (0 : Int32)), .val (.ref b8), .val (.ref b14), .val (.ref b23), .val (.ref b23), .val (.ref b34), .val (.ref b47), .val (.int x66_0), .val (.int (1 : Int32)), .val (.ref b47)] [(.int (0 : Int32))]))
        exact k69 _ (if_neg hc188_68).symm
    intro x69_0 hx69_0
    refine Goes.step (fun t k => XS.istore X67.here hx rfl (hb hby at_196) rfl (l' := #[.val (.int p0), .val (.int p1), .val (.int p2), .val (.int x2_0), .val (.int x4_0), .val (.int (1 : Int32)), .val (.int (0 : Int32)), .val (.ref b8), .val (.ref b14), .val (.ref b23), .val (.ref b23), .val (.ref b34), .val (.ref b47), .val (.int x66_0), .val (.int x69_0), .val (.ref b47)]) rfl k) ?_
    show Goes _ _ _ _ _ _ _ (T67.setTop (mkF m 198 #[.val (.int p0), .val (.int p1), .val (.int p2), .val (.int x2_0), .val (.int x4_0), .val (.int (1 : Int32)), .val (.int (0 : Int32)), .val (.ref b8), .val (.ref b14), .val (.ref b23), .val (.ref b23), .val (.ref b34), .val (.ref b47), .val (.int x66_0), .val (.int x69_0), .val (.ref b47)] []))
    refine Goes.step (fun t k => XS.goto X67.here hx rfl (pc0 := 198) (pc' := 246) rfl (hb hby at_198) (by decide) (by decide) k) ?_
    show Goes _ _ _ _ _ _ _ (T67.setTop (mkF m 246 #[.val (.int p0), .val (.int p1), .val (.int p2), .val (.int x2_0), .val (.int x4_0), .val (.int (1 : Int32)), .val (.int (0 : Int32)), .val (.ref b8), .val (.ref b14), .val (.ref b23), .val (.ref b23), .val (.ref b34), .val (.ref b47), .val (.int x66_0), .val (.int x69_0), .val (.ref b47)] []))
    refine Goes.step (fun t k => XS.aload X67.here hx rfl (hb hby at_246) rfl rfl k) ?_
    show Goes _ _ _ _ _ _ _ (T67.setTop (mkF m 248 #[.val (.int p0), .val (.int p1), .val (.int p2), .val (.int x2_0), .val (.int x4_0), .val (.int (1 : Int32)), .val (.int (0 : Int32)), .val (.ref b8), .val (.ref b14), .val (.ref b23), .val (.ref b23), .val (.ref b34), .val (.ref b47), .val (.int x66_0), .val (.int x69_0), .val (.ref b47)] [(.ref b34)]))
    refine Goes.step (fun t k => XS.aload X67.here hx rfl (hb hby at_248) rfl rfl k) ?_
    show Goes _ _ _ _ _ _ _ (T67.setTop (mkF m 250 #[.val (.int p0), .val (.int p1), .val (.int p2), .val (.int x2_0), .val (.int x4_0), .val (.int (1 : Int32)), .val (.int (0 : Int32)), .val (.ref b8), .val (.ref b14), .val (.ref b23), .val (.ref b23), .val (.ref b34), .val (.ref b47), .val (.int x66_0), .val (.int x69_0), .val (.ref b47)] [(.ref b34), (.ref b34)]))
    obtain ⟨cq70, kq70, q70a, q70b, q70c⟩ := isOf hZ e67 F62
    obtain ⟨_, _, ⟨T70, L70, k70, n70⟩, -, X70, ⟨Lc70, hQ70, l70, y70, z70⟩, st70⟩ := X67.virtualBack hx (y := (⟨"com/example/vigilant_schema/vigilantschema/Node$BooleanNode", "equals", "(Ljava/lang/Object;)Z"⟩ : MethodName)) (z := (⟨"com/example/vigilant_schema/vigilantschema/Node$BooleanNode", "equals", "(Ljava/lang/Object;)Z"⟩ : MethodName)) hown (mvT hZ (hw _ (List.mem_of_getElem? (i := 41) rfl))) (mvT hZ (hw _ (List.mem_of_getElem? (i := 42) rfl))) (notFace_of_selects (args := #[]) (mvT hZ (hw _ (List.mem_of_getElem? (i := 44) rfl)))) (mvT hZ (hw _ (List.mem_of_getElem? (i := 44) rfl))) (mvT hZ (hw _ (List.mem_of_getElem? (i := 43) rfl))) (by decide) (backOf (W := 0) (rm8B l Z tA hw [] b34 b34 (nar .boolean x2_0) (nar .boolean x2_0) h57 F62 F63 F63) hZ (hw _ (List.mem_of_getElem? (i := 45) rfl)) (hw _ (List.mem_of_getElem? (i := 32) rfl)) (by decide) (by decide)) q70a q70c (g := (mkF m 250 #[.val (.int p0), .val (.int p1), .val (.int p2), .val (.int x2_0), .val (.int x4_0), .val (.int (1 : Int32)), .val (.int (0 : Int32)), .val (.ref b8), .val (.ref b14), .val (.ref b23), .val (.ref b23), .val (.ref b34), .val (.ref b47), .val (.int x66_0), .val (.int x69_0), .val (.ref b47)] [(.ref b34), (.ref b34)])) rfl (by rw [hml]; rfl) (Steps.refl _) (argsL := [(.ref b34)]) (rest := []) (lenOf own_pd2 rfl) rfl (by show 2 * 0 + _ ≤ _; exact Nat.le_of_eq rfl) (hb hby at_250) (fun _ _ => ⟨rfl, e67, (by decide : 6 + 0 ≤ _), (by decide : 14 + 0 ≤ _)⟩)
    dsimp only [Pt.U, Pt.locs, Pt.cells, Pt.slots] at X70 l70 y70 z70 st70 hQ70
    rw [l70, y70, z70] at X70
    obtain ⟨rfl, rfl, e70⟩ := hQ70
    try rw [List.append_nil] at X70
    change Stand _ _ _ _ _ _ _ _ _ _ _ _ 6 14 at X70
    refine Goes.step (fun t k => st70.trans k) ?_
    show Goes _ _ _ _ _ _ _ (T70.setTop (mkF m 253 #[.val (.int p0), .val (.int p1), .val (.int p2), .val (.int x2_0), .val (.int x4_0), .val (.int (1 : Int32)), .val (.int (0 : Int32)), .val (.ref b8), .val (.ref b14), .val (.ref b23), .val (.ref b23), .val (.ref b34), .val (.ref b47), .val (.int x66_0), .val (.int x69_0), .val (.ref b47)] [(.int (f8B (nar .boolean x2_0) (nar .boolean x2_0)))]))
    refine Goes.step (fun t k => XS.istore X70.here hx rfl (hb hby at_253) rfl (l' := #[.val (.int p0), .val (.int p1), .val (.int p2), .val (.int x2_0), .val (.int x4_0), .val (.int (1 : Int32)), .val (.int (0 : Int32)), .val (.ref b8), .val (.ref b14), .val (.ref b23), .val (.ref b23), .val (.ref b34), .val (.ref b47), .val (.int x66_0), .val (.int x69_0), .val (.int (f8B (nar .boolean x2_0) (nar .boolean x2_0)))]) rfl k) ?_
    show Goes _ _ _ _ _ _ _ (T70.setTop (mkF m 255 #[.val (.int p0), .val (.int p1), .val (.int p2), .val (.int x2_0), .val (.int x4_0), .val (.int (1 : Int32)), .val (.int (0 : Int32)), .val (.ref b8), .val (.ref b14), .val (.ref b23), .val (.ref b23), .val (.ref b34), .val (.ref b47), .val (.int x66_0), .val (.int x69_0), .val (.int (f8B (nar .boolean x2_0) (nar .boolean x2_0)))] []))
    generalize hy71 : (f8B (nar .boolean x2_0) (nar .boolean x2_0)) = y71
    refine Goes.step (fun t k => XS.iload X70.here hx rfl (hb hby at_255) rfl k) ?_
    show Goes _ _ _ _ _ _ _ (T70.setTop (mkF m 257 #[.val (.int p0), .val (.int p1), .val (.int p2), .val (.int x2_0), .val (.int x4_0), .val (.int (1 : Int32)), .val (.int (0 : Int32)), .val (.ref b8), .val (.ref b14), .val (.ref b23), .val (.ref b23), .val (.ref b34), .val (.ref b47), .val (.int x66_0), .val (.int x69_0), .val (.int y71)] [(.int y71)]))
    suffices k76 : ∀ (T76 : State) (L76 : List Loc) (x76_0 : Int32), Stand p l e room_1 s m #[(.int p0), (.int p1), (.int p2)] below meth c T76 L76 6 14 → T76.heap = h57 → Fr n0 L76 → x76_0 = (if y71 = (0 : Int32) then (0 : Int32) else (if x69_0 = (0 : Int32) then (0 : Int32) else (if (f8B (nar .boolean x4_0) (nar .boolean x2_0)) = x66_0 then (1 : Int32) else (0 : Int32)))) → Goes p e below s (Q0 Z p0 p1 p2 wC h0 n0) kC0 kS0 (T76.setTop (mkF m 282 #[.val (.int p0), .val (.int p1), .val (.int p2), .val (.int x2_0), .val (.int x4_0), .val (.int (1 : Int32)), .val (.int (0 : Int32)), .val (.ref b8), .val (.ref b14), .val (.ref b23), .val (.ref b23), .val (.ref b34), .val (.ref b47), .val (.int x66_0), .val (.int x69_0), .val (.int y71)] [(.int x76_0)])) by
      by_cases hc257_72 : y71 = (0 : Int32)
      · refine Goes.step (fun t k => XS.ifYes X70.here hx rfl (pc0 := 257) (pc' := 281) rfl (hb hby at_257) rfl ((if0 _ _).trans (teq hc257_72).1) (by decide) (by decide) k) ?_
        show Goes _ _ _ _ _ _ _ (T70.setTop (mkF m 281 #[.val (.int p0), .val (.int p1), .val (.int p2), .val (.int x2_0), .val (.int x4_0), .val (.int (1 : Int32)), .val (.int (0 : Int32)), .val (.ref b8), .val (.ref b14), .val (.ref b23), .val (.ref b23), .val (.ref b34), .val (.ref b47), .val (.int x66_0), .val (.int x69_0), .val (.int y71)] []))
        refine Goes.step (fun t k => XS.iconst X70.here hx rfl (hb hby at_281) k) ?_
        show Goes _ _ _ _ _ _ _ (T70.setTop (mkF m 282 #[.val (.int p0), .val (.int p1), .val (.int p2), .val (.int x2_0), .val (.int x4_0), .val (.int (1 : Int32)), .val (.int (0 : Int32)), .val (.ref b8), .val (.ref b14), .val (.ref b23), .val (.ref b23), .val (.ref b34), .val (.ref b47), .val (.int x66_0), .val (.int x69_0), .val (.int y71)] [(.int (0 : Int32))]))
        exact k76 _ _ _ X70 e70 N57 (if_pos hc257_72).symm
      · refine Goes.step (fun t k => XS.ifNo X70.here hx rfl (hb hby at_257) rfl ((if0 _ _).trans (feq hc257_72).1) k) ?_
        show Goes _ _ _ _ _ _ _ (T70.setTop (mkF m 260 #[.val (.int p0), .val (.int p1), .val (.int p2), .val (.int x2_0), .val (.int x4_0), .val (.int (1 : Int32)), .val (.int (0 : Int32)), .val (.ref b8), .val (.ref b14), .val (.ref b23), .val (.ref b23), .val (.ref b34), .val (.ref b47), .val (.int x66_0), .val (.int x69_0), .val (.int y71)] []))
        refine Goes.step (fun t k => XS.iload X70.here hx rfl (hb hby at_260) rfl k) ?_
        show Goes _ _ _ _ _ _ _ (T70.setTop (mkF m 262 #[.val (.int p0), .val (.int p1), .val (.int p2), .val (.int x2_0), .val (.int x4_0), .val (.int (1 : Int32)), .val (.int (0 : Int32)), .val (.ref b8), .val (.ref b14), .val (.ref b23), .val (.ref b23), .val (.ref b34), .val (.ref b47), .val (.int x66_0), .val (.int x69_0), .val (.int y71)] [(.int x69_0)]))
        by_cases hc262_73 : x69_0 = (0 : Int32)
        · refine Goes.step (fun t k => XS.ifYes X70.here hx rfl (pc0 := 262) (pc' := 281) rfl (hb hby at_262) rfl ((if0 _ _).trans (teq hc262_73).1) (by decide) (by decide) k) ?_
          show Goes _ _ _ _ _ _ _ (T70.setTop (mkF m 281 #[.val (.int p0), .val (.int p1), .val (.int p2), .val (.int x2_0), .val (.int x4_0), .val (.int (1 : Int32)), .val (.int (0 : Int32)), .val (.ref b8), .val (.ref b14), .val (.ref b23), .val (.ref b23), .val (.ref b34), .val (.ref b47), .val (.int x66_0), .val (.int x69_0), .val (.int y71)] []))
          refine Goes.step (fun t k => XS.iconst X70.here hx rfl (hb hby at_281) k) ?_
          show Goes _ _ _ _ _ _ _ (T70.setTop (mkF m 282 #[.val (.int p0), .val (.int p1), .val (.int p2), .val (.int x2_0), .val (.int x4_0), .val (.int (1 : Int32)), .val (.int (0 : Int32)), .val (.ref b8), .val (.ref b14), .val (.ref b23), .val (.ref b23), .val (.ref b34), .val (.ref b47), .val (.int x66_0), .val (.int x69_0), .val (.int y71)] [(.int (0 : Int32))]))
          exact k76 _ _ _ X70 e70 N57 ((if_neg hc257_72).trans (if_pos hc262_73)).symm
        · refine Goes.step (fun t k => XS.ifNo X70.here hx rfl (hb hby at_262) rfl ((if0 _ _).trans (feq hc262_73).1) k) ?_
          show Goes _ _ _ _ _ _ _ (T70.setTop (mkF m 265 #[.val (.int p0), .val (.int p1), .val (.int p2), .val (.int x2_0), .val (.int x4_0), .val (.int (1 : Int32)), .val (.int (0 : Int32)), .val (.ref b8), .val (.ref b14), .val (.ref b23), .val (.ref b23), .val (.ref b34), .val (.ref b47), .val (.int x66_0), .val (.int x69_0), .val (.int y71)] []))
          refine Goes.step (fun t k => XS.aload X70.here hx rfl (hb hby at_265) rfl rfl k) ?_
          show Goes _ _ _ _ _ _ _ (T70.setTop (mkF m 267 #[.val (.int p0), .val (.int p1), .val (.int p2), .val (.int x2_0), .val (.int x4_0), .val (.int (1 : Int32)), .val (.int (0 : Int32)), .val (.ref b8), .val (.ref b14), .val (.ref b23), .val (.ref b23), .val (.ref b34), .val (.ref b47), .val (.int x66_0), .val (.int x69_0), .val (.int y71)] [(.ref b34)]))
          refine Goes.step (fun t k => XS.aload X70.here hx rfl (hb hby at_267) rfl rfl k) ?_
          show Goes _ _ _ _ _ _ _ (T70.setTop (mkF m 269 #[.val (.int p0), .val (.int p1), .val (.int p2), .val (.int x2_0), .val (.int x4_0), .val (.int (1 : Int32)), .val (.int (0 : Int32)), .val (.ref b8), .val (.ref b14), .val (.ref b23), .val (.ref b23), .val (.ref b34), .val (.ref b47), .val (.int x66_0), .val (.int x69_0), .val (.int y71)] [(.ref b47), (.ref b34)]))
          obtain ⟨cq74, kq74, q74a, q74b, q74c⟩ := isOf hZ e70 F62
          obtain ⟨_, _, ⟨T74, L74, k74, n74⟩, -, X74, ⟨Lc74, hQ74, l74, y74, z74⟩, st74⟩ := X70.virtualBack hx (y := (⟨"com/example/vigilant_schema/vigilantschema/Node$BooleanNode", "equals", "(Ljava/lang/Object;)Z"⟩ : MethodName)) (z := (⟨"com/example/vigilant_schema/vigilantschema/Node$BooleanNode", "equals", "(Ljava/lang/Object;)Z"⟩ : MethodName)) hown (mvT hZ (hw _ (List.mem_of_getElem? (i := 41) rfl))) (mvT hZ (hw _ (List.mem_of_getElem? (i := 42) rfl))) (notFace_of_selects (args := #[]) (mvT hZ (hw _ (List.mem_of_getElem? (i := 44) rfl)))) (mvT hZ (hw _ (List.mem_of_getElem? (i := 44) rfl))) (mvT hZ (hw _ (List.mem_of_getElem? (i := 43) rfl))) (by decide) (backOf (W := 0) (rm8B l Z tA hw [] b34 b47 (nar .boolean x4_0) (nar .boolean x2_0) h57 G57_0 G57_1 F63) hZ (hw _ (List.mem_of_getElem? (i := 45) rfl)) (hw _ (List.mem_of_getElem? (i := 32) rfl)) (by decide) (by decide)) q74a q74c (g := (mkF m 269 #[.val (.int p0), .val (.int p1), .val (.int p2), .val (.int x2_0), .val (.int x4_0), .val (.int (1 : Int32)), .val (.int (0 : Int32)), .val (.ref b8), .val (.ref b14), .val (.ref b23), .val (.ref b23), .val (.ref b34), .val (.ref b47), .val (.int x66_0), .val (.int x69_0), .val (.int y71)] [(.ref b47), (.ref b34)])) rfl (by rw [hml]; rfl) (Steps.refl _) (argsL := [(.ref b47)]) (rest := []) (lenOf own_pd2 rfl) rfl (by show 2 * 0 + _ ≤ _; exact Nat.le_of_eq rfl) (hb hby at_269) (fun _ _ => ⟨rfl, e70, (by decide : 6 + 0 ≤ _), (by decide : 14 + 0 ≤ _)⟩)
          dsimp only [Pt.U, Pt.locs, Pt.cells, Pt.slots] at X74 l74 y74 z74 st74 hQ74
          rw [l74, y74, z74] at X74
          obtain ⟨rfl, rfl, e74⟩ := hQ74
          try rw [List.append_nil] at X74
          change Stand _ _ _ _ _ _ _ _ _ _ _ _ 6 14 at X74
          refine Goes.step (fun t k => st74.trans k) ?_
          show Goes _ _ _ _ _ _ _ (T74.setTop (mkF m 272 #[.val (.int p0), .val (.int p1), .val (.int p2), .val (.int x2_0), .val (.int x4_0), .val (.int (1 : Int32)), .val (.int (0 : Int32)), .val (.ref b8), .val (.ref b14), .val (.ref b23), .val (.ref b23), .val (.ref b34), .val (.ref b47), .val (.int x66_0), .val (.int x69_0), .val (.int y71)] [(.int (f8B (nar .boolean x4_0) (nar .boolean x2_0)))]))
          refine Goes.step (fun t k => XS.iload X74.here hx rfl (hb hby at_272) rfl k) ?_
          show Goes _ _ _ _ _ _ _ (T74.setTop (mkF m 274 #[.val (.int p0), .val (.int p1), .val (.int p2), .val (.int x2_0), .val (.int x4_0), .val (.int (1 : Int32)), .val (.int (0 : Int32)), .val (.ref b8), .val (.ref b14), .val (.ref b23), .val (.ref b23), .val (.ref b34), .val (.ref b47), .val (.int x66_0), .val (.int x69_0), .val (.int y71)] [(.int x66_0), (.int (f8B (nar .boolean x4_0) (nar .boolean x2_0)))]))
          by_cases hc274_75 : (f8B (nar .boolean x4_0) (nar .boolean x2_0)) = x66_0
          · refine Goes.step (fun t k => XS.icmpNo X74.here hx rfl (hb hby at_274) rfl (teq hc274_75).2 k) ?_
            show Goes _ _ _ _ _ _ _ (T74.setTop (mkF m 277 #[.val (.int p0), .val (.int p1), .val (.int p2), .val (.int x2_0), .val (.int x4_0), .val (.int (1 : Int32)), .val (.int (0 : Int32)), .val (.ref b8), .val (.ref b14), .val (.ref b23), .val (.ref b23), .val (.ref b34), .val (.ref b47), .val (.int x66_0), .val (.int x69_0), .val (.int y71)] []))
            refine Goes.step (fun t k => XS.iconst X74.here hx rfl (hb hby at_277) k) ?_
            show Goes _ _ _ _ _ _ _ (T74.setTop (mkF m 278 #[.val (.int p0), .val (.int p1), .val (.int p2), .val (.int x2_0), .val (.int x4_0), .val (.int (1 : Int32)), .val (.int (0 : Int32)), .val (.ref b8), .val (.ref b14), .val (.ref b23), .val (.ref b23), .val (.ref b34), .val (.ref b47), .val (.int x66_0), .val (.int x69_0), .val (.int y71)] [(.int (1 : Int32))]))
            refine Goes.step (fun t k => XS.goto X74.here hx rfl (pc0 := 278) (pc' := 282) rfl (hb hby at_278) (by decide) (by decide) k) ?_
            show Goes _ _ _ _ _ _ _ (T74.setTop (mkF m 282 #[.val (.int p0), .val (.int p1), .val (.int p2), .val (.int x2_0), .val (.int x4_0), .val (.int (1 : Int32)), .val (.int (0 : Int32)), .val (.ref b8), .val (.ref b14), .val (.ref b23), .val (.ref b23), .val (.ref b34), .val (.ref b47), .val (.int x66_0), .val (.int x69_0), .val (.int y71)] [(.int (1 : Int32))]))
            exact k76 _ _ _ X74 e74 N57 ((if_neg hc257_72).trans ((if_neg hc262_73).trans (if_pos hc274_75))).symm
          · refine Goes.step (fun t k => XS.icmpYes X74.here hx rfl (pc0 := 274) (pc' := 281) rfl (hb hby at_274) rfl (feq hc274_75).2 (by decide) (by decide) k) ?_
            show Goes _ _ _ _ _ _ _ (T74.setTop (mkF m 281 #[.val (.int p0), .val (.int p1), .val (.int p2), .val (.int x2_0), .val (.int x4_0), .val (.int (1 : Int32)), .val (.int (0 : Int32)), .val (.ref b8), .val (.ref b14), .val (.ref b23), .val (.ref b23), .val (.ref b34), .val (.ref b47), .val (.int x66_0), .val (.int x69_0), .val (.int y71)] []))
            refine Goes.step (fun t k => XS.iconst X74.here hx rfl (hb hby at_281) k) ?_
            show Goes _ _ _ _ _ _ _ (T74.setTop (mkF m 282 #[.val (.int p0), .val (.int p1), .val (.int p2), .val (.int x2_0), .val (.int x4_0), .val (.int (1 : Int32)), .val (.int (0 : Int32)), .val (.ref b8), .val (.ref b14), .val (.ref b23), .val (.ref b23), .val (.ref b34), .val (.ref b47), .val (.int x66_0), .val (.int x69_0), .val (.int y71)] [(.int (0 : Int32))]))
            exact k76 _ _ _ X74 e74 N57 ((if_neg hc257_72).trans ((if_neg hc262_73).trans (if_neg hc274_75))).symm
    intro T76 L76 x76_0 X76 e76 N76 hx76_0
    exact Goes.retZ X76 hx Bd.notSynchronized (r := (1 : Int32)) Bd.returns (by simp) (hb hby at_282) (own_plain p0 x2_0 x4_0 x66_0 x69_0 y71 x76_0 hx2_0 hx4_0 hx66_0 hx69_0 hy71 hx76_0) ⟨rfl, N76⟩ (by decide) (by decide)
  · show Goes _ _ _ _ _ _ _ (s₁.setTop (mkF m 45 #[.val (.int p0), .val (.int p1), .val (.int p2), .val (.int x2_0), .val (.int x4_0), .val (.int (1 : Int32)), .val (.int (1 : Int32)), .unset, .unset, .unset, .unset, .unset, .unset, .unset, .unset, .unset] []))
    refine Goes.step (fun t k => XS.iconst X0.here hx rfl (hb hby at_45) k) ?_
    show Goes _ _ _ _ _ _ _ (s₁.setTop (mkF m 46 #[.val (.int p0), .val (.int p1), .val (.int p2), .val (.int x2_0), .val (.int x4_0), .val (.int (1 : Int32)), .val (.int (1 : Int32)), .unset, .unset, .unset, .unset, .unset, .unset, .unset, .unset, .unset] [(.int (2 : Int32))]))
    obtain ⟨T77, h77, k77, X77, e77, E77, A77, st77⟩ := newP X0 hx hZ (hw _ (List.mem_of_getElem? (i := 0) rfl)) e0 (g := (mkF m 46 #[.val (.int p0), .val (.int p1), .val (.int p2), .val (.int x2_0), .val (.int x4_0), .val (.int (1 : Int32)), .val (.int (1 : Int32)), .unset, .unset, .unset, .unset, .unset, .unset, .unset, .unset, .unset] [(.int (2 : Int32))])) rfl (hb hby at_46) rfl (by decide) (cap := 2) (by decide) (by decide) (by decide) (by decide)
    obtain ⟨b77, g77⟩ : ∃ z, z = h0.size := ⟨_, rfl⟩
    rw [← g77] at A77 st77
    have Zs77 : n0 ≤ b77 := Nat.le_trans Z0 (Nat.le_of_eq g77.symm)
    have Zh77 : h0.size ≤ b77 := Nat.le_trans (Keep.refl h0 []).1 (Nat.le_of_eq g77.symm)
    have F78 := S_c.ext E77
    have K77 := (Keep.refl h0 []).ext E77
    have Z77 := Nat.le_trans Z0 E77.1
    have V77 : Ara Z h77 b77 .char [(.int (0 : Int32)), (.int (0 : Int32))] := Ara.new A77 (by decide) rfl (fun _ q => nomatch q)
    refine Goes.step (fun t k => st77 t k) ?_
    show Goes _ _ _ _ _ _ _ (T77.setTop (mkF m 48 #[.val (.int p0), .val (.int p1), .val (.int p2), .val (.int x2_0), .val (.int x4_0), .val (.int (1 : Int32)), .val (.int (1 : Int32)), .unset, .unset, .unset, .unset, .unset, .unset, .unset, .unset, .unset] [(.ref b77)]))
    refine Goes.step (fun t k => XS.dup X77.here hx rfl (hb hby at_48) rfl rfl k) ?_
    show Goes _ _ _ _ _ _ _ (T77.setTop (mkF m 49 #[.val (.int p0), .val (.int p1), .val (.int p2), .val (.int x2_0), .val (.int x4_0), .val (.int (1 : Int32)), .val (.int (1 : Int32)), .unset, .unset, .unset, .unset, .unset, .unset, .unset, .unset, .unset] [(.ref b77), (.ref b77)]))
    refine Goes.step (fun t k => XS.iconst X77.here hx rfl (hb hby at_49) k) ?_
    show Goes _ _ _ _ _ _ _ (T77.setTop (mkF m 50 #[.val (.int p0), .val (.int p1), .val (.int p2), .val (.int x2_0), .val (.int x4_0), .val (.int (1 : Int32)), .val (.int (1 : Int32)), .unset, .unset, .unset, .unset, .unset, .unset, .unset, .unset, .unset] [(.int (0 : Int32)), (.ref b77), (.ref b77)]))
    refine Goes.step (fun t k => XS.iloadN X77.here hx rfl (hb hby at_50) rfl k) ?_
    show Goes _ _ _ _ _ _ _ (T77.setTop (mkF m 51 #[.val (.int p0), .val (.int p1), .val (.int p2), .val (.int x2_0), .val (.int x4_0), .val (.int (1 : Int32)), .val (.int (1 : Int32)), .unset, .unset, .unset, .unset, .unset, .unset, .unset, .unset, .unset] [(.int p1), (.int (0 : Int32)), (.ref b77), (.ref b77)]))
    refine Goes.step (fun t k => XS.sipush X77.here hx rfl (hb hby at_51) k) ?_
    show Goes _ _ _ _ _ _ _ (T77.setTop (mkF m 54 #[.val (.int p0), .val (.int p1), .val (.int p2), .val (.int x2_0), .val (.int x4_0), .val (.int (1 : Int32)), .val (.int (1 : Int32)), .unset, .unset, .unset, .unset, .unset, .unset, .unset, .unset, .unset] [(.int (255 : Int32)), (.int p1), (.int (0 : Int32)), (.ref b77), (.ref b77)]))
    refine Goes.step (fun t k => XS.iand X77.here hx rfl (hb hby at_54) rfl k) ?_
    show Goes _ _ _ _ _ _ _ (T77.setTop (mkF m 55 #[.val (.int p0), .val (.int p1), .val (.int p2), .val (.int x2_0), .val (.int x4_0), .val (.int (1 : Int32)), .val (.int (1 : Int32)), .unset, .unset, .unset, .unset, .unset, .unset, .unset, .unset, .unset] [(.int (p1 &&& (255 : Int32))), (.int (0 : Int32)), (.ref b77), (.ref b77)]))
    refine Goes.step (fun t k => XS.i2c X77.here hx rfl (hb hby at_55) rfl k) ?_
    show Goes _ _ _ _ _ _ _ (T77.setTop (mkF m 56 #[.val (.int p0), .val (.int p1), .val (.int p2), .val (.int x2_0), .val (.int x4_0), .val (.int (1 : Int32)), .val (.int (1 : Int32)), .unset, .unset, .unset, .unset, .unset, .unset, .unset, .unset, .unset] [(.int ((p1 &&& (255 : Int32)).toUInt32.toUInt16.toUInt32.toInt32)), (.int (0 : Int32)), (.ref b77), (.ref b77)]))
    obtain ⟨cl79, Ar79, q79, ll79, ff79, oo79⟩ := id V77
    have hn79 : ¬ (0 : Int32) < 0 := by decide
    have hl79 : ((0 : Int32)).toNatClampNeg < ([(.int (0 : Int32)), (.int (0 : Int32))] : List Value).length := by exact Nat.le_of_ble_eq_true rfl
    obtain ⟨T79, h79, X79, e79, W79, st79⟩ := stC X77 hx hZ e77 Ar79 (j := (0 : Int32)) (inb q79 hn79 hl79) (g := (mkF m 56 #[.val (.int p0), .val (.int p1), .val (.int p2), .val (.int x2_0), .val (.int x4_0), .val (.int (1 : Int32)), .val (.int (1 : Int32)), .unset, .unset, .unset, .unset, .unset, .unset, .unset, .unset, .unset] [(.int ((p1 &&& (255 : Int32)).toUInt32.toUInt16.toUInt32.toInt32)), (.int (0 : Int32)), (.ref b77), (.ref b77)])) rfl rfl (hb hby at_56)
    have V79 : Ara Z h79 b77 .char [(.int (nar .char ((p1 &&& (255 : Int32)).toUInt32.toUInt16.toUInt32.toInt32))), (.int (0 : Int32))] := Ara.same (j := (0 : Int32)) Ar79 q79 ll79 ff79 oo79 (fits_nar_char _) W79
    have F80 := F78.wr W79
    have K79 := K77.wr W79 (Or.inr Zh77)
    have N79 := Fr.snoc X79 N0 Zs77
    have Z79 := Nat.le_trans Z77 (Nat.le_of_eq W79.size.symm)
    refine Goes.step (fun t k => st79 t k) ?_
    show Goes _ _ _ _ _ _ _ (T79.setTop (mkF m 57 #[.val (.int p0), .val (.int p1), .val (.int p2), .val (.int x2_0), .val (.int x4_0), .val (.int (1 : Int32)), .val (.int (1 : Int32)), .unset, .unset, .unset, .unset, .unset, .unset, .unset, .unset, .unset] [(.ref b77)]))
    refine Goes.step (fun t k => XS.dup X79.here hx rfl (hb hby at_57) rfl rfl k) ?_
    show Goes _ _ _ _ _ _ _ (T79.setTop (mkF m 58 #[.val (.int p0), .val (.int p1), .val (.int p2), .val (.int x2_0), .val (.int x4_0), .val (.int (1 : Int32)), .val (.int (1 : Int32)), .unset, .unset, .unset, .unset, .unset, .unset, .unset, .unset, .unset] [(.ref b77), (.ref b77)]))
    refine Goes.step (fun t k => XS.iconst X79.here hx rfl (hb hby at_58) k) ?_
    show Goes _ _ _ _ _ _ _ (T79.setTop (mkF m 59 #[.val (.int p0), .val (.int p1), .val (.int p2), .val (.int x2_0), .val (.int x4_0), .val (.int (1 : Int32)), .val (.int (1 : Int32)), .unset, .unset, .unset, .unset, .unset, .unset, .unset, .unset, .unset] [(.int (1 : Int32)), (.ref b77), (.ref b77)]))
    refine Goes.step (fun t k => XS.iloadN X79.here hx rfl (hb hby at_59) rfl k) ?_
    show Goes _ _ _ _ _ _ _ (T79.setTop (mkF m 60 #[.val (.int p0), .val (.int p1), .val (.int p2), .val (.int x2_0), .val (.int x4_0), .val (.int (1 : Int32)), .val (.int (1 : Int32)), .unset, .unset, .unset, .unset, .unset, .unset, .unset, .unset, .unset] [(.int p1), (.int (1 : Int32)), (.ref b77), (.ref b77)]))
    refine Goes.step (fun t k => XS.bipush X79.here hx rfl (hb hby at_60) k) ?_
    show Goes _ _ _ _ _ _ _ (T79.setTop (mkF m 62 #[.val (.int p0), .val (.int p1), .val (.int p2), .val (.int x2_0), .val (.int x4_0), .val (.int (1 : Int32)), .val (.int (1 : Int32)), .unset, .unset, .unset, .unset, .unset, .unset, .unset, .unset, .unset] [(.int (8 : Int32)), (.int p1), (.int (1 : Int32)), (.ref b77), (.ref b77)]))
    refine Goes.step (fun t k => XS.iushr X79.here hx rfl (hb hby at_62) rfl k) ?_
    show Goes _ _ _ _ _ _ _ (T79.setTop (mkF m 63 #[.val (.int p0), .val (.int p1), .val (.int p2), .val (.int x2_0), .val (.int x4_0), .val (.int (1 : Int32)), .val (.int (1 : Int32)), .unset, .unset, .unset, .unset, .unset, .unset, .unset, .unset, .unset] [(.int ((p1.toUInt32 >>> ((8 : Int32) &&& 31).toUInt32).toInt32)), (.int (1 : Int32)), (.ref b77), (.ref b77)]))
    refine Goes.step (fun t k => XS.sipush X79.here hx rfl (hb hby at_63) k) ?_
    show Goes _ _ _ _ _ _ _ (T79.setTop (mkF m 66 #[.val (.int p0), .val (.int p1), .val (.int p2), .val (.int x2_0), .val (.int x4_0), .val (.int (1 : Int32)), .val (.int (1 : Int32)), .unset, .unset, .unset, .unset, .unset, .unset, .unset, .unset, .unset] [(.int (255 : Int32)), (.int ((p1.toUInt32 >>> ((8 : Int32) &&& 31).toUInt32).toInt32)), (.int (1 : Int32)), (.ref b77), (.ref b77)]))
    refine Goes.step (fun t k => XS.iand X79.here hx rfl (hb hby at_66) rfl k) ?_
    show Goes _ _ _ _ _ _ _ (T79.setTop (mkF m 67 #[.val (.int p0), .val (.int p1), .val (.int p2), .val (.int x2_0), .val (.int x4_0), .val (.int (1 : Int32)), .val (.int (1 : Int32)), .unset, .unset, .unset, .unset, .unset, .unset, .unset, .unset, .unset] [(.int (((p1.toUInt32 >>> ((8 : Int32) &&& 31).toUInt32).toInt32) &&& (255 : Int32))), (.int (1 : Int32)), (.ref b77), (.ref b77)]))
    refine Goes.step (fun t k => XS.i2c X79.here hx rfl (hb hby at_67) rfl k) ?_
    show Goes _ _ _ _ _ _ _ (T79.setTop (mkF m 68 #[.val (.int p0), .val (.int p1), .val (.int p2), .val (.int x2_0), .val (.int x4_0), .val (.int (1 : Int32)), .val (.int (1 : Int32)), .unset, .unset, .unset, .unset, .unset, .unset, .unset, .unset, .unset] [(.int ((((p1.toUInt32 >>> ((8 : Int32) &&& 31).toUInt32).toInt32) &&& (255 : Int32)).toUInt32.toUInt16.toUInt32.toInt32)), (.int (1 : Int32)), (.ref b77), (.ref b77)]))
    obtain ⟨cl81, Ar81, q81, ll81, ff81, oo81⟩ := id V79
    have hn81 : ¬ (1 : Int32) < 0 := by decide
    have hl81 : ((1 : Int32)).toNatClampNeg < ([(.int (nar .char ((p1 &&& (255 : Int32)).toUInt32.toUInt16.toUInt32.toInt32))), (.int (0 : Int32))] : List Value).length := by exact Nat.le_of_ble_eq_true rfl
    obtain ⟨T81, h81, X81, e81, W81, st81⟩ := stC X79 hx hZ e79 Ar81 (j := (1 : Int32)) (inb q81 hn81 hl81) (g := (mkF m 68 #[.val (.int p0), .val (.int p1), .val (.int p2), .val (.int x2_0), .val (.int x4_0), .val (.int (1 : Int32)), .val (.int (1 : Int32)), .unset, .unset, .unset, .unset, .unset, .unset, .unset, .unset, .unset] [(.int ((((p1.toUInt32 >>> ((8 : Int32) &&& 31).toUInt32).toInt32) &&& (255 : Int32)).toUInt32.toUInt16.toUInt32.toInt32)), (.int (1 : Int32)), (.ref b77), (.ref b77)])) rfl rfl (hb hby at_68)
    have V81 : Ara Z h81 b77 .char [(.int (nar .char ((p1 &&& (255 : Int32)).toUInt32.toUInt16.toUInt32.toInt32))), (.int (nar .char ((((p1.toUInt32 >>> ((8 : Int32) &&& 31).toUInt32).toInt32) &&& (255 : Int32)).toUInt32.toUInt16.toUInt32.toInt32)))] := Ara.same (j := (1 : Int32)) Ar81 q81 ll81 ff81 oo81 (fits_nar_char _) W81
    have F82 := F80.wr W81
    have K81 := K79.wr W81 (Or.inr Zh77)
    have N81 := Fr.snoc X81 N79 Zs77
    have Z81 := Nat.le_trans Z79 (Nat.le_of_eq W81.size.symm)
    refine Goes.step (fun t k => st81 t k) ?_
    show Goes _ _ _ _ _ _ _ (T81.setTop (mkF m 69 #[.val (.int p0), .val (.int p1), .val (.int p2), .val (.int x2_0), .val (.int x4_0), .val (.int (1 : Int32)), .val (.int (1 : Int32)), .unset, .unset, .unset, .unset, .unset, .unset, .unset, .unset, .unset] [(.ref b77)]))
    refine Goes.step (fun t k => XS.astore X81.here hx rfl (hb hby at_69) rfl rfl (l' := #[.val (.int p0), .val (.int p1), .val (.int p2), .val (.int x2_0), .val (.int x4_0), .val (.int (1 : Int32)), .val (.int (1 : Int32)), .val (.ref b77), .unset, .unset, .unset, .unset, .unset, .unset, .unset, .unset]) rfl k) ?_
    show Goes _ _ _ _ _ _ _ (T81.setTop (mkF m 71 #[.val (.int p0), .val (.int p1), .val (.int p2), .val (.int x2_0), .val (.int x4_0), .val (.int (1 : Int32)), .val (.int (1 : Int32)), .val (.ref b77), .unset, .unset, .unset, .unset, .unset, .unset, .unset, .unset] []))
    refine Goes.step (fun t k => XS.iconst X81.here hx rfl (hb hby at_71) k) ?_
    show Goes _ _ _ _ _ _ _ (T81.setTop (mkF m 72 #[.val (.int p0), .val (.int p1), .val (.int p2), .val (.int x2_0), .val (.int x4_0), .val (.int (1 : Int32)), .val (.int (1 : Int32)), .val (.ref b77), .unset, .unset, .unset, .unset, .unset, .unset, .unset, .unset] [(.int (2 : Int32))]))
    obtain ⟨T83, h83, k83, X83, e83, E83, A83, st83⟩ := newP X81 hx hZ (hw _ (List.mem_of_getElem? (i := 0) rfl)) e81 (g := (mkF m 72 #[.val (.int p0), .val (.int p1), .val (.int p2), .val (.int x2_0), .val (.int x4_0), .val (.int (1 : Int32)), .val (.int (1 : Int32)), .val (.ref b77), .unset, .unset, .unset, .unset, .unset, .unset, .unset, .unset] [(.int (2 : Int32))])) rfl (hb hby at_72) rfl (by decide) (cap := 2) (by decide) (by decide) (by decide) (by decide)
    obtain ⟨b83, g83⟩ : ∃ z, z = h81.size := ⟨_, rfl⟩
    rw [← g83] at A83 st83
    have ne_b77_b83 : b77 ≠ b83 := Nat.ne_of_lt (Nat.lt_of_lt_of_le V81.lt (Nat.le_of_eq g83.symm))
    have Zs83 : n0 ≤ b83 := Nat.le_trans Z81 (Nat.le_of_eq g83.symm)
    have Zh83 : h0.size ≤ b83 := Nat.le_trans K81.1 (Nat.le_of_eq g83.symm)
    have F84 := F82.ext E83
    have F85 := V81.ext E83
    have K83 := K81.ext E83
    have Z83 := Nat.le_trans Z81 E83.1
    have V83 : Ara Z h83 b83 .char [(.int (0 : Int32)), (.int (0 : Int32))] := Ara.new A83 (by decide) rfl (fun _ q => nomatch q)
    refine Goes.step (fun t k => st83 t k) ?_
    show Goes _ _ _ _ _ _ _ (T83.setTop (mkF m 74 #[.val (.int p0), .val (.int p1), .val (.int p2), .val (.int x2_0), .val (.int x4_0), .val (.int (1 : Int32)), .val (.int (1 : Int32)), .val (.ref b77), .unset, .unset, .unset, .unset, .unset, .unset, .unset, .unset] [(.ref b83)]))
    refine Goes.step (fun t k => XS.dup X83.here hx rfl (hb hby at_74) rfl rfl k) ?_
    show Goes _ _ _ _ _ _ _ (T83.setTop (mkF m 75 #[.val (.int p0), .val (.int p1), .val (.int p2), .val (.int x2_0), .val (.int x4_0), .val (.int (1 : Int32)), .val (.int (1 : Int32)), .val (.ref b77), .unset, .unset, .unset, .unset, .unset, .unset, .unset, .unset] [(.ref b83), (.ref b83)]))
    refine Goes.step (fun t k => XS.iconst X83.here hx rfl (hb hby at_75) k) ?_
    show Goes _ _ _ _ _ _ _ (T83.setTop (mkF m 76 #[.val (.int p0), .val (.int p1), .val (.int p2), .val (.int x2_0), .val (.int x4_0), .val (.int (1 : Int32)), .val (.int (1 : Int32)), .val (.ref b77), .unset, .unset, .unset, .unset, .unset, .unset, .unset, .unset] [(.int (0 : Int32)), (.ref b83), (.ref b83)]))
    refine Goes.step (fun t k => XS.iloadN X83.here hx rfl (hb hby at_76) rfl k) ?_
    show Goes _ _ _ _ _ _ _ (T83.setTop (mkF m 77 #[.val (.int p0), .val (.int p1), .val (.int p2), .val (.int x2_0), .val (.int x4_0), .val (.int (1 : Int32)), .val (.int (1 : Int32)), .val (.ref b77), .unset, .unset, .unset, .unset, .unset, .unset, .unset, .unset] [(.int p2), (.int (0 : Int32)), (.ref b83), (.ref b83)]))
    refine Goes.step (fun t k => XS.sipush X83.here hx rfl (hb hby at_77) k) ?_
    show Goes _ _ _ _ _ _ _ (T83.setTop (mkF m 80 #[.val (.int p0), .val (.int p1), .val (.int p2), .val (.int x2_0), .val (.int x4_0), .val (.int (1 : Int32)), .val (.int (1 : Int32)), .val (.ref b77), .unset, .unset, .unset, .unset, .unset, .unset, .unset, .unset] [(.int (255 : Int32)), (.int p2), (.int (0 : Int32)), (.ref b83), (.ref b83)]))
    refine Goes.step (fun t k => XS.iand X83.here hx rfl (hb hby at_80) rfl k) ?_
    show Goes _ _ _ _ _ _ _ (T83.setTop (mkF m 81 #[.val (.int p0), .val (.int p1), .val (.int p2), .val (.int x2_0), .val (.int x4_0), .val (.int (1 : Int32)), .val (.int (1 : Int32)), .val (.ref b77), .unset, .unset, .unset, .unset, .unset, .unset, .unset, .unset] [(.int (p2 &&& (255 : Int32))), (.int (0 : Int32)), (.ref b83), (.ref b83)]))
    refine Goes.step (fun t k => XS.i2c X83.here hx rfl (hb hby at_81) rfl k) ?_
    show Goes _ _ _ _ _ _ _ (T83.setTop (mkF m 82 #[.val (.int p0), .val (.int p1), .val (.int p2), .val (.int x2_0), .val (.int x4_0), .val (.int (1 : Int32)), .val (.int (1 : Int32)), .val (.ref b77), .unset, .unset, .unset, .unset, .unset, .unset, .unset, .unset] [(.int ((p2 &&& (255 : Int32)).toUInt32.toUInt16.toUInt32.toInt32)), (.int (0 : Int32)), (.ref b83), (.ref b83)]))
    obtain ⟨cl86, Ar86, q86, ll86, ff86, oo86⟩ := id V83
    have hn86 : ¬ (0 : Int32) < 0 := by decide
    have hl86 : ((0 : Int32)).toNatClampNeg < ([(.int (0 : Int32)), (.int (0 : Int32))] : List Value).length := by exact Nat.le_of_ble_eq_true rfl
    obtain ⟨T86, h86, X86, e86, W86, st86⟩ := stC X83 hx hZ e83 Ar86 (j := (0 : Int32)) (inb q86 hn86 hl86) (g := (mkF m 82 #[.val (.int p0), .val (.int p1), .val (.int p2), .val (.int x2_0), .val (.int x4_0), .val (.int (1 : Int32)), .val (.int (1 : Int32)), .val (.ref b77), .unset, .unset, .unset, .unset, .unset, .unset, .unset, .unset] [(.int ((p2 &&& (255 : Int32)).toUInt32.toUInt16.toUInt32.toInt32)), (.int (0 : Int32)), (.ref b83), (.ref b83)])) rfl rfl (hb hby at_82)
    have V86 : Ara Z h86 b83 .char [(.int (nar .char ((p2 &&& (255 : Int32)).toUInt32.toUInt16.toUInt32.toInt32))), (.int (0 : Int32))] := Ara.same (j := (0 : Int32)) Ar86 q86 ll86 ff86 oo86 (fits_nar_char _) W86
    have F87 := F84.wr W86
    have F88 := F85.other W86 ne_b77_b83
    have K86 := K83.wr W86 (Or.inr Zh83)
    have N86 := Fr.snoc X86 N81 Zs83
    have Z86 := Nat.le_trans Z83 (Nat.le_of_eq W86.size.symm)
    refine Goes.step (fun t k => st86 t k) ?_
    show Goes _ _ _ _ _ _ _ (T86.setTop (mkF m 83 #[.val (.int p0), .val (.int p1), .val (.int p2), .val (.int x2_0), .val (.int x4_0), .val (.int (1 : Int32)), .val (.int (1 : Int32)), .val (.ref b77), .unset, .unset, .unset, .unset, .unset, .unset, .unset, .unset] [(.ref b83)]))
    refine Goes.step (fun t k => XS.dup X86.here hx rfl (hb hby at_83) rfl rfl k) ?_
    show Goes _ _ _ _ _ _ _ (T86.setTop (mkF m 84 #[.val (.int p0), .val (.int p1), .val (.int p2), .val (.int x2_0), .val (.int x4_0), .val (.int (1 : Int32)), .val (.int (1 : Int32)), .val (.ref b77), .unset, .unset, .unset, .unset, .unset, .unset, .unset, .unset] [(.ref b83), (.ref b83)]))
    refine Goes.step (fun t k => XS.iconst X86.here hx rfl (hb hby at_84) k) ?_
    show Goes _ _ _ _ _ _ _ (T86.setTop (mkF m 85 #[.val (.int p0), .val (.int p1), .val (.int p2), .val (.int x2_0), .val (.int x4_0), .val (.int (1 : Int32)), .val (.int (1 : Int32)), .val (.ref b77), .unset, .unset, .unset, .unset, .unset, .unset, .unset, .unset] [(.int (1 : Int32)), (.ref b83), (.ref b83)]))
    refine Goes.step (fun t k => XS.iloadN X86.here hx rfl (hb hby at_85) rfl k) ?_
    show Goes _ _ _ _ _ _ _ (T86.setTop (mkF m 86 #[.val (.int p0), .val (.int p1), .val (.int p2), .val (.int x2_0), .val (.int x4_0), .val (.int (1 : Int32)), .val (.int (1 : Int32)), .val (.ref b77), .unset, .unset, .unset, .unset, .unset, .unset, .unset, .unset] [(.int p2), (.int (1 : Int32)), (.ref b83), (.ref b83)]))
    refine Goes.step (fun t k => XS.bipush X86.here hx rfl (hb hby at_86) k) ?_
    show Goes _ _ _ _ _ _ _ (T86.setTop (mkF m 88 #[.val (.int p0), .val (.int p1), .val (.int p2), .val (.int x2_0), .val (.int x4_0), .val (.int (1 : Int32)), .val (.int (1 : Int32)), .val (.ref b77), .unset, .unset, .unset, .unset, .unset, .unset, .unset, .unset] [(.int (8 : Int32)), (.int p2), (.int (1 : Int32)), (.ref b83), (.ref b83)]))
    refine Goes.step (fun t k => XS.iushr X86.here hx rfl (hb hby at_88) rfl k) ?_
    show Goes _ _ _ _ _ _ _ (T86.setTop (mkF m 89 #[.val (.int p0), .val (.int p1), .val (.int p2), .val (.int x2_0), .val (.int x4_0), .val (.int (1 : Int32)), .val (.int (1 : Int32)), .val (.ref b77), .unset, .unset, .unset, .unset, .unset, .unset, .unset, .unset] [(.int ((p2.toUInt32 >>> ((8 : Int32) &&& 31).toUInt32).toInt32)), (.int (1 : Int32)), (.ref b83), (.ref b83)]))
    refine Goes.step (fun t k => XS.sipush X86.here hx rfl (hb hby at_89) k) ?_
    show Goes _ _ _ _ _ _ _ (T86.setTop (mkF m 92 #[.val (.int p0), .val (.int p1), .val (.int p2), .val (.int x2_0), .val (.int x4_0), .val (.int (1 : Int32)), .val (.int (1 : Int32)), .val (.ref b77), .unset, .unset, .unset, .unset, .unset, .unset, .unset, .unset] [(.int (255 : Int32)), (.int ((p2.toUInt32 >>> ((8 : Int32) &&& 31).toUInt32).toInt32)), (.int (1 : Int32)), (.ref b83), (.ref b83)]))
    refine Goes.step (fun t k => XS.iand X86.here hx rfl (hb hby at_92) rfl k) ?_
    show Goes _ _ _ _ _ _ _ (T86.setTop (mkF m 93 #[.val (.int p0), .val (.int p1), .val (.int p2), .val (.int x2_0), .val (.int x4_0), .val (.int (1 : Int32)), .val (.int (1 : Int32)), .val (.ref b77), .unset, .unset, .unset, .unset, .unset, .unset, .unset, .unset] [(.int (((p2.toUInt32 >>> ((8 : Int32) &&& 31).toUInt32).toInt32) &&& (255 : Int32))), (.int (1 : Int32)), (.ref b83), (.ref b83)]))
    refine Goes.step (fun t k => XS.i2c X86.here hx rfl (hb hby at_93) rfl k) ?_
    show Goes _ _ _ _ _ _ _ (T86.setTop (mkF m 94 #[.val (.int p0), .val (.int p1), .val (.int p2), .val (.int x2_0), .val (.int x4_0), .val (.int (1 : Int32)), .val (.int (1 : Int32)), .val (.ref b77), .unset, .unset, .unset, .unset, .unset, .unset, .unset, .unset] [(.int ((((p2.toUInt32 >>> ((8 : Int32) &&& 31).toUInt32).toInt32) &&& (255 : Int32)).toUInt32.toUInt16.toUInt32.toInt32)), (.int (1 : Int32)), (.ref b83), (.ref b83)]))
    obtain ⟨cl89, Ar89, q89, ll89, ff89, oo89⟩ := id V86
    have hn89 : ¬ (1 : Int32) < 0 := by decide
    have hl89 : ((1 : Int32)).toNatClampNeg < ([(.int (nar .char ((p2 &&& (255 : Int32)).toUInt32.toUInt16.toUInt32.toInt32))), (.int (0 : Int32))] : List Value).length := by exact Nat.le_of_ble_eq_true rfl
    obtain ⟨T89, h89, X89, e89, W89, st89⟩ := stC X86 hx hZ e86 Ar89 (j := (1 : Int32)) (inb q89 hn89 hl89) (g := (mkF m 94 #[.val (.int p0), .val (.int p1), .val (.int p2), .val (.int x2_0), .val (.int x4_0), .val (.int (1 : Int32)), .val (.int (1 : Int32)), .val (.ref b77), .unset, .unset, .unset, .unset, .unset, .unset, .unset, .unset] [(.int ((((p2.toUInt32 >>> ((8 : Int32) &&& 31).toUInt32).toInt32) &&& (255 : Int32)).toUInt32.toUInt16.toUInt32.toInt32)), (.int (1 : Int32)), (.ref b83), (.ref b83)])) rfl rfl (hb hby at_94)
    have V89 : Ara Z h89 b83 .char [(.int (nar .char ((p2 &&& (255 : Int32)).toUInt32.toUInt16.toUInt32.toInt32))), (.int (nar .char ((((p2.toUInt32 >>> ((8 : Int32) &&& 31).toUInt32).toInt32) &&& (255 : Int32)).toUInt32.toUInt16.toUInt32.toInt32)))] := Ara.same (j := (1 : Int32)) Ar89 q89 ll89 ff89 oo89 (fits_nar_char _) W89
    have F90 := F87.wr W89
    have F91 := F88.other W89 ne_b77_b83
    have K89 := K86.wr W89 (Or.inr Zh83)
    have N89 := Fr.snoc X89 N86 Zs83
    have Z89 := Nat.le_trans Z86 (Nat.le_of_eq W89.size.symm)
    refine Goes.step (fun t k => st89 t k) ?_
    show Goes _ _ _ _ _ _ _ (T89.setTop (mkF m 95 #[.val (.int p0), .val (.int p1), .val (.int p2), .val (.int x2_0), .val (.int x4_0), .val (.int (1 : Int32)), .val (.int (1 : Int32)), .val (.ref b77), .unset, .unset, .unset, .unset, .unset, .unset, .unset, .unset] [(.ref b83)]))
    refine Goes.step (fun t k => XS.astore X89.here hx rfl (hb hby at_95) rfl rfl (l' := #[.val (.int p0), .val (.int p1), .val (.int p2), .val (.int x2_0), .val (.int x4_0), .val (.int (1 : Int32)), .val (.int (1 : Int32)), .val (.ref b77), .val (.ref b83), .unset, .unset, .unset, .unset, .unset, .unset, .unset]) rfl k) ?_
    show Goes _ _ _ _ _ _ _ (T89.setTop (mkF m 97 #[.val (.int p0), .val (.int p1), .val (.int p2), .val (.int x2_0), .val (.int x4_0), .val (.int (1 : Int32)), .val (.int (1 : Int32)), .val (.ref b77), .val (.ref b83), .unset, .unset, .unset, .unset, .unset, .unset, .unset] []))
    obtain ⟨T92, h92, X92, e92, E92, A92, D92, -, st92⟩ := newO X89 hx hZ hown (hw _ (List.mem_of_getElem? (i := 1) rfl)) (hw _ (List.mem_of_getElem? (i := 2) rfl)) (hw _ (List.mem_of_getElem? (i := 3) rfl)) e89 (g := (mkF m 97 #[.val (.int p0), .val (.int p1), .val (.int p2), .val (.int x2_0), .val (.int x4_0), .val (.int (1 : Int32)), .val (.int (1 : Int32)), .val (.ref b77), .val (.ref b83), .unset, .unset, .unset, .unset, .unset, .unset, .unset] [])) rfl (hb hby at_97) (by decide) (by decide)
    obtain ⟨b92, g92⟩ : ∃ z, z = h89.size := ⟨_, rfl⟩
    rw [← g92] at A92 D92 st92
    have ne_b77_b92 : b77 ≠ b92 := Nat.ne_of_lt (Nat.lt_of_lt_of_le F91.lt (Nat.le_of_eq g92.symm))
    have ne_b83_b92 : b83 ≠ b92 := Nat.ne_of_lt (Nat.lt_of_lt_of_le V89.lt (Nat.le_of_eq g92.symm))
    have Zs92 : n0 ≤ b92 := Nat.le_trans Z89 (Nat.le_of_eq g92.symm)
    have Zh92 : h0.size ≤ b92 := Nat.le_trans K89.1 (Nat.le_of_eq g92.symm)
    have F93 := F90.ext E92
    have F94 := F91.ext E92
    have F95 := V89.ext E92
    have K92 := K89.ext E92
    have Z92 := Nat.le_trans Z89 E92.1
    have F96 : Fld Z h92 b92 "java/lang/String" "coder" "B" (.int (0 : Int32)) := D92 (Or.inr (hw _ (List.mem_of_getElem? (i := 27) rfl))) (ty := .byte) (by decide)
    have F97 : Fld Z h92 b92 "java/lang/String" "value" "[B" .null := D92 (Or.inr (hw _ (List.mem_of_getElem? (i := 29) rfl))) (ty := (.array .byte)) (by decide)
    refine Goes.step (fun t k => st92 t k) ?_
    show Goes _ _ _ _ _ _ _ (T92.setTop (mkF m 100 #[.val (.int p0), .val (.int p1), .val (.int p2), .val (.int x2_0), .val (.int x4_0), .val (.int (1 : Int32)), .val (.int (1 : Int32)), .val (.ref b77), .val (.ref b83), .unset, .unset, .unset, .unset, .unset, .unset, .unset] [(.ref b92)]))
    refine Goes.step (fun t k => XS.dup X92.here hx rfl (hb hby at_100) rfl rfl k) ?_
    show Goes _ _ _ _ _ _ _ (T92.setTop (mkF m 101 #[.val (.int p0), .val (.int p1), .val (.int p2), .val (.int x2_0), .val (.int x4_0), .val (.int (1 : Int32)), .val (.int (1 : Int32)), .val (.ref b77), .val (.ref b83), .unset, .unset, .unset, .unset, .unset, .unset, .unset] [(.ref b92), (.ref b92)]))
    refine Goes.step (fun t k => XS.aload X92.here hx rfl (hb hby at_101) rfl rfl k) ?_
    show Goes _ _ _ _ _ _ _ (T92.setTop (mkF m 103 #[.val (.int p0), .val (.int p1), .val (.int p2), .val (.int x2_0), .val (.int x4_0), .val (.int (1 : Int32)), .val (.int (1 : Int32)), .val (.ref b77), .val (.ref b83), .unset, .unset, .unset, .unset, .unset, .unset, .unset] [(.ref b77), (.ref b92), (.ref b92)]))
    obtain ⟨kc98, Kc98⟩ := own_arv (N := (2 : Int32)) (.int (0 : Int32)) F94 (by decide) rfl
    have hlat98 : ∀ c ∈ [(nar .char ((p1 &&& (255 : Int32)).toUInt32.toUInt16.toUInt32.toInt32)), (nar .char ((((p1.toUInt32 >>> ((8 : Int32) &&& 31).toUInt32).toInt32) &&& (255 : Int32)).toUInt32.toUInt16.toUInt32.toInt32))], ¬ c < 0 ∧ ¬ (255 : Int32) < c := by
      intro c hc
      simp only [List.mem_cons, List.not_mem_nil, or_false] at hc
      rcases hc with rfl | rfl <;> exact own_lat _
    obtain ⟨_, _, ⟨T98, L98, k98, n98⟩, -, X98, ⟨Lc98, hQ98, l98, y98, z98⟩, st98⟩ := X92.specialBack hx (y := (⟨"java/lang/String", "<init>", "([C)V"⟩ : MethodName)) rfl hown (mvT hZ (hw _ (List.mem_of_getElem? (i := 4) rfl))) (mvT hZ (hw _ (List.mem_of_getElem? (i := 5) rfl))) (mvT hZ (hw _ (List.mem_of_getElem? (i := 6) rfl))) (by decide) (StrChars.Road.backV (W := 1) hZ hws (kI := 4) (hw _ (List.mem_of_getElem? (i := 2) rfl)) (cs := [(nar .char ((p1 &&& (255 : Int32)).toUInt32.toUInt16.toUInt32.toInt32)), (nar .char ((((p1.toUInt32 >>> ((8 : Int32) &&& 31).toUInt32).toInt32) &&& (255 : Int32)).toUInt32.toUInt16.toUInt32.toInt32))]) (bs := [((nar .char ((p1 &&& (255 : Int32)).toUInt32.toUInt16.toUInt32.toInt32))).toInt8.toInt32, ((nar .char ((((p1.toUInt32 >>> ((8 : Int32) &&& 31).toUInt32).toInt32) &&& (255 : Int32)).toUInt32.toUInt16.toUInt32.toInt32))).toInt8.toInt32]) (n := 2) (n0 := n0) Zs92 Z92 A92 F97 F96 Kc98 F93 P3 rfl rfl (by decide) (by decide) hlat98 rfl (by decide) (by decide)) (g := (mkF m 103 #[.val (.int p0), .val (.int p1), .val (.int p2), .val (.int x2_0), .val (.int x4_0), .val (.int (1 : Int32)), .val (.int (1 : Int32)), .val (.ref b77), .val (.ref b83), .unset, .unset, .unset, .unset, .unset, .unset, .unset] [(.ref b77), (.ref b92), (.ref b92)])) rfl (by rw [hml]; rfl) (Steps.refl _) (a := b92) (argsL := [(.ref b77)]) (rest := [(.ref b92)]) (lenOf own_pd0 rfl) rfl (by show 2 * 0 + _ ≤ _; exact Nat.le_of_eq rfl) (hb hby at_103) (fun _ _ => ⟨rfl, e92, (by decide : 3 + 1 ≤ _), (by decide : 8 + 2 ≤ _)⟩)
    dsimp only [Pt.U, Pt.locs, Pt.cells, Pt.slots] at X98 l98 y98 z98 st98 hQ98
    rw [l98, y98, z98] at X98
    replace hQ98 := own_qv hQ98
    generalize e98 : T98.heap = h98 at hQ98
    obtain ⟨rfl, Nq98, Kq98, G98_0⟩ := hQ98
    have F99 := own_sta_keep F93 Kq98 (allS (notsta_exa A92) all0)
    have F100 := F94.keep Kq98 (ninS ne_b77_b92 nin0)
    have F101 := F95.keep Kq98 (ninS ne_b83_b92 nin0)
    have N98 := Fr.app N89 Nq98
    have K98 := K92.trans Kq98 (allS (Or.inr Zh92) all0)
    have Z98 := Nat.le_trans Z92 Kq98.1
    change Stand _ _ _ _ _ _ _ _ _ _ _ _ 4 10 at X98
    refine Goes.step (fun t k => st98.trans k) ?_
    show Goes _ _ _ _ _ _ _ (T98.setTop (mkF m 106 #[.val (.int p0), .val (.int p1), .val (.int p2), .val (.int x2_0), .val (.int x4_0), .val (.int (1 : Int32)), .val (.int (1 : Int32)), .val (.ref b77), .val (.ref b83), .unset, .unset, .unset, .unset, .unset, .unset, .unset] [(.ref b92)]))
    refine Goes.step (fun t k => XS.astore X98.here hx rfl (hb hby at_106) rfl rfl (l' := #[.val (.int p0), .val (.int p1), .val (.int p2), .val (.int x2_0), .val (.int x4_0), .val (.int (1 : Int32)), .val (.int (1 : Int32)), .val (.ref b77), .val (.ref b83), .val (.ref b92), .unset, .unset, .unset, .unset, .unset, .unset]) rfl k) ?_
    show Goes _ _ _ _ _ _ _ (T98.setTop (mkF m 108 #[.val (.int p0), .val (.int p1), .val (.int p2), .val (.int x2_0), .val (.int x4_0), .val (.int (1 : Int32)), .val (.int (1 : Int32)), .val (.ref b77), .val (.ref b83), .val (.ref b92), .unset, .unset, .unset, .unset, .unset, .unset] []))
    refine Goes.step (fun t k => XS.iload X98.here hx rfl (hb hby at_108) rfl k) ?_
    show Goes _ _ _ _ _ _ _ (T98.setTop (mkF m 110 #[.val (.int p0), .val (.int p1), .val (.int p2), .val (.int x2_0), .val (.int x4_0), .val (.int (1 : Int32)), .val (.int (1 : Int32)), .val (.ref b77), .val (.ref b83), .val (.ref b92), .unset, .unset, .unset, .unset, .unset, .unset] [(.int (1 : Int32))]))
    refine Goes.step (fun t k => XS.ifNo X98.here hx rfl (hb hby at_110) rfl ((if0 _ _).trans (feq (by decide)).1) k) ?_
    show Goes _ _ _ _ _ _ _ (T98.setTop (mkF m 113 #[.val (.int p0), .val (.int p1), .val (.int p2), .val (.int x2_0), .val (.int x4_0), .val (.int (1 : Int32)), .val (.int (1 : Int32)), .val (.ref b77), .val (.ref b83), .val (.ref b92), .unset, .unset, .unset, .unset, .unset, .unset] []))
    refine Goes.step (fun t k => XS.aload X98.here hx rfl (hb hby at_113) rfl rfl k) ?_
    show Goes _ _ _ _ _ _ _ (T98.setTop (mkF m 115 #[.val (.int p0), .val (.int p1), .val (.int p2), .val (.int x2_0), .val (.int x4_0), .val (.int (1 : Int32)), .val (.int (1 : Int32)), .val (.ref b77), .val (.ref b83), .val (.ref b92), .unset, .unset, .unset, .unset, .unset, .unset] [(.ref b92)]))
    refine Goes.step (fun t k => XS.goto X98.here hx rfl (pc0 := 115) (pc' := 127) rfl (hb hby at_115) (by decide) (by decide) k) ?_
    show Goes _ _ _ _ _ _ _ (T98.setTop (mkF m 127 #[.val (.int p0), .val (.int p1), .val (.int p2), .val (.int x2_0), .val (.int x4_0), .val (.int (1 : Int32)), .val (.int (1 : Int32)), .val (.ref b77), .val (.ref b83), .val (.ref b92), .unset, .unset, .unset, .unset, .unset, .unset] [(.ref b92)]))
    refine Goes.step (fun t k => XS.astore X98.here hx rfl (hb hby at_127) rfl rfl (l' := #[.val (.int p0), .val (.int p1), .val (.int p2), .val (.int x2_0), .val (.int x4_0), .val (.int (1 : Int32)), .val (.int (1 : Int32)), .val (.ref b77), .val (.ref b83), .val (.ref b92), .val (.ref b92), .unset, .unset, .unset, .unset, .unset]) rfl k) ?_
    show Goes _ _ _ _ _ _ _ (T98.setTop (mkF m 129 #[.val (.int p0), .val (.int p1), .val (.int p2), .val (.int x2_0), .val (.int x4_0), .val (.int (1 : Int32)), .val (.int (1 : Int32)), .val (.ref b77), .val (.ref b83), .val (.ref b92), .val (.ref b92), .unset, .unset, .unset, .unset, .unset] []))
    obtain ⟨T103, h103, X103, e103, E103, A103, D103, -, st103⟩ := newO X98 hx hZ hown (hw _ (List.mem_of_getElem? (i := 30) rfl)) (hw _ (List.mem_of_getElem? (i := 31) rfl)) (hw _ (List.mem_of_getElem? (i := 32) rfl)) e98 (g := (mkF m 129 #[.val (.int p0), .val (.int p1), .val (.int p2), .val (.int x2_0), .val (.int x4_0), .val (.int (1 : Int32)), .val (.int (1 : Int32)), .val (.ref b77), .val (.ref b83), .val (.ref b92), .val (.ref b92), .unset, .unset, .unset, .unset, .unset] [])) rfl (hb hby at_129) (by decide) (by decide)
    obtain ⟨b103, g103⟩ : ∃ z, z = h98.size := ⟨_, rfl⟩
    rw [← g103] at A103 D103 st103
    have ne_b77_b103 : b77 ≠ b103 := Nat.ne_of_lt (Nat.lt_of_lt_of_le F100.lt (Nat.le_of_eq g103.symm))
    have ne_b83_b103 : b83 ≠ b103 := Nat.ne_of_lt (Nat.lt_of_lt_of_le F101.lt (Nat.le_of_eq g103.symm))
    have ne_b92_b103 : b92 ≠ b103 := Nat.ne_of_lt (Nat.lt_of_lt_of_le G98_0.lt (Nat.le_of_eq g103.symm))
    have Zs103 : n0 ≤ b103 := Nat.le_trans Z98 (Nat.le_of_eq g103.symm)
    have Zh103 : h0.size ≤ b103 := Nat.le_trans K98.1 (Nat.le_of_eq g103.symm)
    have F104 := F99.ext E103
    have F105 := F100.ext E103
    have F106 := F101.ext E103
    have F107 := G98_0.ext E103
    have K103 := K98.ext E103
    have Z103 := Nat.le_trans Z98 E103.1
    have F108 : Fld Z h103 b103 "com/example/vigilant_schema/vigilantschema/Node$BooleanNode" "value" "Z" (.int (0 : Int32)) := D103 (Or.inr (hw _ (List.mem_of_getElem? (i := 38) rfl))) (ty := .boolean) (by decide)
    have F109 : Fld Z h103 b103 "com/example/vigilant_schema/vigilantschema/Node$BooleanNode" "written" "Ljava/lang/String;" .null := D103 (Or.inr (hw _ (List.mem_of_getElem? (i := 40) rfl))) (ty := (.object "java/lang/String")) (by decide)
    refine Goes.step (fun t k => st103 t k) ?_
    show Goes _ _ _ _ _ _ _ (T103.setTop (mkF m 132 #[.val (.int p0), .val (.int p1), .val (.int p2), .val (.int x2_0), .val (.int x4_0), .val (.int (1 : Int32)), .val (.int (1 : Int32)), .val (.ref b77), .val (.ref b83), .val (.ref b92), .val (.ref b92), .unset, .unset, .unset, .unset, .unset] [(.ref b103)]))
    refine Goes.step (fun t k => XS.dup X103.here hx rfl (hb hby at_132) rfl rfl k) ?_
    show Goes _ _ _ _ _ _ _ (T103.setTop (mkF m 133 #[.val (.int p0), .val (.int p1), .val (.int p2), .val (.int x2_0), .val (.int x4_0), .val (.int (1 : Int32)), .val (.int (1 : Int32)), .val (.ref b77), .val (.ref b83), .val (.ref b92), .val (.ref b92), .unset, .unset, .unset, .unset, .unset] [(.ref b103), (.ref b103)]))
    refine Goes.step (fun t k => XS.iloadN X103.here hx rfl (hb hby at_133) rfl k) ?_
    show Goes _ _ _ _ _ _ _ (T103.setTop (mkF m 134 #[.val (.int p0), .val (.int p1), .val (.int p2), .val (.int x2_0), .val (.int x4_0), .val (.int (1 : Int32)), .val (.int (1 : Int32)), .val (.ref b77), .val (.ref b83), .val (.ref b92), .val (.ref b92), .unset, .unset, .unset, .unset, .unset] [(.int x2_0), (.ref b103), (.ref b103)]))
    refine Goes.step (fun t k => XS.aload X103.here hx rfl (hb hby at_134) rfl rfl k) ?_
    show Goes _ _ _ _ _ _ _ (T103.setTop (mkF m 136 #[.val (.int p0), .val (.int p1), .val (.int p2), .val (.int x2_0), .val (.int x4_0), .val (.int (1 : Int32)), .val (.int (1 : Int32)), .val (.ref b77), .val (.ref b83), .val (.ref b92), .val (.ref b92), .unset, .unset, .unset, .unset, .unset] [(.ref b92), (.int x2_0), (.ref b103), (.ref b103)]))
    obtain ⟨_, _, ⟨T110, L110, k110, n110⟩, -, X110, ⟨Lc110, hQ110, l110, y110, z110⟩, st110⟩ := X103.specialBack hx (y := (⟨"com/example/vigilant_schema/vigilantschema/Node$BooleanNode", "<init>", "(ZLjava/lang/String;)V"⟩ : MethodName)) rfl hown (mvT hZ (hw _ (List.mem_of_getElem? (i := 33) rfl))) (mvT hZ (hw _ (List.mem_of_getElem? (i := 34) rfl))) (mvT hZ (hw _ (List.mem_of_getElem? (i := 35) rfl))) (by decide) (backOf (W := 1) (rm7 l Z tA hw [] b103 x2_0 b92 h103 n0 Z103 A103 F108 F109 Zs103) hZ (hw _ (List.mem_of_getElem? (i := 35) rfl)) (hw _ (List.mem_of_getElem? (i := 32) rfl)) (by decide) (by decide)) (g := (mkF m 136 #[.val (.int p0), .val (.int p1), .val (.int p2), .val (.int x2_0), .val (.int x4_0), .val (.int (1 : Int32)), .val (.int (1 : Int32)), .val (.ref b77), .val (.ref b83), .val (.ref b92), .val (.ref b92), .unset, .unset, .unset, .unset, .unset] [(.ref b92), (.int x2_0), (.ref b103), (.ref b103)])) rfl (by rw [hml]; rfl) (Steps.refl _) (a := b103) (argsL := [(.int x2_0), (.ref b92)]) (rest := [(.ref b103)]) (lenOf own_pd1 rfl) rfl (by show 2 * 0 + _ ≤ _; exact Nat.le_of_eq rfl) (hb hby at_136) (fun _ _ => ⟨rfl, e103, (by decide : 5 + 0 ≤ _), (by decide : 12 + 0 ≤ _)⟩)
    dsimp only [Pt.U, Pt.locs, Pt.cells, Pt.slots] at X110 l110 y110 z110 st110 hQ110
    rw [l110, y110, z110] at X110
    generalize e110 : T110.heap = h110 at hQ110
    obtain ⟨rfl, Nq110, Kq110, G110_0, G110_1, G110_2⟩ := hQ110
    have F111 := own_sta_keep F104 Kq110 (allS (notsta_exa A103) all0)
    have F112 := F105.keep Kq110 (ninS ne_b77_b103 nin0)
    have F113 := F106.keep Kq110 (ninS ne_b83_b103 nin0)
    have F114 := F107.keep Kq110
    have N110 := Fr.app N98 Nq110
    have K110 := K103.trans Kq110 (allS (Or.inr Zh103) all0)
    have Z110 := Nat.le_trans Z103 Kq110.1
    change Stand _ _ _ _ _ _ _ _ _ _ _ _ 5 12 at X110
    refine Goes.step (fun t k => st110.trans k) ?_
    show Goes _ _ _ _ _ _ _ (T110.setTop (mkF m 139 #[.val (.int p0), .val (.int p1), .val (.int p2), .val (.int x2_0), .val (.int x4_0), .val (.int (1 : Int32)), .val (.int (1 : Int32)), .val (.ref b77), .val (.ref b83), .val (.ref b92), .val (.ref b92), .unset, .unset, .unset, .unset, .unset] [(.ref b103)]))
    refine Goes.step (fun t k => XS.astore X110.here hx rfl (hb hby at_139) rfl rfl (l' := #[.val (.int p0), .val (.int p1), .val (.int p2), .val (.int x2_0), .val (.int x4_0), .val (.int (1 : Int32)), .val (.int (1 : Int32)), .val (.ref b77), .val (.ref b83), .val (.ref b92), .val (.ref b92), .val (.ref b103), .unset, .unset, .unset, .unset]) rfl k) ?_
    show Goes _ _ _ _ _ _ _ (T110.setTop (mkF m 141 #[.val (.int p0), .val (.int p1), .val (.int p2), .val (.int x2_0), .val (.int x4_0), .val (.int (1 : Int32)), .val (.int (1 : Int32)), .val (.ref b77), .val (.ref b83), .val (.ref b92), .val (.ref b92), .val (.ref b103), .unset, .unset, .unset, .unset] []))
    refine Goes.step (fun t k => XS.iconst X110.here hx rfl (hb hby at_141) k) ?_
    show Goes _ _ _ _ _ _ _ (T110.setTop (mkF m 142 #[.val (.int p0), .val (.int p1), .val (.int p2), .val (.int x2_0), .val (.int x4_0), .val (.int (1 : Int32)), .val (.int (1 : Int32)), .val (.ref b77), .val (.ref b83), .val (.ref b92), .val (.ref b92), .val (.ref b103), .unset, .unset, .unset, .unset] [(.int (1 : Int32))]))
    refine Goes.step (fun t k => XS.istore X110.here hx rfl (hb hby at_142) rfl (l' := #[.val (.int p0), .val (.int p1), .val (.int p2), .val (.int x2_0), .val (.int x4_0), .val (.int (1 : Int32)), .val (.int (1 : Int32)), .val (.ref b77), .val (.ref b83), .val (.ref b92), .val (.ref b92), .val (.ref b103), .unset, .unset, .val (.int (1 : Int32)), .unset]) rfl k) ?_
    show Goes _ _ _ _ _ _ _ (T110.setTop (mkF m 144 #[.val (.int p0), .val (.int p1), .val (.int p2), .val (.int x2_0), .val (.int x4_0), .val (.int (1 : Int32)), .val (.int (1 : Int32)), .val (.ref b77), .val (.ref b83), .val (.ref b92), .val (.ref b92), .val (.ref b103), .unset, .unset, .val (.int (1 : Int32)), .unset] []))
    refine Goes.step (fun t k => XS.iload X110.here hx rfl (hb hby at_144) rfl k) ?_
    show Goes _ _ _ _ _ _ _ (T110.setTop (mkF m 146 #[.val (.int p0), .val (.int p1), .val (.int p2), .val (.int x2_0), .val (.int x4_0), .val (.int (1 : Int32)), .val (.int (1 : Int32)), .val (.ref b77), .val (.ref b83), .val (.ref b92), .val (.ref b92), .val (.ref b103), .unset, .unset, .val (.int (1 : Int32)), .unset] [(.int (1 : Int32))]))
    refine Goes.step (fun t k => XS.ifYes X110.here hx rfl (pc0 := 146) (pc' := 201) rfl (hb hby at_146) rfl ((if0 _ _).trans (feq (by decide)).2) (by decide) (by decide) k) ?_
    show Goes _ _ _ _ _ _ _ (T110.setTop (mkF m 201 #[.val (.int p0), .val (.int p1), .val (.int p2), .val (.int x2_0), .val (.int x4_0), .val (.int (1 : Int32)), .val (.int (1 : Int32)), .val (.ref b77), .val (.ref b83), .val (.ref b92), .val (.ref b92), .val (.ref b103), .unset, .unset, .val (.int (1 : Int32)), .unset] []))
    refine Goes.step (fun t k => XS.iload X110.here hx rfl (hb hby at_201) rfl k) ?_
    show Goes _ _ _ _ _ _ _ (T110.setTop (mkF m 203 #[.val (.int p0), .val (.int p1), .val (.int p2), .val (.int x2_0), .val (.int x4_0), .val (.int (1 : Int32)), .val (.int (1 : Int32)), .val (.ref b77), .val (.ref b83), .val (.ref b92), .val (.ref b92), .val (.ref b103), .unset, .unset, .val (.int (1 : Int32)), .unset] [(.int (1 : Int32))]))
    refine Goes.step (fun t k => XS.iconst X110.here hx rfl (hb hby at_203) k) ?_
    show Goes _ _ _ _ _ _ _ (T110.setTop (mkF m 204 #[.val (.int p0), .val (.int p1), .val (.int p2), .val (.int x2_0), .val (.int x4_0), .val (.int (1 : Int32)), .val (.int (1 : Int32)), .val (.ref b77), .val (.ref b83), .val (.ref b92), .val (.ref b92), .val (.ref b103), .unset, .unset, .val (.int (1 : Int32)), .unset] [(.int (1 : Int32)), (.int (1 : Int32))]))
    refine Goes.step (fun t k => XS.icmpNo X110.here hx rfl (hb hby at_204) rfl (teq (by decide)).2 k) ?_
    show Goes _ _ _ _ _ _ _ (T110.setTop (mkF m 207 #[.val (.int p0), .val (.int p1), .val (.int p2), .val (.int x2_0), .val (.int x4_0), .val (.int (1 : Int32)), .val (.int (1 : Int32)), .val (.ref b77), .val (.ref b83), .val (.ref b92), .val (.ref b92), .val (.ref b103), .unset, .unset, .val (.int (1 : Int32)), .unset] []))
    refine Goes.step (fun t k => XS.aconstNull X110.here hx rfl (hb hby at_207) k) ?_
    show Goes _ _ _ _ _ _ _ (T110.setTop (mkF m 208 #[.val (.int p0), .val (.int p1), .val (.int p2), .val (.int x2_0), .val (.int x4_0), .val (.int (1 : Int32)), .val (.int (1 : Int32)), .val (.ref b77), .val (.ref b83), .val (.ref b92), .val (.ref b92), .val (.ref b103), .unset, .unset, .val (.int (1 : Int32)), .unset] [.null]))
    refine Goes.step (fun t k => XS.astore X110.here hx rfl (hb hby at_208) rfl rfl (l' := #[.val (.int p0), .val (.int p1), .val (.int p2), .val (.int x2_0), .val (.int x4_0), .val (.int (1 : Int32)), .val (.int (1 : Int32)), .val (.ref b77), .val (.ref b83), .val (.ref b92), .val (.ref b92), .val (.ref b103), .val .null, .unset, .val (.int (1 : Int32)), .unset]) rfl k) ?_
    show Goes _ _ _ _ _ _ _ (T110.setTop (mkF m 210 #[.val (.int p0), .val (.int p1), .val (.int p2), .val (.int x2_0), .val (.int x4_0), .val (.int (1 : Int32)), .val (.int (1 : Int32)), .val (.ref b77), .val (.ref b83), .val (.ref b92), .val (.ref b92), .val (.ref b103), .val .null, .unset, .val (.int (1 : Int32)), .unset] []))
    refine Goes.step (fun t k => XS.iconst X110.here hx rfl (hb hby at_210) k) ?_
    show Goes _ _ _ _ _ _ _ (T110.setTop (mkF m 211 #[.val (.int p0), .val (.int p1), .val (.int p2), .val (.int x2_0), .val (.int x4_0), .val (.int (1 : Int32)), .val (.int (1 : Int32)), .val (.ref b77), .val (.ref b83), .val (.ref b92), .val (.ref b92), .val (.ref b103), .val .null, .unset, .val (.int (1 : Int32)), .unset] [(.int (0 : Int32))]))
    refine Goes.step (fun t k => XS.istore X110.here hx rfl (hb hby at_211) rfl (l' := #[.val (.int p0), .val (.int p1), .val (.int p2), .val (.int x2_0), .val (.int x4_0), .val (.int (1 : Int32)), .val (.int (1 : Int32)), .val (.ref b77), .val (.ref b83), .val (.ref b92), .val (.ref b92), .val (.ref b103), .val .null, .val (.int (0 : Int32)), .val (.int (1 : Int32)), .unset]) rfl k) ?_
    show Goes _ _ _ _ _ _ _ (T110.setTop (mkF m 213 #[.val (.int p0), .val (.int p1), .val (.int p2), .val (.int x2_0), .val (.int x4_0), .val (.int (1 : Int32)), .val (.int (1 : Int32)), .val (.ref b77), .val (.ref b83), .val (.ref b92), .val (.ref b92), .val (.ref b103), .val .null, .val (.int (0 : Int32)), .val (.int (1 : Int32)), .unset] []))
    refine Goes.step (fun t k => XS.goto X110.here hx rfl (pc0 := 213) (pc' := 246) rfl (hb hby at_213) (by decide) (by decide) k) ?_
    show Goes _ _ _ _ _ _ _ (T110.setTop (mkF m 246 #[.val (.int p0), .val (.int p1), .val (.int p2), .val (.int x2_0), .val (.int x4_0), .val (.int (1 : Int32)), .val (.int (1 : Int32)), .val (.ref b77), .val (.ref b83), .val (.ref b92), .val (.ref b92), .val (.ref b103), .val .null, .val (.int (0 : Int32)), .val (.int (1 : Int32)), .unset] []))
    refine Goes.step (fun t k => XS.aload X110.here hx rfl (hb hby at_246) rfl rfl k) ?_
    show Goes _ _ _ _ _ _ _ (T110.setTop (mkF m 248 #[.val (.int p0), .val (.int p1), .val (.int p2), .val (.int x2_0), .val (.int x4_0), .val (.int (1 : Int32)), .val (.int (1 : Int32)), .val (.ref b77), .val (.ref b83), .val (.ref b92), .val (.ref b92), .val (.ref b103), .val .null, .val (.int (0 : Int32)), .val (.int (1 : Int32)), .unset] [(.ref b103)]))
    refine Goes.step (fun t k => XS.aload X110.here hx rfl (hb hby at_248) rfl rfl k) ?_
    show Goes _ _ _ _ _ _ _ (T110.setTop (mkF m 250 #[.val (.int p0), .val (.int p1), .val (.int p2), .val (.int x2_0), .val (.int x4_0), .val (.int (1 : Int32)), .val (.int (1 : Int32)), .val (.ref b77), .val (.ref b83), .val (.ref b92), .val (.ref b92), .val (.ref b103), .val .null, .val (.int (0 : Int32)), .val (.int (1 : Int32)), .unset] [(.ref b103), (.ref b103)]))
    obtain ⟨cq117, kq117, q117a, q117b, q117c⟩ := isOf hZ e110 G110_0
    obtain ⟨_, _, ⟨T117, L117, k117, n117⟩, -, X117, ⟨Lc117, hQ117, l117, y117, z117⟩, st117⟩ := X110.virtualBack hx (y := (⟨"com/example/vigilant_schema/vigilantschema/Node$BooleanNode", "equals", "(Ljava/lang/Object;)Z"⟩ : MethodName)) (z := (⟨"com/example/vigilant_schema/vigilantschema/Node$BooleanNode", "equals", "(Ljava/lang/Object;)Z"⟩ : MethodName)) hown (mvT hZ (hw _ (List.mem_of_getElem? (i := 41) rfl))) (mvT hZ (hw _ (List.mem_of_getElem? (i := 42) rfl))) (notFace_of_selects (args := #[]) (mvT hZ (hw _ (List.mem_of_getElem? (i := 44) rfl)))) (mvT hZ (hw _ (List.mem_of_getElem? (i := 44) rfl))) (mvT hZ (hw _ (List.mem_of_getElem? (i := 43) rfl))) (by decide) (backOf (W := 0) (rm8B l Z tA hw [] b103 b103 (nar .boolean x2_0) (nar .boolean x2_0) h110 G110_0 G110_1 G110_1) hZ (hw _ (List.mem_of_getElem? (i := 45) rfl)) (hw _ (List.mem_of_getElem? (i := 32) rfl)) (by decide) (by decide)) q117a q117c (g := (mkF m 250 #[.val (.int p0), .val (.int p1), .val (.int p2), .val (.int x2_0), .val (.int x4_0), .val (.int (1 : Int32)), .val (.int (1 : Int32)), .val (.ref b77), .val (.ref b83), .val (.ref b92), .val (.ref b92), .val (.ref b103), .val .null, .val (.int (0 : Int32)), .val (.int (1 : Int32)), .unset] [(.ref b103), (.ref b103)])) rfl (by rw [hml]; rfl) (Steps.refl _) (argsL := [(.ref b103)]) (rest := []) (lenOf own_pd2 rfl) rfl (by show 2 * 0 + _ ≤ _; exact Nat.le_of_eq rfl) (hb hby at_250) (fun _ _ => ⟨rfl, e110, (by decide : 5 + 0 ≤ _), (by decide : 12 + 0 ≤ _)⟩)
    dsimp only [Pt.U, Pt.locs, Pt.cells, Pt.slots] at X117 l117 y117 z117 st117 hQ117
    rw [l117, y117, z117] at X117
    obtain ⟨rfl, rfl, e117⟩ := hQ117
    try rw [List.append_nil] at X117
    change Stand _ _ _ _ _ _ _ _ _ _ _ _ 5 12 at X117
    refine Goes.step (fun t k => st117.trans k) ?_
    show Goes _ _ _ _ _ _ _ (T117.setTop (mkF m 253 #[.val (.int p0), .val (.int p1), .val (.int p2), .val (.int x2_0), .val (.int x4_0), .val (.int (1 : Int32)), .val (.int (1 : Int32)), .val (.ref b77), .val (.ref b83), .val (.ref b92), .val (.ref b92), .val (.ref b103), .val .null, .val (.int (0 : Int32)), .val (.int (1 : Int32)), .unset] [(.int (f8B (nar .boolean x2_0) (nar .boolean x2_0)))]))
    refine Goes.step (fun t k => XS.istore X117.here hx rfl (hb hby at_253) rfl (l' := #[.val (.int p0), .val (.int p1), .val (.int p2), .val (.int x2_0), .val (.int x4_0), .val (.int (1 : Int32)), .val (.int (1 : Int32)), .val (.ref b77), .val (.ref b83), .val (.ref b92), .val (.ref b92), .val (.ref b103), .val .null, .val (.int (0 : Int32)), .val (.int (1 : Int32)), .val (.int (f8B (nar .boolean x2_0) (nar .boolean x2_0)))]) rfl k) ?_
    show Goes _ _ _ _ _ _ _ (T117.setTop (mkF m 255 #[.val (.int p0), .val (.int p1), .val (.int p2), .val (.int x2_0), .val (.int x4_0), .val (.int (1 : Int32)), .val (.int (1 : Int32)), .val (.ref b77), .val (.ref b83), .val (.ref b92), .val (.ref b92), .val (.ref b103), .val .null, .val (.int (0 : Int32)), .val (.int (1 : Int32)), .val (.int (f8B (nar .boolean x2_0) (nar .boolean x2_0)))] []))
    generalize hy118 : (f8B (nar .boolean x2_0) (nar .boolean x2_0)) = y118
    refine Goes.step (fun t k => XS.iload X117.here hx rfl (hb hby at_255) rfl k) ?_
    show Goes _ _ _ _ _ _ _ (T117.setTop (mkF m 257 #[.val (.int p0), .val (.int p1), .val (.int p2), .val (.int x2_0), .val (.int x4_0), .val (.int (1 : Int32)), .val (.int (1 : Int32)), .val (.ref b77), .val (.ref b83), .val (.ref b92), .val (.ref b92), .val (.ref b103), .val .null, .val (.int (0 : Int32)), .val (.int (1 : Int32)), .val (.int y118)] [(.int y118)]))
    suffices k123 : ∀ (T123 : State) (L123 : List Loc) (x123_0 : Int32), Stand p l e room_1 s m #[(.int p0), (.int p1), (.int p2)] below meth c T123 L123 5 12 → T123.heap = h110 → Fr n0 L123 → x123_0 = (if y118 = (0 : Int32) then (0 : Int32) else (if f8O = (0 : Int32) then (1 : Int32) else (0 : Int32))) → Goes p e below s (Q0 Z p0 p1 p2 wC h0 n0) kC0 kS0 (T123.setTop (mkF m 282 #[.val (.int p0), .val (.int p1), .val (.int p2), .val (.int x2_0), .val (.int x4_0), .val (.int (1 : Int32)), .val (.int (1 : Int32)), .val (.ref b77), .val (.ref b83), .val (.ref b92), .val (.ref b92), .val (.ref b103), .val .null, .val (.int (0 : Int32)), .val (.int (1 : Int32)), .val (.int y118)] [(.int x123_0)])) by
      by_cases hc257_119 : y118 = (0 : Int32)
      · refine Goes.step (fun t k => XS.ifYes X117.here hx rfl (pc0 := 257) (pc' := 281) rfl (hb hby at_257) rfl ((if0 _ _).trans (teq hc257_119).1) (by decide) (by decide) k) ?_
        show Goes _ _ _ _ _ _ _ (T117.setTop (mkF m 281 #[.val (.int p0), .val (.int p1), .val (.int p2), .val (.int x2_0), .val (.int x4_0), .val (.int (1 : Int32)), .val (.int (1 : Int32)), .val (.ref b77), .val (.ref b83), .val (.ref b92), .val (.ref b92), .val (.ref b103), .val .null, .val (.int (0 : Int32)), .val (.int (1 : Int32)), .val (.int y118)] []))
        refine Goes.step (fun t k => XS.iconst X117.here hx rfl (hb hby at_281) k) ?_
        show Goes _ _ _ _ _ _ _ (T117.setTop (mkF m 282 #[.val (.int p0), .val (.int p1), .val (.int p2), .val (.int x2_0), .val (.int x4_0), .val (.int (1 : Int32)), .val (.int (1 : Int32)), .val (.ref b77), .val (.ref b83), .val (.ref b92), .val (.ref b92), .val (.ref b103), .val .null, .val (.int (0 : Int32)), .val (.int (1 : Int32)), .val (.int y118)] [(.int (0 : Int32))]))
        exact k123 _ _ _ X117 e117 N110 (if_pos hc257_119).symm
      · refine Goes.step (fun t k => XS.ifNo X117.here hx rfl (hb hby at_257) rfl ((if0 _ _).trans (feq hc257_119).1) k) ?_
        show Goes _ _ _ _ _ _ _ (T117.setTop (mkF m 260 #[.val (.int p0), .val (.int p1), .val (.int p2), .val (.int x2_0), .val (.int x4_0), .val (.int (1 : Int32)), .val (.int (1 : Int32)), .val (.ref b77), .val (.ref b83), .val (.ref b92), .val (.ref b92), .val (.ref b103), .val .null, .val (.int (0 : Int32)), .val (.int (1 : Int32)), .val (.int y118)] []))
        refine Goes.step (fun t k => XS.iload X117.here hx rfl (hb hby at_260) rfl k) ?_
        show Goes _ _ _ _ _ _ _ (T117.setTop (mkF m 262 #[.val (.int p0), .val (.int p1), .val (.int p2), .val (.int x2_0), .val (.int x4_0), .val (.int (1 : Int32)), .val (.int (1 : Int32)), .val (.ref b77), .val (.ref b83), .val (.ref b92), .val (.ref b92), .val (.ref b103), .val .null, .val (.int (0 : Int32)), .val (.int (1 : Int32)), .val (.int y118)] [(.int (1 : Int32))]))
        refine Goes.step (fun t k => XS.ifNo X117.here hx rfl (hb hby at_262) rfl ((if0 _ _).trans (feq (by decide)).1) k) ?_
        show Goes _ _ _ _ _ _ _ (T117.setTop (mkF m 265 #[.val (.int p0), .val (.int p1), .val (.int p2), .val (.int x2_0), .val (.int x4_0), .val (.int (1 : Int32)), .val (.int (1 : Int32)), .val (.ref b77), .val (.ref b83), .val (.ref b92), .val (.ref b92), .val (.ref b103), .val .null, .val (.int (0 : Int32)), .val (.int (1 : Int32)), .val (.int y118)] []))
        refine Goes.step (fun t k => XS.aload X117.here hx rfl (hb hby at_265) rfl rfl k) ?_
        show Goes _ _ _ _ _ _ _ (T117.setTop (mkF m 267 #[.val (.int p0), .val (.int p1), .val (.int p2), .val (.int x2_0), .val (.int x4_0), .val (.int (1 : Int32)), .val (.int (1 : Int32)), .val (.ref b77), .val (.ref b83), .val (.ref b92), .val (.ref b92), .val (.ref b103), .val .null, .val (.int (0 : Int32)), .val (.int (1 : Int32)), .val (.int y118)] [(.ref b103)]))
        refine Goes.step (fun t k => XS.aload X117.here hx rfl (hb hby at_267) rfl rfl k) ?_
        show Goes _ _ _ _ _ _ _ (T117.setTop (mkF m 269 #[.val (.int p0), .val (.int p1), .val (.int p2), .val (.int x2_0), .val (.int x4_0), .val (.int (1 : Int32)), .val (.int (1 : Int32)), .val (.ref b77), .val (.ref b83), .val (.ref b92), .val (.ref b92), .val (.ref b103), .val .null, .val (.int (0 : Int32)), .val (.int (1 : Int32)), .val (.int y118)] [.null, (.ref b103)]))
        obtain ⟨cq121, kq121, q121a, q121b, q121c⟩ := isOf hZ e117 G110_0
        obtain ⟨_, _, ⟨T121, L121, k121, n121⟩, -, X121, ⟨Lc121, hQ121, l121, y121, z121⟩, st121⟩ := X117.virtualBack hx (y := (⟨"com/example/vigilant_schema/vigilantschema/Node$BooleanNode", "equals", "(Ljava/lang/Object;)Z"⟩ : MethodName)) (z := (⟨"com/example/vigilant_schema/vigilantschema/Node$BooleanNode", "equals", "(Ljava/lang/Object;)Z"⟩ : MethodName)) hown (mvT hZ (hw _ (List.mem_of_getElem? (i := 41) rfl))) (mvT hZ (hw _ (List.mem_of_getElem? (i := 42) rfl))) (notFace_of_selects (args := #[]) (mvT hZ (hw _ (List.mem_of_getElem? (i := 44) rfl)))) (mvT hZ (hw _ (List.mem_of_getElem? (i := 44) rfl))) (mvT hZ (hw _ (List.mem_of_getElem? (i := 43) rfl))) (by decide) (backOf (W := 0) (rm8O l Z tA hw [] b103 h110) hZ (hw _ (List.mem_of_getElem? (i := 45) rfl)) (hw _ (List.mem_of_getElem? (i := 32) rfl)) (by decide) (by decide)) q121a q121c (g := (mkF m 269 #[.val (.int p0), .val (.int p1), .val (.int p2), .val (.int x2_0), .val (.int x4_0), .val (.int (1 : Int32)), .val (.int (1 : Int32)), .val (.ref b77), .val (.ref b83), .val (.ref b92), .val (.ref b92), .val (.ref b103), .val .null, .val (.int (0 : Int32)), .val (.int (1 : Int32)), .val (.int y118)] [.null, (.ref b103)])) rfl (by rw [hml]; rfl) (Steps.refl _) (argsL := [.null]) (rest := []) (lenOf own_pd2 rfl) rfl (by show 2 * 0 + _ ≤ _; exact Nat.le_of_eq rfl) (hb hby at_269) (fun _ _ => ⟨rfl, e117, (by decide : 5 + 0 ≤ _), (by decide : 12 + 0 ≤ _)⟩)
        dsimp only [Pt.U, Pt.locs, Pt.cells, Pt.slots] at X121 l121 y121 z121 st121 hQ121
        rw [l121, y121, z121] at X121
        obtain ⟨rfl, rfl, e121⟩ := hQ121
        try rw [List.append_nil] at X121
        change Stand _ _ _ _ _ _ _ _ _ _ _ _ 5 12 at X121
        refine Goes.step (fun t k => st121.trans k) ?_
        show Goes _ _ _ _ _ _ _ (T121.setTop (mkF m 272 #[.val (.int p0), .val (.int p1), .val (.int p2), .val (.int x2_0), .val (.int x4_0), .val (.int (1 : Int32)), .val (.int (1 : Int32)), .val (.ref b77), .val (.ref b83), .val (.ref b92), .val (.ref b92), .val (.ref b103), .val .null, .val (.int (0 : Int32)), .val (.int (1 : Int32)), .val (.int y118)] [(.int f8O)]))
        refine Goes.step (fun t k => XS.iload X121.here hx rfl (hb hby at_272) rfl k) ?_
        show Goes _ _ _ _ _ _ _ (T121.setTop (mkF m 274 #[.val (.int p0), .val (.int p1), .val (.int p2), .val (.int x2_0), .val (.int x4_0), .val (.int (1 : Int32)), .val (.int (1 : Int32)), .val (.ref b77), .val (.ref b83), .val (.ref b92), .val (.ref b92), .val (.ref b103), .val .null, .val (.int (0 : Int32)), .val (.int (1 : Int32)), .val (.int y118)] [(.int (0 : Int32)), (.int f8O)]))
        by_cases hc274_122 : f8O = (0 : Int32)
        · refine Goes.step (fun t k => XS.icmpNo X121.here hx rfl (hb hby at_274) rfl (teq hc274_122).2 k) ?_
          show Goes _ _ _ _ _ _ _ (T121.setTop (mkF m 277 #[.val (.int p0), .val (.int p1), .val (.int p2), .val (.int x2_0), .val (.int x4_0), .val (.int (1 : Int32)), .val (.int (1 : Int32)), .val (.ref b77), .val (.ref b83), .val (.ref b92), .val (.ref b92), .val (.ref b103), .val .null, .val (.int (0 : Int32)), .val (.int (1 : Int32)), .val (.int y118)] []))
          refine Goes.step (fun t k => XS.iconst X121.here hx rfl (hb hby at_277) k) ?_
          show Goes _ _ _ _ _ _ _ (T121.setTop (mkF m 278 #[.val (.int p0), .val (.int p1), .val (.int p2), .val (.int x2_0), .val (.int x4_0), .val (.int (1 : Int32)), .val (.int (1 : Int32)), .val (.ref b77), .val (.ref b83), .val (.ref b92), .val (.ref b92), .val (.ref b103), .val .null, .val (.int (0 : Int32)), .val (.int (1 : Int32)), .val (.int y118)] [(.int (1 : Int32))]))
          refine Goes.step (fun t k => XS.goto X121.here hx rfl (pc0 := 278) (pc' := 282) rfl (hb hby at_278) (by decide) (by decide) k) ?_
          show Goes _ _ _ _ _ _ _ (T121.setTop (mkF m 282 #[.val (.int p0), .val (.int p1), .val (.int p2), .val (.int x2_0), .val (.int x4_0), .val (.int (1 : Int32)), .val (.int (1 : Int32)), .val (.ref b77), .val (.ref b83), .val (.ref b92), .val (.ref b92), .val (.ref b103), .val .null, .val (.int (0 : Int32)), .val (.int (1 : Int32)), .val (.int y118)] [(.int (1 : Int32))]))
          exact k123 _ _ _ X121 e121 N110 ((if_neg hc257_119).trans (if_pos hc274_122)).symm
        · refine Goes.step (fun t k => XS.icmpYes X121.here hx rfl (pc0 := 274) (pc' := 281) rfl (hb hby at_274) rfl (feq hc274_122).2 (by decide) (by decide) k) ?_
          show Goes _ _ _ _ _ _ _ (T121.setTop (mkF m 281 #[.val (.int p0), .val (.int p1), .val (.int p2), .val (.int x2_0), .val (.int x4_0), .val (.int (1 : Int32)), .val (.int (1 : Int32)), .val (.ref b77), .val (.ref b83), .val (.ref b92), .val (.ref b92), .val (.ref b103), .val .null, .val (.int (0 : Int32)), .val (.int (1 : Int32)), .val (.int y118)] []))
          refine Goes.step (fun t k => XS.iconst X121.here hx rfl (hb hby at_281) k) ?_
          show Goes _ _ _ _ _ _ _ (T121.setTop (mkF m 282 #[.val (.int p0), .val (.int p1), .val (.int p2), .val (.int x2_0), .val (.int x4_0), .val (.int (1 : Int32)), .val (.int (1 : Int32)), .val (.ref b77), .val (.ref b83), .val (.ref b92), .val (.ref b92), .val (.ref b103), .val .null, .val (.int (0 : Int32)), .val (.int (1 : Int32)), .val (.int y118)] [(.int (0 : Int32))]))
          exact k123 _ _ _ X121 e121 N110 ((if_neg hc257_119).trans (if_neg hc274_122)).symm
    intro T123 L123 x123_0 X123 e123 N123 hx123_0
    exact Goes.retZ X123 hx Bd.notSynchronized (r := (1 : Int32)) Bd.returns (by simp) (hb hby at_282) (own_plain_2 p0 x2_0 y118 x123_0 hx2_0 hy118 hx123_0) ⟨rfl, N123⟩ (by decide) (by decide)
  · show Goes _ _ _ _ _ _ _ (s₁.setTop (mkF m 45 #[.val (.int p0), .val (.int p1), .val (.int p2), .val (.int x2_0), .val (.int x4_0), .val (.int (1 : Int32)), .val (.int (2 : Int32)), .unset, .unset, .unset, .unset, .unset, .unset, .unset, .unset, .unset] []))
    refine Goes.step (fun t k => XS.iconst X0.here hx rfl (hb hby at_45) k) ?_
    show Goes _ _ _ _ _ _ _ (s₁.setTop (mkF m 46 #[.val (.int p0), .val (.int p1), .val (.int p2), .val (.int x2_0), .val (.int x4_0), .val (.int (1 : Int32)), .val (.int (2 : Int32)), .unset, .unset, .unset, .unset, .unset, .unset, .unset, .unset, .unset] [(.int (2 : Int32))]))
    obtain ⟨T124, h124, k124, X124, e124, E124, A124, st124⟩ := newP X0 hx hZ (hw _ (List.mem_of_getElem? (i := 0) rfl)) e0 (g := (mkF m 46 #[.val (.int p0), .val (.int p1), .val (.int p2), .val (.int x2_0), .val (.int x4_0), .val (.int (1 : Int32)), .val (.int (2 : Int32)), .unset, .unset, .unset, .unset, .unset, .unset, .unset, .unset, .unset] [(.int (2 : Int32))])) rfl (hb hby at_46) rfl (by decide) (cap := 2) (by decide) (by decide) (by decide) (by decide)
    obtain ⟨b124, g124⟩ : ∃ z, z = h0.size := ⟨_, rfl⟩
    rw [← g124] at A124 st124
    have Zs124 : n0 ≤ b124 := Nat.le_trans Z0 (Nat.le_of_eq g124.symm)
    have Zh124 : h0.size ≤ b124 := Nat.le_trans (Keep.refl h0 []).1 (Nat.le_of_eq g124.symm)
    have F125 := S_c.ext E124
    have K124 := (Keep.refl h0 []).ext E124
    have Z124 := Nat.le_trans Z0 E124.1
    have V124 : Ara Z h124 b124 .char [(.int (0 : Int32)), (.int (0 : Int32))] := Ara.new A124 (by decide) rfl (fun _ q => nomatch q)
    refine Goes.step (fun t k => st124 t k) ?_
    show Goes _ _ _ _ _ _ _ (T124.setTop (mkF m 48 #[.val (.int p0), .val (.int p1), .val (.int p2), .val (.int x2_0), .val (.int x4_0), .val (.int (1 : Int32)), .val (.int (2 : Int32)), .unset, .unset, .unset, .unset, .unset, .unset, .unset, .unset, .unset] [(.ref b124)]))
    refine Goes.step (fun t k => XS.dup X124.here hx rfl (hb hby at_48) rfl rfl k) ?_
    show Goes _ _ _ _ _ _ _ (T124.setTop (mkF m 49 #[.val (.int p0), .val (.int p1), .val (.int p2), .val (.int x2_0), .val (.int x4_0), .val (.int (1 : Int32)), .val (.int (2 : Int32)), .unset, .unset, .unset, .unset, .unset, .unset, .unset, .unset, .unset] [(.ref b124), (.ref b124)]))
    refine Goes.step (fun t k => XS.iconst X124.here hx rfl (hb hby at_49) k) ?_
    show Goes _ _ _ _ _ _ _ (T124.setTop (mkF m 50 #[.val (.int p0), .val (.int p1), .val (.int p2), .val (.int x2_0), .val (.int x4_0), .val (.int (1 : Int32)), .val (.int (2 : Int32)), .unset, .unset, .unset, .unset, .unset, .unset, .unset, .unset, .unset] [(.int (0 : Int32)), (.ref b124), (.ref b124)]))
    refine Goes.step (fun t k => XS.iloadN X124.here hx rfl (hb hby at_50) rfl k) ?_
    show Goes _ _ _ _ _ _ _ (T124.setTop (mkF m 51 #[.val (.int p0), .val (.int p1), .val (.int p2), .val (.int x2_0), .val (.int x4_0), .val (.int (1 : Int32)), .val (.int (2 : Int32)), .unset, .unset, .unset, .unset, .unset, .unset, .unset, .unset, .unset] [(.int p1), (.int (0 : Int32)), (.ref b124), (.ref b124)]))
    refine Goes.step (fun t k => XS.sipush X124.here hx rfl (hb hby at_51) k) ?_
    show Goes _ _ _ _ _ _ _ (T124.setTop (mkF m 54 #[.val (.int p0), .val (.int p1), .val (.int p2), .val (.int x2_0), .val (.int x4_0), .val (.int (1 : Int32)), .val (.int (2 : Int32)), .unset, .unset, .unset, .unset, .unset, .unset, .unset, .unset, .unset] [(.int (255 : Int32)), (.int p1), (.int (0 : Int32)), (.ref b124), (.ref b124)]))
    refine Goes.step (fun t k => XS.iand X124.here hx rfl (hb hby at_54) rfl k) ?_
    show Goes _ _ _ _ _ _ _ (T124.setTop (mkF m 55 #[.val (.int p0), .val (.int p1), .val (.int p2), .val (.int x2_0), .val (.int x4_0), .val (.int (1 : Int32)), .val (.int (2 : Int32)), .unset, .unset, .unset, .unset, .unset, .unset, .unset, .unset, .unset] [(.int (p1 &&& (255 : Int32))), (.int (0 : Int32)), (.ref b124), (.ref b124)]))
    refine Goes.step (fun t k => XS.i2c X124.here hx rfl (hb hby at_55) rfl k) ?_
    show Goes _ _ _ _ _ _ _ (T124.setTop (mkF m 56 #[.val (.int p0), .val (.int p1), .val (.int p2), .val (.int x2_0), .val (.int x4_0), .val (.int (1 : Int32)), .val (.int (2 : Int32)), .unset, .unset, .unset, .unset, .unset, .unset, .unset, .unset, .unset] [(.int ((p1 &&& (255 : Int32)).toUInt32.toUInt16.toUInt32.toInt32)), (.int (0 : Int32)), (.ref b124), (.ref b124)]))
    obtain ⟨cl126, Ar126, q126, ll126, ff126, oo126⟩ := id V124
    have hn126 : ¬ (0 : Int32) < 0 := by decide
    have hl126 : ((0 : Int32)).toNatClampNeg < ([(.int (0 : Int32)), (.int (0 : Int32))] : List Value).length := by exact Nat.le_of_ble_eq_true rfl
    obtain ⟨T126, h126, X126, e126, W126, st126⟩ := stC X124 hx hZ e124 Ar126 (j := (0 : Int32)) (inb q126 hn126 hl126) (g := (mkF m 56 #[.val (.int p0), .val (.int p1), .val (.int p2), .val (.int x2_0), .val (.int x4_0), .val (.int (1 : Int32)), .val (.int (2 : Int32)), .unset, .unset, .unset, .unset, .unset, .unset, .unset, .unset, .unset] [(.int ((p1 &&& (255 : Int32)).toUInt32.toUInt16.toUInt32.toInt32)), (.int (0 : Int32)), (.ref b124), (.ref b124)])) rfl rfl (hb hby at_56)
    have V126 : Ara Z h126 b124 .char [(.int (nar .char ((p1 &&& (255 : Int32)).toUInt32.toUInt16.toUInt32.toInt32))), (.int (0 : Int32))] := Ara.same (j := (0 : Int32)) Ar126 q126 ll126 ff126 oo126 (fits_nar_char _) W126
    have F127 := F125.wr W126
    have K126 := K124.wr W126 (Or.inr Zh124)
    have N126 := Fr.snoc X126 N0 Zs124
    have Z126 := Nat.le_trans Z124 (Nat.le_of_eq W126.size.symm)
    refine Goes.step (fun t k => st126 t k) ?_
    show Goes _ _ _ _ _ _ _ (T126.setTop (mkF m 57 #[.val (.int p0), .val (.int p1), .val (.int p2), .val (.int x2_0), .val (.int x4_0), .val (.int (1 : Int32)), .val (.int (2 : Int32)), .unset, .unset, .unset, .unset, .unset, .unset, .unset, .unset, .unset] [(.ref b124)]))
    refine Goes.step (fun t k => XS.dup X126.here hx rfl (hb hby at_57) rfl rfl k) ?_
    show Goes _ _ _ _ _ _ _ (T126.setTop (mkF m 58 #[.val (.int p0), .val (.int p1), .val (.int p2), .val (.int x2_0), .val (.int x4_0), .val (.int (1 : Int32)), .val (.int (2 : Int32)), .unset, .unset, .unset, .unset, .unset, .unset, .unset, .unset, .unset] [(.ref b124), (.ref b124)]))
    refine Goes.step (fun t k => XS.iconst X126.here hx rfl (hb hby at_58) k) ?_
    show Goes _ _ _ _ _ _ _ (T126.setTop (mkF m 59 #[.val (.int p0), .val (.int p1), .val (.int p2), .val (.int x2_0), .val (.int x4_0), .val (.int (1 : Int32)), .val (.int (2 : Int32)), .unset, .unset, .unset, .unset, .unset, .unset, .unset, .unset, .unset] [(.int (1 : Int32)), (.ref b124), (.ref b124)]))
    refine Goes.step (fun t k => XS.iloadN X126.here hx rfl (hb hby at_59) rfl k) ?_
    show Goes _ _ _ _ _ _ _ (T126.setTop (mkF m 60 #[.val (.int p0), .val (.int p1), .val (.int p2), .val (.int x2_0), .val (.int x4_0), .val (.int (1 : Int32)), .val (.int (2 : Int32)), .unset, .unset, .unset, .unset, .unset, .unset, .unset, .unset, .unset] [(.int p1), (.int (1 : Int32)), (.ref b124), (.ref b124)]))
    refine Goes.step (fun t k => XS.bipush X126.here hx rfl (hb hby at_60) k) ?_
    show Goes _ _ _ _ _ _ _ (T126.setTop (mkF m 62 #[.val (.int p0), .val (.int p1), .val (.int p2), .val (.int x2_0), .val (.int x4_0), .val (.int (1 : Int32)), .val (.int (2 : Int32)), .unset, .unset, .unset, .unset, .unset, .unset, .unset, .unset, .unset] [(.int (8 : Int32)), (.int p1), (.int (1 : Int32)), (.ref b124), (.ref b124)]))
    refine Goes.step (fun t k => XS.iushr X126.here hx rfl (hb hby at_62) rfl k) ?_
    show Goes _ _ _ _ _ _ _ (T126.setTop (mkF m 63 #[.val (.int p0), .val (.int p1), .val (.int p2), .val (.int x2_0), .val (.int x4_0), .val (.int (1 : Int32)), .val (.int (2 : Int32)), .unset, .unset, .unset, .unset, .unset, .unset, .unset, .unset, .unset] [(.int ((p1.toUInt32 >>> ((8 : Int32) &&& 31).toUInt32).toInt32)), (.int (1 : Int32)), (.ref b124), (.ref b124)]))
    refine Goes.step (fun t k => XS.sipush X126.here hx rfl (hb hby at_63) k) ?_
    show Goes _ _ _ _ _ _ _ (T126.setTop (mkF m 66 #[.val (.int p0), .val (.int p1), .val (.int p2), .val (.int x2_0), .val (.int x4_0), .val (.int (1 : Int32)), .val (.int (2 : Int32)), .unset, .unset, .unset, .unset, .unset, .unset, .unset, .unset, .unset] [(.int (255 : Int32)), (.int ((p1.toUInt32 >>> ((8 : Int32) &&& 31).toUInt32).toInt32)), (.int (1 : Int32)), (.ref b124), (.ref b124)]))
    refine Goes.step (fun t k => XS.iand X126.here hx rfl (hb hby at_66) rfl k) ?_
    show Goes _ _ _ _ _ _ _ (T126.setTop (mkF m 67 #[.val (.int p0), .val (.int p1), .val (.int p2), .val (.int x2_0), .val (.int x4_0), .val (.int (1 : Int32)), .val (.int (2 : Int32)), .unset, .unset, .unset, .unset, .unset, .unset, .unset, .unset, .unset] [(.int (((p1.toUInt32 >>> ((8 : Int32) &&& 31).toUInt32).toInt32) &&& (255 : Int32))), (.int (1 : Int32)), (.ref b124), (.ref b124)]))
    refine Goes.step (fun t k => XS.i2c X126.here hx rfl (hb hby at_67) rfl k) ?_
    show Goes _ _ _ _ _ _ _ (T126.setTop (mkF m 68 #[.val (.int p0), .val (.int p1), .val (.int p2), .val (.int x2_0), .val (.int x4_0), .val (.int (1 : Int32)), .val (.int (2 : Int32)), .unset, .unset, .unset, .unset, .unset, .unset, .unset, .unset, .unset] [(.int ((((p1.toUInt32 >>> ((8 : Int32) &&& 31).toUInt32).toInt32) &&& (255 : Int32)).toUInt32.toUInt16.toUInt32.toInt32)), (.int (1 : Int32)), (.ref b124), (.ref b124)]))
    obtain ⟨cl128, Ar128, q128, ll128, ff128, oo128⟩ := id V126
    have hn128 : ¬ (1 : Int32) < 0 := by decide
    have hl128 : ((1 : Int32)).toNatClampNeg < ([(.int (nar .char ((p1 &&& (255 : Int32)).toUInt32.toUInt16.toUInt32.toInt32))), (.int (0 : Int32))] : List Value).length := by exact Nat.le_of_ble_eq_true rfl
    obtain ⟨T128, h128, X128, e128, W128, st128⟩ := stC X126 hx hZ e126 Ar128 (j := (1 : Int32)) (inb q128 hn128 hl128) (g := (mkF m 68 #[.val (.int p0), .val (.int p1), .val (.int p2), .val (.int x2_0), .val (.int x4_0), .val (.int (1 : Int32)), .val (.int (2 : Int32)), .unset, .unset, .unset, .unset, .unset, .unset, .unset, .unset, .unset] [(.int ((((p1.toUInt32 >>> ((8 : Int32) &&& 31).toUInt32).toInt32) &&& (255 : Int32)).toUInt32.toUInt16.toUInt32.toInt32)), (.int (1 : Int32)), (.ref b124), (.ref b124)])) rfl rfl (hb hby at_68)
    have V128 : Ara Z h128 b124 .char [(.int (nar .char ((p1 &&& (255 : Int32)).toUInt32.toUInt16.toUInt32.toInt32))), (.int (nar .char ((((p1.toUInt32 >>> ((8 : Int32) &&& 31).toUInt32).toInt32) &&& (255 : Int32)).toUInt32.toUInt16.toUInt32.toInt32)))] := Ara.same (j := (1 : Int32)) Ar128 q128 ll128 ff128 oo128 (fits_nar_char _) W128
    have F129 := F127.wr W128
    have K128 := K126.wr W128 (Or.inr Zh124)
    have N128 := Fr.snoc X128 N126 Zs124
    have Z128 := Nat.le_trans Z126 (Nat.le_of_eq W128.size.symm)
    refine Goes.step (fun t k => st128 t k) ?_
    show Goes _ _ _ _ _ _ _ (T128.setTop (mkF m 69 #[.val (.int p0), .val (.int p1), .val (.int p2), .val (.int x2_0), .val (.int x4_0), .val (.int (1 : Int32)), .val (.int (2 : Int32)), .unset, .unset, .unset, .unset, .unset, .unset, .unset, .unset, .unset] [(.ref b124)]))
    refine Goes.step (fun t k => XS.astore X128.here hx rfl (hb hby at_69) rfl rfl (l' := #[.val (.int p0), .val (.int p1), .val (.int p2), .val (.int x2_0), .val (.int x4_0), .val (.int (1 : Int32)), .val (.int (2 : Int32)), .val (.ref b124), .unset, .unset, .unset, .unset, .unset, .unset, .unset, .unset]) rfl k) ?_
    show Goes _ _ _ _ _ _ _ (T128.setTop (mkF m 71 #[.val (.int p0), .val (.int p1), .val (.int p2), .val (.int x2_0), .val (.int x4_0), .val (.int (1 : Int32)), .val (.int (2 : Int32)), .val (.ref b124), .unset, .unset, .unset, .unset, .unset, .unset, .unset, .unset] []))
    refine Goes.step (fun t k => XS.iconst X128.here hx rfl (hb hby at_71) k) ?_
    show Goes _ _ _ _ _ _ _ (T128.setTop (mkF m 72 #[.val (.int p0), .val (.int p1), .val (.int p2), .val (.int x2_0), .val (.int x4_0), .val (.int (1 : Int32)), .val (.int (2 : Int32)), .val (.ref b124), .unset, .unset, .unset, .unset, .unset, .unset, .unset, .unset] [(.int (2 : Int32))]))
    obtain ⟨T130, h130, k130, X130, e130, E130, A130, st130⟩ := newP X128 hx hZ (hw _ (List.mem_of_getElem? (i := 0) rfl)) e128 (g := (mkF m 72 #[.val (.int p0), .val (.int p1), .val (.int p2), .val (.int x2_0), .val (.int x4_0), .val (.int (1 : Int32)), .val (.int (2 : Int32)), .val (.ref b124), .unset, .unset, .unset, .unset, .unset, .unset, .unset, .unset] [(.int (2 : Int32))])) rfl (hb hby at_72) rfl (by decide) (cap := 2) (by decide) (by decide) (by decide) (by decide)
    obtain ⟨b130, g130⟩ : ∃ z, z = h128.size := ⟨_, rfl⟩
    rw [← g130] at A130 st130
    have ne_b124_b130 : b124 ≠ b130 := Nat.ne_of_lt (Nat.lt_of_lt_of_le V128.lt (Nat.le_of_eq g130.symm))
    have Zs130 : n0 ≤ b130 := Nat.le_trans Z128 (Nat.le_of_eq g130.symm)
    have Zh130 : h0.size ≤ b130 := Nat.le_trans K128.1 (Nat.le_of_eq g130.symm)
    have F131 := F129.ext E130
    have F132 := V128.ext E130
    have K130 := K128.ext E130
    have Z130 := Nat.le_trans Z128 E130.1
    have V130 : Ara Z h130 b130 .char [(.int (0 : Int32)), (.int (0 : Int32))] := Ara.new A130 (by decide) rfl (fun _ q => nomatch q)
    refine Goes.step (fun t k => st130 t k) ?_
    show Goes _ _ _ _ _ _ _ (T130.setTop (mkF m 74 #[.val (.int p0), .val (.int p1), .val (.int p2), .val (.int x2_0), .val (.int x4_0), .val (.int (1 : Int32)), .val (.int (2 : Int32)), .val (.ref b124), .unset, .unset, .unset, .unset, .unset, .unset, .unset, .unset] [(.ref b130)]))
    refine Goes.step (fun t k => XS.dup X130.here hx rfl (hb hby at_74) rfl rfl k) ?_
    show Goes _ _ _ _ _ _ _ (T130.setTop (mkF m 75 #[.val (.int p0), .val (.int p1), .val (.int p2), .val (.int x2_0), .val (.int x4_0), .val (.int (1 : Int32)), .val (.int (2 : Int32)), .val (.ref b124), .unset, .unset, .unset, .unset, .unset, .unset, .unset, .unset] [(.ref b130), (.ref b130)]))
    refine Goes.step (fun t k => XS.iconst X130.here hx rfl (hb hby at_75) k) ?_
    show Goes _ _ _ _ _ _ _ (T130.setTop (mkF m 76 #[.val (.int p0), .val (.int p1), .val (.int p2), .val (.int x2_0), .val (.int x4_0), .val (.int (1 : Int32)), .val (.int (2 : Int32)), .val (.ref b124), .unset, .unset, .unset, .unset, .unset, .unset, .unset, .unset] [(.int (0 : Int32)), (.ref b130), (.ref b130)]))
    refine Goes.step (fun t k => XS.iloadN X130.here hx rfl (hb hby at_76) rfl k) ?_
    show Goes _ _ _ _ _ _ _ (T130.setTop (mkF m 77 #[.val (.int p0), .val (.int p1), .val (.int p2), .val (.int x2_0), .val (.int x4_0), .val (.int (1 : Int32)), .val (.int (2 : Int32)), .val (.ref b124), .unset, .unset, .unset, .unset, .unset, .unset, .unset, .unset] [(.int p2), (.int (0 : Int32)), (.ref b130), (.ref b130)]))
    refine Goes.step (fun t k => XS.sipush X130.here hx rfl (hb hby at_77) k) ?_
    show Goes _ _ _ _ _ _ _ (T130.setTop (mkF m 80 #[.val (.int p0), .val (.int p1), .val (.int p2), .val (.int x2_0), .val (.int x4_0), .val (.int (1 : Int32)), .val (.int (2 : Int32)), .val (.ref b124), .unset, .unset, .unset, .unset, .unset, .unset, .unset, .unset] [(.int (255 : Int32)), (.int p2), (.int (0 : Int32)), (.ref b130), (.ref b130)]))
    refine Goes.step (fun t k => XS.iand X130.here hx rfl (hb hby at_80) rfl k) ?_
    show Goes _ _ _ _ _ _ _ (T130.setTop (mkF m 81 #[.val (.int p0), .val (.int p1), .val (.int p2), .val (.int x2_0), .val (.int x4_0), .val (.int (1 : Int32)), .val (.int (2 : Int32)), .val (.ref b124), .unset, .unset, .unset, .unset, .unset, .unset, .unset, .unset] [(.int (p2 &&& (255 : Int32))), (.int (0 : Int32)), (.ref b130), (.ref b130)]))
    refine Goes.step (fun t k => XS.i2c X130.here hx rfl (hb hby at_81) rfl k) ?_
    show Goes _ _ _ _ _ _ _ (T130.setTop (mkF m 82 #[.val (.int p0), .val (.int p1), .val (.int p2), .val (.int x2_0), .val (.int x4_0), .val (.int (1 : Int32)), .val (.int (2 : Int32)), .val (.ref b124), .unset, .unset, .unset, .unset, .unset, .unset, .unset, .unset] [(.int ((p2 &&& (255 : Int32)).toUInt32.toUInt16.toUInt32.toInt32)), (.int (0 : Int32)), (.ref b130), (.ref b130)]))
    obtain ⟨cl133, Ar133, q133, ll133, ff133, oo133⟩ := id V130
    have hn133 : ¬ (0 : Int32) < 0 := by decide
    have hl133 : ((0 : Int32)).toNatClampNeg < ([(.int (0 : Int32)), (.int (0 : Int32))] : List Value).length := by exact Nat.le_of_ble_eq_true rfl
    obtain ⟨T133, h133, X133, e133, W133, st133⟩ := stC X130 hx hZ e130 Ar133 (j := (0 : Int32)) (inb q133 hn133 hl133) (g := (mkF m 82 #[.val (.int p0), .val (.int p1), .val (.int p2), .val (.int x2_0), .val (.int x4_0), .val (.int (1 : Int32)), .val (.int (2 : Int32)), .val (.ref b124), .unset, .unset, .unset, .unset, .unset, .unset, .unset, .unset] [(.int ((p2 &&& (255 : Int32)).toUInt32.toUInt16.toUInt32.toInt32)), (.int (0 : Int32)), (.ref b130), (.ref b130)])) rfl rfl (hb hby at_82)
    have V133 : Ara Z h133 b130 .char [(.int (nar .char ((p2 &&& (255 : Int32)).toUInt32.toUInt16.toUInt32.toInt32))), (.int (0 : Int32))] := Ara.same (j := (0 : Int32)) Ar133 q133 ll133 ff133 oo133 (fits_nar_char _) W133
    have F134 := F131.wr W133
    have F135 := F132.other W133 ne_b124_b130
    have K133 := K130.wr W133 (Or.inr Zh130)
    have N133 := Fr.snoc X133 N128 Zs130
    have Z133 := Nat.le_trans Z130 (Nat.le_of_eq W133.size.symm)
    refine Goes.step (fun t k => st133 t k) ?_
    show Goes _ _ _ _ _ _ _ (T133.setTop (mkF m 83 #[.val (.int p0), .val (.int p1), .val (.int p2), .val (.int x2_0), .val (.int x4_0), .val (.int (1 : Int32)), .val (.int (2 : Int32)), .val (.ref b124), .unset, .unset, .unset, .unset, .unset, .unset, .unset, .unset] [(.ref b130)]))
    refine Goes.step (fun t k => XS.dup X133.here hx rfl (hb hby at_83) rfl rfl k) ?_
    show Goes _ _ _ _ _ _ _ (T133.setTop (mkF m 84 #[.val (.int p0), .val (.int p1), .val (.int p2), .val (.int x2_0), .val (.int x4_0), .val (.int (1 : Int32)), .val (.int (2 : Int32)), .val (.ref b124), .unset, .unset, .unset, .unset, .unset, .unset, .unset, .unset] [(.ref b130), (.ref b130)]))
    refine Goes.step (fun t k => XS.iconst X133.here hx rfl (hb hby at_84) k) ?_
    show Goes _ _ _ _ _ _ _ (T133.setTop (mkF m 85 #[.val (.int p0), .val (.int p1), .val (.int p2), .val (.int x2_0), .val (.int x4_0), .val (.int (1 : Int32)), .val (.int (2 : Int32)), .val (.ref b124), .unset, .unset, .unset, .unset, .unset, .unset, .unset, .unset] [(.int (1 : Int32)), (.ref b130), (.ref b130)]))
    refine Goes.step (fun t k => XS.iloadN X133.here hx rfl (hb hby at_85) rfl k) ?_
    show Goes _ _ _ _ _ _ _ (T133.setTop (mkF m 86 #[.val (.int p0), .val (.int p1), .val (.int p2), .val (.int x2_0), .val (.int x4_0), .val (.int (1 : Int32)), .val (.int (2 : Int32)), .val (.ref b124), .unset, .unset, .unset, .unset, .unset, .unset, .unset, .unset] [(.int p2), (.int (1 : Int32)), (.ref b130), (.ref b130)]))
    refine Goes.step (fun t k => XS.bipush X133.here hx rfl (hb hby at_86) k) ?_
    show Goes _ _ _ _ _ _ _ (T133.setTop (mkF m 88 #[.val (.int p0), .val (.int p1), .val (.int p2), .val (.int x2_0), .val (.int x4_0), .val (.int (1 : Int32)), .val (.int (2 : Int32)), .val (.ref b124), .unset, .unset, .unset, .unset, .unset, .unset, .unset, .unset] [(.int (8 : Int32)), (.int p2), (.int (1 : Int32)), (.ref b130), (.ref b130)]))
    refine Goes.step (fun t k => XS.iushr X133.here hx rfl (hb hby at_88) rfl k) ?_
    show Goes _ _ _ _ _ _ _ (T133.setTop (mkF m 89 #[.val (.int p0), .val (.int p1), .val (.int p2), .val (.int x2_0), .val (.int x4_0), .val (.int (1 : Int32)), .val (.int (2 : Int32)), .val (.ref b124), .unset, .unset, .unset, .unset, .unset, .unset, .unset, .unset] [(.int ((p2.toUInt32 >>> ((8 : Int32) &&& 31).toUInt32).toInt32)), (.int (1 : Int32)), (.ref b130), (.ref b130)]))
    refine Goes.step (fun t k => XS.sipush X133.here hx rfl (hb hby at_89) k) ?_
    show Goes _ _ _ _ _ _ _ (T133.setTop (mkF m 92 #[.val (.int p0), .val (.int p1), .val (.int p2), .val (.int x2_0), .val (.int x4_0), .val (.int (1 : Int32)), .val (.int (2 : Int32)), .val (.ref b124), .unset, .unset, .unset, .unset, .unset, .unset, .unset, .unset] [(.int (255 : Int32)), (.int ((p2.toUInt32 >>> ((8 : Int32) &&& 31).toUInt32).toInt32)), (.int (1 : Int32)), (.ref b130), (.ref b130)]))
    refine Goes.step (fun t k => XS.iand X133.here hx rfl (hb hby at_92) rfl k) ?_
    show Goes _ _ _ _ _ _ _ (T133.setTop (mkF m 93 #[.val (.int p0), .val (.int p1), .val (.int p2), .val (.int x2_0), .val (.int x4_0), .val (.int (1 : Int32)), .val (.int (2 : Int32)), .val (.ref b124), .unset, .unset, .unset, .unset, .unset, .unset, .unset, .unset] [(.int (((p2.toUInt32 >>> ((8 : Int32) &&& 31).toUInt32).toInt32) &&& (255 : Int32))), (.int (1 : Int32)), (.ref b130), (.ref b130)]))
    refine Goes.step (fun t k => XS.i2c X133.here hx rfl (hb hby at_93) rfl k) ?_
    show Goes _ _ _ _ _ _ _ (T133.setTop (mkF m 94 #[.val (.int p0), .val (.int p1), .val (.int p2), .val (.int x2_0), .val (.int x4_0), .val (.int (1 : Int32)), .val (.int (2 : Int32)), .val (.ref b124), .unset, .unset, .unset, .unset, .unset, .unset, .unset, .unset] [(.int ((((p2.toUInt32 >>> ((8 : Int32) &&& 31).toUInt32).toInt32) &&& (255 : Int32)).toUInt32.toUInt16.toUInt32.toInt32)), (.int (1 : Int32)), (.ref b130), (.ref b130)]))
    obtain ⟨cl136, Ar136, q136, ll136, ff136, oo136⟩ := id V133
    have hn136 : ¬ (1 : Int32) < 0 := by decide
    have hl136 : ((1 : Int32)).toNatClampNeg < ([(.int (nar .char ((p2 &&& (255 : Int32)).toUInt32.toUInt16.toUInt32.toInt32))), (.int (0 : Int32))] : List Value).length := by exact Nat.le_of_ble_eq_true rfl
    obtain ⟨T136, h136, X136, e136, W136, st136⟩ := stC X133 hx hZ e133 Ar136 (j := (1 : Int32)) (inb q136 hn136 hl136) (g := (mkF m 94 #[.val (.int p0), .val (.int p1), .val (.int p2), .val (.int x2_0), .val (.int x4_0), .val (.int (1 : Int32)), .val (.int (2 : Int32)), .val (.ref b124), .unset, .unset, .unset, .unset, .unset, .unset, .unset, .unset] [(.int ((((p2.toUInt32 >>> ((8 : Int32) &&& 31).toUInt32).toInt32) &&& (255 : Int32)).toUInt32.toUInt16.toUInt32.toInt32)), (.int (1 : Int32)), (.ref b130), (.ref b130)])) rfl rfl (hb hby at_94)
    have V136 : Ara Z h136 b130 .char [(.int (nar .char ((p2 &&& (255 : Int32)).toUInt32.toUInt16.toUInt32.toInt32))), (.int (nar .char ((((p2.toUInt32 >>> ((8 : Int32) &&& 31).toUInt32).toInt32) &&& (255 : Int32)).toUInt32.toUInt16.toUInt32.toInt32)))] := Ara.same (j := (1 : Int32)) Ar136 q136 ll136 ff136 oo136 (fits_nar_char _) W136
    have F137 := F134.wr W136
    have F138 := F135.other W136 ne_b124_b130
    have K136 := K133.wr W136 (Or.inr Zh130)
    have N136 := Fr.snoc X136 N133 Zs130
    have Z136 := Nat.le_trans Z133 (Nat.le_of_eq W136.size.symm)
    refine Goes.step (fun t k => st136 t k) ?_
    show Goes _ _ _ _ _ _ _ (T136.setTop (mkF m 95 #[.val (.int p0), .val (.int p1), .val (.int p2), .val (.int x2_0), .val (.int x4_0), .val (.int (1 : Int32)), .val (.int (2 : Int32)), .val (.ref b124), .unset, .unset, .unset, .unset, .unset, .unset, .unset, .unset] [(.ref b130)]))
    refine Goes.step (fun t k => XS.astore X136.here hx rfl (hb hby at_95) rfl rfl (l' := #[.val (.int p0), .val (.int p1), .val (.int p2), .val (.int x2_0), .val (.int x4_0), .val (.int (1 : Int32)), .val (.int (2 : Int32)), .val (.ref b124), .val (.ref b130), .unset, .unset, .unset, .unset, .unset, .unset, .unset]) rfl k) ?_
    show Goes _ _ _ _ _ _ _ (T136.setTop (mkF m 97 #[.val (.int p0), .val (.int p1), .val (.int p2), .val (.int x2_0), .val (.int x4_0), .val (.int (1 : Int32)), .val (.int (2 : Int32)), .val (.ref b124), .val (.ref b130), .unset, .unset, .unset, .unset, .unset, .unset, .unset] []))
    obtain ⟨T139, h139, X139, e139, E139, A139, D139, -, st139⟩ := newO X136 hx hZ hown (hw _ (List.mem_of_getElem? (i := 1) rfl)) (hw _ (List.mem_of_getElem? (i := 2) rfl)) (hw _ (List.mem_of_getElem? (i := 3) rfl)) e136 (g := (mkF m 97 #[.val (.int p0), .val (.int p1), .val (.int p2), .val (.int x2_0), .val (.int x4_0), .val (.int (1 : Int32)), .val (.int (2 : Int32)), .val (.ref b124), .val (.ref b130), .unset, .unset, .unset, .unset, .unset, .unset, .unset] [])) rfl (hb hby at_97) (by decide) (by decide)
    obtain ⟨b139, g139⟩ : ∃ z, z = h136.size := ⟨_, rfl⟩
    rw [← g139] at A139 D139 st139
    have ne_b124_b139 : b124 ≠ b139 := Nat.ne_of_lt (Nat.lt_of_lt_of_le F138.lt (Nat.le_of_eq g139.symm))
    have ne_b130_b139 : b130 ≠ b139 := Nat.ne_of_lt (Nat.lt_of_lt_of_le V136.lt (Nat.le_of_eq g139.symm))
    have Zs139 : n0 ≤ b139 := Nat.le_trans Z136 (Nat.le_of_eq g139.symm)
    have Zh139 : h0.size ≤ b139 := Nat.le_trans K136.1 (Nat.le_of_eq g139.symm)
    have F140 := F137.ext E139
    have F141 := F138.ext E139
    have F142 := V136.ext E139
    have K139 := K136.ext E139
    have Z139 := Nat.le_trans Z136 E139.1
    have F143 : Fld Z h139 b139 "java/lang/String" "coder" "B" (.int (0 : Int32)) := D139 (Or.inr (hw _ (List.mem_of_getElem? (i := 27) rfl))) (ty := .byte) (by decide)
    have F144 : Fld Z h139 b139 "java/lang/String" "value" "[B" .null := D139 (Or.inr (hw _ (List.mem_of_getElem? (i := 29) rfl))) (ty := (.array .byte)) (by decide)
    refine Goes.step (fun t k => st139 t k) ?_
    show Goes _ _ _ _ _ _ _ (T139.setTop (mkF m 100 #[.val (.int p0), .val (.int p1), .val (.int p2), .val (.int x2_0), .val (.int x4_0), .val (.int (1 : Int32)), .val (.int (2 : Int32)), .val (.ref b124), .val (.ref b130), .unset, .unset, .unset, .unset, .unset, .unset, .unset] [(.ref b139)]))
    refine Goes.step (fun t k => XS.dup X139.here hx rfl (hb hby at_100) rfl rfl k) ?_
    show Goes _ _ _ _ _ _ _ (T139.setTop (mkF m 101 #[.val (.int p0), .val (.int p1), .val (.int p2), .val (.int x2_0), .val (.int x4_0), .val (.int (1 : Int32)), .val (.int (2 : Int32)), .val (.ref b124), .val (.ref b130), .unset, .unset, .unset, .unset, .unset, .unset, .unset] [(.ref b139), (.ref b139)]))
    refine Goes.step (fun t k => XS.aload X139.here hx rfl (hb hby at_101) rfl rfl k) ?_
    show Goes _ _ _ _ _ _ _ (T139.setTop (mkF m 103 #[.val (.int p0), .val (.int p1), .val (.int p2), .val (.int x2_0), .val (.int x4_0), .val (.int (1 : Int32)), .val (.int (2 : Int32)), .val (.ref b124), .val (.ref b130), .unset, .unset, .unset, .unset, .unset, .unset, .unset] [(.ref b124), (.ref b139), (.ref b139)]))
    obtain ⟨kc145, Kc145⟩ := own_arv (N := (2 : Int32)) (.int (0 : Int32)) F141 (by decide) rfl
    have hlat145 : ∀ c ∈ [(nar .char ((p1 &&& (255 : Int32)).toUInt32.toUInt16.toUInt32.toInt32)), (nar .char ((((p1.toUInt32 >>> ((8 : Int32) &&& 31).toUInt32).toInt32) &&& (255 : Int32)).toUInt32.toUInt16.toUInt32.toInt32))], ¬ c < 0 ∧ ¬ (255 : Int32) < c := by
      intro c hc
      simp only [List.mem_cons, List.not_mem_nil, or_false] at hc
      rcases hc with rfl | rfl <;> exact own_lat _
    obtain ⟨_, _, ⟨T145, L145, k145, n145⟩, -, X145, ⟨Lc145, hQ145, l145, y145, z145⟩, st145⟩ := X139.specialBack hx (y := (⟨"java/lang/String", "<init>", "([C)V"⟩ : MethodName)) rfl hown (mvT hZ (hw _ (List.mem_of_getElem? (i := 4) rfl))) (mvT hZ (hw _ (List.mem_of_getElem? (i := 5) rfl))) (mvT hZ (hw _ (List.mem_of_getElem? (i := 6) rfl))) (by decide) (StrChars.Road.backV (W := 1) hZ hws (kI := 4) (hw _ (List.mem_of_getElem? (i := 2) rfl)) (cs := [(nar .char ((p1 &&& (255 : Int32)).toUInt32.toUInt16.toUInt32.toInt32)), (nar .char ((((p1.toUInt32 >>> ((8 : Int32) &&& 31).toUInt32).toInt32) &&& (255 : Int32)).toUInt32.toUInt16.toUInt32.toInt32))]) (bs := [((nar .char ((p1 &&& (255 : Int32)).toUInt32.toUInt16.toUInt32.toInt32))).toInt8.toInt32, ((nar .char ((((p1.toUInt32 >>> ((8 : Int32) &&& 31).toUInt32).toInt32) &&& (255 : Int32)).toUInt32.toUInt16.toUInt32.toInt32))).toInt8.toInt32]) (n := 2) (n0 := n0) Zs139 Z139 A139 F144 F143 Kc145 F140 P3 rfl rfl (by decide) (by decide) hlat145 rfl (by decide) (by decide)) (g := (mkF m 103 #[.val (.int p0), .val (.int p1), .val (.int p2), .val (.int x2_0), .val (.int x4_0), .val (.int (1 : Int32)), .val (.int (2 : Int32)), .val (.ref b124), .val (.ref b130), .unset, .unset, .unset, .unset, .unset, .unset, .unset] [(.ref b124), (.ref b139), (.ref b139)])) rfl (by rw [hml]; rfl) (Steps.refl _) (a := b139) (argsL := [(.ref b124)]) (rest := [(.ref b139)]) (lenOf own_pd0 rfl) rfl (by show 2 * 0 + _ ≤ _; exact Nat.le_of_eq rfl) (hb hby at_103) (fun _ _ => ⟨rfl, e139, (by decide : 3 + 1 ≤ _), (by decide : 8 + 2 ≤ _)⟩)
    dsimp only [Pt.U, Pt.locs, Pt.cells, Pt.slots] at X145 l145 y145 z145 st145 hQ145
    rw [l145, y145, z145] at X145
    replace hQ145 := own_qv hQ145
    generalize e145 : T145.heap = h145 at hQ145
    obtain ⟨rfl, Nq145, Kq145, G145_0⟩ := hQ145
    have F146 := own_sta_keep F140 Kq145 (allS (notsta_exa A139) all0)
    have F147 := F141.keep Kq145 (ninS ne_b124_b139 nin0)
    have F148 := F142.keep Kq145 (ninS ne_b130_b139 nin0)
    have N145 := Fr.app N136 Nq145
    have K145 := K139.trans Kq145 (allS (Or.inr Zh139) all0)
    have Z145 := Nat.le_trans Z139 Kq145.1
    change Stand _ _ _ _ _ _ _ _ _ _ _ _ 4 10 at X145
    refine Goes.step (fun t k => st145.trans k) ?_
    show Goes _ _ _ _ _ _ _ (T145.setTop (mkF m 106 #[.val (.int p0), .val (.int p1), .val (.int p2), .val (.int x2_0), .val (.int x4_0), .val (.int (1 : Int32)), .val (.int (2 : Int32)), .val (.ref b124), .val (.ref b130), .unset, .unset, .unset, .unset, .unset, .unset, .unset] [(.ref b139)]))
    refine Goes.step (fun t k => XS.astore X145.here hx rfl (hb hby at_106) rfl rfl (l' := #[.val (.int p0), .val (.int p1), .val (.int p2), .val (.int x2_0), .val (.int x4_0), .val (.int (1 : Int32)), .val (.int (2 : Int32)), .val (.ref b124), .val (.ref b130), .val (.ref b139), .unset, .unset, .unset, .unset, .unset, .unset]) rfl k) ?_
    show Goes _ _ _ _ _ _ _ (T145.setTop (mkF m 108 #[.val (.int p0), .val (.int p1), .val (.int p2), .val (.int x2_0), .val (.int x4_0), .val (.int (1 : Int32)), .val (.int (2 : Int32)), .val (.ref b124), .val (.ref b130), .val (.ref b139), .unset, .unset, .unset, .unset, .unset, .unset] []))
    refine Goes.step (fun t k => XS.iload X145.here hx rfl (hb hby at_108) rfl k) ?_
    show Goes _ _ _ _ _ _ _ (T145.setTop (mkF m 110 #[.val (.int p0), .val (.int p1), .val (.int p2), .val (.int x2_0), .val (.int x4_0), .val (.int (1 : Int32)), .val (.int (2 : Int32)), .val (.ref b124), .val (.ref b130), .val (.ref b139), .unset, .unset, .unset, .unset, .unset, .unset] [(.int (1 : Int32))]))
    refine Goes.step (fun t k => XS.ifNo X145.here hx rfl (hb hby at_110) rfl ((if0 _ _).trans (feq (by decide)).1) k) ?_
    show Goes _ _ _ _ _ _ _ (T145.setTop (mkF m 113 #[.val (.int p0), .val (.int p1), .val (.int p2), .val (.int x2_0), .val (.int x4_0), .val (.int (1 : Int32)), .val (.int (2 : Int32)), .val (.ref b124), .val (.ref b130), .val (.ref b139), .unset, .unset, .unset, .unset, .unset, .unset] []))
    refine Goes.step (fun t k => XS.aload X145.here hx rfl (hb hby at_113) rfl rfl k) ?_
    show Goes _ _ _ _ _ _ _ (T145.setTop (mkF m 115 #[.val (.int p0), .val (.int p1), .val (.int p2), .val (.int x2_0), .val (.int x4_0), .val (.int (1 : Int32)), .val (.int (2 : Int32)), .val (.ref b124), .val (.ref b130), .val (.ref b139), .unset, .unset, .unset, .unset, .unset, .unset] [(.ref b139)]))
    refine Goes.step (fun t k => XS.goto X145.here hx rfl (pc0 := 115) (pc' := 127) rfl (hb hby at_115) (by decide) (by decide) k) ?_
    show Goes _ _ _ _ _ _ _ (T145.setTop (mkF m 127 #[.val (.int p0), .val (.int p1), .val (.int p2), .val (.int x2_0), .val (.int x4_0), .val (.int (1 : Int32)), .val (.int (2 : Int32)), .val (.ref b124), .val (.ref b130), .val (.ref b139), .unset, .unset, .unset, .unset, .unset, .unset] [(.ref b139)]))
    refine Goes.step (fun t k => XS.astore X145.here hx rfl (hb hby at_127) rfl rfl (l' := #[.val (.int p0), .val (.int p1), .val (.int p2), .val (.int x2_0), .val (.int x4_0), .val (.int (1 : Int32)), .val (.int (2 : Int32)), .val (.ref b124), .val (.ref b130), .val (.ref b139), .val (.ref b139), .unset, .unset, .unset, .unset, .unset]) rfl k) ?_
    show Goes _ _ _ _ _ _ _ (T145.setTop (mkF m 129 #[.val (.int p0), .val (.int p1), .val (.int p2), .val (.int x2_0), .val (.int x4_0), .val (.int (1 : Int32)), .val (.int (2 : Int32)), .val (.ref b124), .val (.ref b130), .val (.ref b139), .val (.ref b139), .unset, .unset, .unset, .unset, .unset] []))
    obtain ⟨T150, h150, X150, e150, E150, A150, D150, -, st150⟩ := newO X145 hx hZ hown (hw _ (List.mem_of_getElem? (i := 30) rfl)) (hw _ (List.mem_of_getElem? (i := 31) rfl)) (hw _ (List.mem_of_getElem? (i := 32) rfl)) e145 (g := (mkF m 129 #[.val (.int p0), .val (.int p1), .val (.int p2), .val (.int x2_0), .val (.int x4_0), .val (.int (1 : Int32)), .val (.int (2 : Int32)), .val (.ref b124), .val (.ref b130), .val (.ref b139), .val (.ref b139), .unset, .unset, .unset, .unset, .unset] [])) rfl (hb hby at_129) (by decide) (by decide)
    obtain ⟨b150, g150⟩ : ∃ z, z = h145.size := ⟨_, rfl⟩
    rw [← g150] at A150 D150 st150
    have ne_b124_b150 : b124 ≠ b150 := Nat.ne_of_lt (Nat.lt_of_lt_of_le F147.lt (Nat.le_of_eq g150.symm))
    have ne_b130_b150 : b130 ≠ b150 := Nat.ne_of_lt (Nat.lt_of_lt_of_le F148.lt (Nat.le_of_eq g150.symm))
    have ne_b139_b150 : b139 ≠ b150 := Nat.ne_of_lt (Nat.lt_of_lt_of_le G145_0.lt (Nat.le_of_eq g150.symm))
    have Zs150 : n0 ≤ b150 := Nat.le_trans Z145 (Nat.le_of_eq g150.symm)
    have Zh150 : h0.size ≤ b150 := Nat.le_trans K145.1 (Nat.le_of_eq g150.symm)
    have F151 := F146.ext E150
    have F152 := F147.ext E150
    have F153 := F148.ext E150
    have F154 := G145_0.ext E150
    have K150 := K145.ext E150
    have Z150 := Nat.le_trans Z145 E150.1
    have F155 : Fld Z h150 b150 "com/example/vigilant_schema/vigilantschema/Node$BooleanNode" "value" "Z" (.int (0 : Int32)) := D150 (Or.inr (hw _ (List.mem_of_getElem? (i := 38) rfl))) (ty := .boolean) (by decide)
    have F156 : Fld Z h150 b150 "com/example/vigilant_schema/vigilantschema/Node$BooleanNode" "written" "Ljava/lang/String;" .null := D150 (Or.inr (hw _ (List.mem_of_getElem? (i := 40) rfl))) (ty := (.object "java/lang/String")) (by decide)
    refine Goes.step (fun t k => st150 t k) ?_
    show Goes _ _ _ _ _ _ _ (T150.setTop (mkF m 132 #[.val (.int p0), .val (.int p1), .val (.int p2), .val (.int x2_0), .val (.int x4_0), .val (.int (1 : Int32)), .val (.int (2 : Int32)), .val (.ref b124), .val (.ref b130), .val (.ref b139), .val (.ref b139), .unset, .unset, .unset, .unset, .unset] [(.ref b150)]))
    refine Goes.step (fun t k => XS.dup X150.here hx rfl (hb hby at_132) rfl rfl k) ?_
    show Goes _ _ _ _ _ _ _ (T150.setTop (mkF m 133 #[.val (.int p0), .val (.int p1), .val (.int p2), .val (.int x2_0), .val (.int x4_0), .val (.int (1 : Int32)), .val (.int (2 : Int32)), .val (.ref b124), .val (.ref b130), .val (.ref b139), .val (.ref b139), .unset, .unset, .unset, .unset, .unset] [(.ref b150), (.ref b150)]))
    refine Goes.step (fun t k => XS.iloadN X150.here hx rfl (hb hby at_133) rfl k) ?_
    show Goes _ _ _ _ _ _ _ (T150.setTop (mkF m 134 #[.val (.int p0), .val (.int p1), .val (.int p2), .val (.int x2_0), .val (.int x4_0), .val (.int (1 : Int32)), .val (.int (2 : Int32)), .val (.ref b124), .val (.ref b130), .val (.ref b139), .val (.ref b139), .unset, .unset, .unset, .unset, .unset] [(.int x2_0), (.ref b150), (.ref b150)]))
    refine Goes.step (fun t k => XS.aload X150.here hx rfl (hb hby at_134) rfl rfl k) ?_
    show Goes _ _ _ _ _ _ _ (T150.setTop (mkF m 136 #[.val (.int p0), .val (.int p1), .val (.int p2), .val (.int x2_0), .val (.int x4_0), .val (.int (1 : Int32)), .val (.int (2 : Int32)), .val (.ref b124), .val (.ref b130), .val (.ref b139), .val (.ref b139), .unset, .unset, .unset, .unset, .unset] [(.ref b139), (.int x2_0), (.ref b150), (.ref b150)]))
    obtain ⟨_, _, ⟨T157, L157, k157, n157⟩, -, X157, ⟨Lc157, hQ157, l157, y157, z157⟩, st157⟩ := X150.specialBack hx (y := (⟨"com/example/vigilant_schema/vigilantschema/Node$BooleanNode", "<init>", "(ZLjava/lang/String;)V"⟩ : MethodName)) rfl hown (mvT hZ (hw _ (List.mem_of_getElem? (i := 33) rfl))) (mvT hZ (hw _ (List.mem_of_getElem? (i := 34) rfl))) (mvT hZ (hw _ (List.mem_of_getElem? (i := 35) rfl))) (by decide) (backOf (W := 1) (rm7 l Z tA hw [] b150 x2_0 b139 h150 n0 Z150 A150 F155 F156 Zs150) hZ (hw _ (List.mem_of_getElem? (i := 35) rfl)) (hw _ (List.mem_of_getElem? (i := 32) rfl)) (by decide) (by decide)) (g := (mkF m 136 #[.val (.int p0), .val (.int p1), .val (.int p2), .val (.int x2_0), .val (.int x4_0), .val (.int (1 : Int32)), .val (.int (2 : Int32)), .val (.ref b124), .val (.ref b130), .val (.ref b139), .val (.ref b139), .unset, .unset, .unset, .unset, .unset] [(.ref b139), (.int x2_0), (.ref b150), (.ref b150)])) rfl (by rw [hml]; rfl) (Steps.refl _) (a := b150) (argsL := [(.int x2_0), (.ref b139)]) (rest := [(.ref b150)]) (lenOf own_pd1 rfl) rfl (by show 2 * 0 + _ ≤ _; exact Nat.le_of_eq rfl) (hb hby at_136) (fun _ _ => ⟨rfl, e150, (by decide : 5 + 0 ≤ _), (by decide : 12 + 0 ≤ _)⟩)
    dsimp only [Pt.U, Pt.locs, Pt.cells, Pt.slots] at X157 l157 y157 z157 st157 hQ157
    rw [l157, y157, z157] at X157
    generalize e157 : T157.heap = h157 at hQ157
    obtain ⟨rfl, Nq157, Kq157, G157_0, G157_1, G157_2⟩ := hQ157
    have F158 := own_sta_keep F151 Kq157 (allS (notsta_exa A150) all0)
    have F159 := F152.keep Kq157 (ninS ne_b124_b150 nin0)
    have F160 := F153.keep Kq157 (ninS ne_b130_b150 nin0)
    have F161 := F154.keep Kq157
    have N157 := Fr.app N145 Nq157
    have K157 := K150.trans Kq157 (allS (Or.inr Zh150) all0)
    have Z157 := Nat.le_trans Z150 Kq157.1
    change Stand _ _ _ _ _ _ _ _ _ _ _ _ 5 12 at X157
    refine Goes.step (fun t k => st157.trans k) ?_
    show Goes _ _ _ _ _ _ _ (T157.setTop (mkF m 139 #[.val (.int p0), .val (.int p1), .val (.int p2), .val (.int x2_0), .val (.int x4_0), .val (.int (1 : Int32)), .val (.int (2 : Int32)), .val (.ref b124), .val (.ref b130), .val (.ref b139), .val (.ref b139), .unset, .unset, .unset, .unset, .unset] [(.ref b150)]))
    refine Goes.step (fun t k => XS.astore X157.here hx rfl (hb hby at_139) rfl rfl (l' := #[.val (.int p0), .val (.int p1), .val (.int p2), .val (.int x2_0), .val (.int x4_0), .val (.int (1 : Int32)), .val (.int (2 : Int32)), .val (.ref b124), .val (.ref b130), .val (.ref b139), .val (.ref b139), .val (.ref b150), .unset, .unset, .unset, .unset]) rfl k) ?_
    show Goes _ _ _ _ _ _ _ (T157.setTop (mkF m 141 #[.val (.int p0), .val (.int p1), .val (.int p2), .val (.int x2_0), .val (.int x4_0), .val (.int (1 : Int32)), .val (.int (2 : Int32)), .val (.ref b124), .val (.ref b130), .val (.ref b139), .val (.ref b139), .val (.ref b150), .unset, .unset, .unset, .unset] []))
    refine Goes.step (fun t k => XS.iconst X157.here hx rfl (hb hby at_141) k) ?_
    show Goes _ _ _ _ _ _ _ (T157.setTop (mkF m 142 #[.val (.int p0), .val (.int p1), .val (.int p2), .val (.int x2_0), .val (.int x4_0), .val (.int (1 : Int32)), .val (.int (2 : Int32)), .val (.ref b124), .val (.ref b130), .val (.ref b139), .val (.ref b139), .val (.ref b150), .unset, .unset, .unset, .unset] [(.int (1 : Int32))]))
    refine Goes.step (fun t k => XS.istore X157.here hx rfl (hb hby at_142) rfl (l' := #[.val (.int p0), .val (.int p1), .val (.int p2), .val (.int x2_0), .val (.int x4_0), .val (.int (1 : Int32)), .val (.int (2 : Int32)), .val (.ref b124), .val (.ref b130), .val (.ref b139), .val (.ref b139), .val (.ref b150), .unset, .unset, .val (.int (1 : Int32)), .unset]) rfl k) ?_
    show Goes _ _ _ _ _ _ _ (T157.setTop (mkF m 144 #[.val (.int p0), .val (.int p1), .val (.int p2), .val (.int x2_0), .val (.int x4_0), .val (.int (1 : Int32)), .val (.int (2 : Int32)), .val (.ref b124), .val (.ref b130), .val (.ref b139), .val (.ref b139), .val (.ref b150), .unset, .unset, .val (.int (1 : Int32)), .unset] []))
    refine Goes.step (fun t k => XS.iload X157.here hx rfl (hb hby at_144) rfl k) ?_
    show Goes _ _ _ _ _ _ _ (T157.setTop (mkF m 146 #[.val (.int p0), .val (.int p1), .val (.int p2), .val (.int x2_0), .val (.int x4_0), .val (.int (1 : Int32)), .val (.int (2 : Int32)), .val (.ref b124), .val (.ref b130), .val (.ref b139), .val (.ref b139), .val (.ref b150), .unset, .unset, .val (.int (1 : Int32)), .unset] [(.int (2 : Int32))]))
    refine Goes.step (fun t k => XS.ifYes X157.here hx rfl (pc0 := 146) (pc' := 201) rfl (hb hby at_146) rfl ((if0 _ _).trans (feq (by decide)).2) (by decide) (by decide) k) ?_
    show Goes _ _ _ _ _ _ _ (T157.setTop (mkF m 201 #[.val (.int p0), .val (.int p1), .val (.int p2), .val (.int x2_0), .val (.int x4_0), .val (.int (1 : Int32)), .val (.int (2 : Int32)), .val (.ref b124), .val (.ref b130), .val (.ref b139), .val (.ref b139), .val (.ref b150), .unset, .unset, .val (.int (1 : Int32)), .unset] []))
    refine Goes.step (fun t k => XS.iload X157.here hx rfl (hb hby at_201) rfl k) ?_
    show Goes _ _ _ _ _ _ _ (T157.setTop (mkF m 203 #[.val (.int p0), .val (.int p1), .val (.int p2), .val (.int x2_0), .val (.int x4_0), .val (.int (1 : Int32)), .val (.int (2 : Int32)), .val (.ref b124), .val (.ref b130), .val (.ref b139), .val (.ref b139), .val (.ref b150), .unset, .unset, .val (.int (1 : Int32)), .unset] [(.int (2 : Int32))]))
    refine Goes.step (fun t k => XS.iconst X157.here hx rfl (hb hby at_203) k) ?_
    show Goes _ _ _ _ _ _ _ (T157.setTop (mkF m 204 #[.val (.int p0), .val (.int p1), .val (.int p2), .val (.int x2_0), .val (.int x4_0), .val (.int (1 : Int32)), .val (.int (2 : Int32)), .val (.ref b124), .val (.ref b130), .val (.ref b139), .val (.ref b139), .val (.ref b150), .unset, .unset, .val (.int (1 : Int32)), .unset] [(.int (1 : Int32)), (.int (2 : Int32))]))
    refine Goes.step (fun t k => XS.icmpYes X157.here hx rfl (pc0 := 204) (pc' := 216) rfl (hb hby at_204) rfl (feq (by decide)).2 (by decide) (by decide) k) ?_
    show Goes _ _ _ _ _ _ _ (T157.setTop (mkF m 216 #[.val (.int p0), .val (.int p1), .val (.int p2), .val (.int x2_0), .val (.int x4_0), .val (.int (1 : Int32)), .val (.int (2 : Int32)), .val (.ref b124), .val (.ref b130), .val (.ref b139), .val (.ref b139), .val (.ref b150), .unset, .unset, .val (.int (1 : Int32)), .unset] []))
    refine Goes.step (fun t k => XS.iload X157.here hx rfl (hb hby at_216) rfl k) ?_
    show Goes _ _ _ _ _ _ _ (T157.setTop (mkF m 218 #[.val (.int p0), .val (.int p1), .val (.int p2), .val (.int x2_0), .val (.int x4_0), .val (.int (1 : Int32)), .val (.int (2 : Int32)), .val (.ref b124), .val (.ref b130), .val (.ref b139), .val (.ref b139), .val (.ref b150), .unset, .unset, .val (.int (1 : Int32)), .unset] [(.int (2 : Int32))]))
    refine Goes.step (fun t k => XS.iconst X157.here hx rfl (hb hby at_218) k) ?_
    show Goes _ _ _ _ _ _ _ (T157.setTop (mkF m 219 #[.val (.int p0), .val (.int p1), .val (.int p2), .val (.int x2_0), .val (.int x4_0), .val (.int (1 : Int32)), .val (.int (2 : Int32)), .val (.ref b124), .val (.ref b130), .val (.ref b139), .val (.ref b139), .val (.ref b150), .unset, .unset, .val (.int (1 : Int32)), .unset] [(.int (2 : Int32)), (.int (2 : Int32))]))
    refine Goes.step (fun t k => XS.icmpNo X157.here hx rfl (hb hby at_219) rfl (teq (by decide)).2 k) ?_
    show Goes _ _ _ _ _ _ _ (T157.setTop (mkF m 222 #[.val (.int p0), .val (.int p1), .val (.int p2), .val (.int x2_0), .val (.int x4_0), .val (.int (1 : Int32)), .val (.int (2 : Int32)), .val (.ref b124), .val (.ref b130), .val (.ref b139), .val (.ref b139), .val (.ref b150), .unset, .unset, .val (.int (1 : Int32)), .unset] []))
    refine Goes.step (fun t k => XS.aload X157.here hx rfl (hb hby at_222) rfl rfl k) ?_
    show Goes _ _ _ _ _ _ _ (T157.setTop (mkF m 224 #[.val (.int p0), .val (.int p1), .val (.int p2), .val (.int x2_0), .val (.int x4_0), .val (.int (1 : Int32)), .val (.int (2 : Int32)), .val (.ref b124), .val (.ref b130), .val (.ref b139), .val (.ref b139), .val (.ref b150), .unset, .unset, .val (.int (1 : Int32)), .unset] [(.ref b139)]))
    refine Goes.step (fun t k => XS.astore X157.here hx rfl (hb hby at_224) rfl rfl (l' := #[.val (.int p0), .val (.int p1), .val (.int p2), .val (.int x2_0), .val (.int x4_0), .val (.int (1 : Int32)), .val (.int (2 : Int32)), .val (.ref b124), .val (.ref b130), .val (.ref b139), .val (.ref b139), .val (.ref b150), .val (.ref b139), .unset, .val (.int (1 : Int32)), .unset]) rfl k) ?_
    show Goes _ _ _ _ _ _ _ (T157.setTop (mkF m 226 #[.val (.int p0), .val (.int p1), .val (.int p2), .val (.int x2_0), .val (.int x4_0), .val (.int (1 : Int32)), .val (.int (2 : Int32)), .val (.ref b124), .val (.ref b130), .val (.ref b139), .val (.ref b139), .val (.ref b150), .val (.ref b139), .unset, .val (.int (1 : Int32)), .unset] []))
    refine Goes.step (fun t k => XS.iconst X157.here hx rfl (hb hby at_226) k) ?_
    show Goes _ _ _ _ _ _ _ (T157.setTop (mkF m 227 #[.val (.int p0), .val (.int p1), .val (.int p2), .val (.int x2_0), .val (.int x4_0), .val (.int (1 : Int32)), .val (.int (2 : Int32)), .val (.ref b124), .val (.ref b130), .val (.ref b139), .val (.ref b139), .val (.ref b150), .val (.ref b139), .unset, .val (.int (1 : Int32)), .unset] [(.int (0 : Int32))]))
    refine Goes.step (fun t k => XS.istore X157.here hx rfl (hb hby at_227) rfl (l' := #[.val (.int p0), .val (.int p1), .val (.int p2), .val (.int x2_0), .val (.int x4_0), .val (.int (1 : Int32)), .val (.int (2 : Int32)), .val (.ref b124), .val (.ref b130), .val (.ref b139), .val (.ref b139), .val (.ref b150), .val (.ref b139), .val (.int (0 : Int32)), .val (.int (1 : Int32)), .unset]) rfl k) ?_
    show Goes _ _ _ _ _ _ _ (T157.setTop (mkF m 229 #[.val (.int p0), .val (.int p1), .val (.int p2), .val (.int x2_0), .val (.int x4_0), .val (.int (1 : Int32)), .val (.int (2 : Int32)), .val (.ref b124), .val (.ref b130), .val (.ref b139), .val (.ref b139), .val (.ref b150), .val (.ref b139), .val (.int (0 : Int32)), .val (.int (1 : Int32)), .unset] []))
    refine Goes.step (fun t k => XS.goto X157.here hx rfl (pc0 := 229) (pc' := 246) rfl (hb hby at_229) (by decide) (by decide) k) ?_
    show Goes _ _ _ _ _ _ _ (T157.setTop (mkF m 246 #[.val (.int p0), .val (.int p1), .val (.int p2), .val (.int x2_0), .val (.int x4_0), .val (.int (1 : Int32)), .val (.int (2 : Int32)), .val (.ref b124), .val (.ref b130), .val (.ref b139), .val (.ref b139), .val (.ref b150), .val (.ref b139), .val (.int (0 : Int32)), .val (.int (1 : Int32)), .unset] []))
    refine Goes.step (fun t k => XS.aload X157.here hx rfl (hb hby at_246) rfl rfl k) ?_
    show Goes _ _ _ _ _ _ _ (T157.setTop (mkF m 248 #[.val (.int p0), .val (.int p1), .val (.int p2), .val (.int x2_0), .val (.int x4_0), .val (.int (1 : Int32)), .val (.int (2 : Int32)), .val (.ref b124), .val (.ref b130), .val (.ref b139), .val (.ref b139), .val (.ref b150), .val (.ref b139), .val (.int (0 : Int32)), .val (.int (1 : Int32)), .unset] [(.ref b150)]))
    refine Goes.step (fun t k => XS.aload X157.here hx rfl (hb hby at_248) rfl rfl k) ?_
    show Goes _ _ _ _ _ _ _ (T157.setTop (mkF m 250 #[.val (.int p0), .val (.int p1), .val (.int p2), .val (.int x2_0), .val (.int x4_0), .val (.int (1 : Int32)), .val (.int (2 : Int32)), .val (.ref b124), .val (.ref b130), .val (.ref b139), .val (.ref b139), .val (.ref b150), .val (.ref b139), .val (.int (0 : Int32)), .val (.int (1 : Int32)), .unset] [(.ref b150), (.ref b150)]))
    obtain ⟨cq165, kq165, q165a, q165b, q165c⟩ := isOf hZ e157 G157_0
    obtain ⟨_, _, ⟨T165, L165, k165, n165⟩, -, X165, ⟨Lc165, hQ165, l165, y165, z165⟩, st165⟩ := X157.virtualBack hx (y := (⟨"com/example/vigilant_schema/vigilantschema/Node$BooleanNode", "equals", "(Ljava/lang/Object;)Z"⟩ : MethodName)) (z := (⟨"com/example/vigilant_schema/vigilantschema/Node$BooleanNode", "equals", "(Ljava/lang/Object;)Z"⟩ : MethodName)) hown (mvT hZ (hw _ (List.mem_of_getElem? (i := 41) rfl))) (mvT hZ (hw _ (List.mem_of_getElem? (i := 42) rfl))) (notFace_of_selects (args := #[]) (mvT hZ (hw _ (List.mem_of_getElem? (i := 44) rfl)))) (mvT hZ (hw _ (List.mem_of_getElem? (i := 44) rfl))) (mvT hZ (hw _ (List.mem_of_getElem? (i := 43) rfl))) (by decide) (backOf (W := 0) (rm8B l Z tA hw [] b150 b150 (nar .boolean x2_0) (nar .boolean x2_0) h157 G157_0 G157_1 G157_1) hZ (hw _ (List.mem_of_getElem? (i := 45) rfl)) (hw _ (List.mem_of_getElem? (i := 32) rfl)) (by decide) (by decide)) q165a q165c (g := (mkF m 250 #[.val (.int p0), .val (.int p1), .val (.int p2), .val (.int x2_0), .val (.int x4_0), .val (.int (1 : Int32)), .val (.int (2 : Int32)), .val (.ref b124), .val (.ref b130), .val (.ref b139), .val (.ref b139), .val (.ref b150), .val (.ref b139), .val (.int (0 : Int32)), .val (.int (1 : Int32)), .unset] [(.ref b150), (.ref b150)])) rfl (by rw [hml]; rfl) (Steps.refl _) (argsL := [(.ref b150)]) (rest := []) (lenOf own_pd2 rfl) rfl (by show 2 * 0 + _ ≤ _; exact Nat.le_of_eq rfl) (hb hby at_250) (fun _ _ => ⟨rfl, e157, (by decide : 5 + 0 ≤ _), (by decide : 12 + 0 ≤ _)⟩)
    dsimp only [Pt.U, Pt.locs, Pt.cells, Pt.slots] at X165 l165 y165 z165 st165 hQ165
    rw [l165, y165, z165] at X165
    obtain ⟨rfl, rfl, e165⟩ := hQ165
    try rw [List.append_nil] at X165
    change Stand _ _ _ _ _ _ _ _ _ _ _ _ 5 12 at X165
    refine Goes.step (fun t k => st165.trans k) ?_
    show Goes _ _ _ _ _ _ _ (T165.setTop (mkF m 253 #[.val (.int p0), .val (.int p1), .val (.int p2), .val (.int x2_0), .val (.int x4_0), .val (.int (1 : Int32)), .val (.int (2 : Int32)), .val (.ref b124), .val (.ref b130), .val (.ref b139), .val (.ref b139), .val (.ref b150), .val (.ref b139), .val (.int (0 : Int32)), .val (.int (1 : Int32)), .unset] [(.int (f8B (nar .boolean x2_0) (nar .boolean x2_0)))]))
    refine Goes.step (fun t k => XS.istore X165.here hx rfl (hb hby at_253) rfl (l' := #[.val (.int p0), .val (.int p1), .val (.int p2), .val (.int x2_0), .val (.int x4_0), .val (.int (1 : Int32)), .val (.int (2 : Int32)), .val (.ref b124), .val (.ref b130), .val (.ref b139), .val (.ref b139), .val (.ref b150), .val (.ref b139), .val (.int (0 : Int32)), .val (.int (1 : Int32)), .val (.int (f8B (nar .boolean x2_0) (nar .boolean x2_0)))]) rfl k) ?_
    show Goes _ _ _ _ _ _ _ (T165.setTop (mkF m 255 #[.val (.int p0), .val (.int p1), .val (.int p2), .val (.int x2_0), .val (.int x4_0), .val (.int (1 : Int32)), .val (.int (2 : Int32)), .val (.ref b124), .val (.ref b130), .val (.ref b139), .val (.ref b139), .val (.ref b150), .val (.ref b139), .val (.int (0 : Int32)), .val (.int (1 : Int32)), .val (.int (f8B (nar .boolean x2_0) (nar .boolean x2_0)))] []))
    generalize hy166 : (f8B (nar .boolean x2_0) (nar .boolean x2_0)) = y166
    refine Goes.step (fun t k => XS.iload X165.here hx rfl (hb hby at_255) rfl k) ?_
    show Goes _ _ _ _ _ _ _ (T165.setTop (mkF m 257 #[.val (.int p0), .val (.int p1), .val (.int p2), .val (.int x2_0), .val (.int x4_0), .val (.int (1 : Int32)), .val (.int (2 : Int32)), .val (.ref b124), .val (.ref b130), .val (.ref b139), .val (.ref b139), .val (.ref b150), .val (.ref b139), .val (.int (0 : Int32)), .val (.int (1 : Int32)), .val (.int y166)] [(.int y166)]))
    suffices k171 : ∀ (T171 : State) (L171 : List Loc) (x171_0 : Int32), Stand p l e room_1 s m #[(.int p0), (.int p1), (.int p2)] below meth c T171 L171 5 12 → T171.heap = h157 → Fr n0 L171 → x171_0 = (if y166 = (0 : Int32) then (0 : Int32) else (if f8S = (0 : Int32) then (1 : Int32) else (0 : Int32))) → Goes p e below s (Q0 Z p0 p1 p2 wC h0 n0) kC0 kS0 (T171.setTop (mkF m 282 #[.val (.int p0), .val (.int p1), .val (.int p2), .val (.int x2_0), .val (.int x4_0), .val (.int (1 : Int32)), .val (.int (2 : Int32)), .val (.ref b124), .val (.ref b130), .val (.ref b139), .val (.ref b139), .val (.ref b150), .val (.ref b139), .val (.int (0 : Int32)), .val (.int (1 : Int32)), .val (.int y166)] [(.int x171_0)])) by
      by_cases hc257_167 : y166 = (0 : Int32)
      · refine Goes.step (fun t k => XS.ifYes X165.here hx rfl (pc0 := 257) (pc' := 281) rfl (hb hby at_257) rfl ((if0 _ _).trans (teq hc257_167).1) (by decide) (by decide) k) ?_
        show Goes _ _ _ _ _ _ _ (T165.setTop (mkF m 281 #[.val (.int p0), .val (.int p1), .val (.int p2), .val (.int x2_0), .val (.int x4_0), .val (.int (1 : Int32)), .val (.int (2 : Int32)), .val (.ref b124), .val (.ref b130), .val (.ref b139), .val (.ref b139), .val (.ref b150), .val (.ref b139), .val (.int (0 : Int32)), .val (.int (1 : Int32)), .val (.int y166)] []))
        refine Goes.step (fun t k => XS.iconst X165.here hx rfl (hb hby at_281) k) ?_
        show Goes _ _ _ _ _ _ _ (T165.setTop (mkF m 282 #[.val (.int p0), .val (.int p1), .val (.int p2), .val (.int x2_0), .val (.int x4_0), .val (.int (1 : Int32)), .val (.int (2 : Int32)), .val (.ref b124), .val (.ref b130), .val (.ref b139), .val (.ref b139), .val (.ref b150), .val (.ref b139), .val (.int (0 : Int32)), .val (.int (1 : Int32)), .val (.int y166)] [(.int (0 : Int32))]))
        exact k171 _ _ _ X165 e165 N157 (if_pos hc257_167).symm
      · refine Goes.step (fun t k => XS.ifNo X165.here hx rfl (hb hby at_257) rfl ((if0 _ _).trans (feq hc257_167).1) k) ?_
        show Goes _ _ _ _ _ _ _ (T165.setTop (mkF m 260 #[.val (.int p0), .val (.int p1), .val (.int p2), .val (.int x2_0), .val (.int x4_0), .val (.int (1 : Int32)), .val (.int (2 : Int32)), .val (.ref b124), .val (.ref b130), .val (.ref b139), .val (.ref b139), .val (.ref b150), .val (.ref b139), .val (.int (0 : Int32)), .val (.int (1 : Int32)), .val (.int y166)] []))
        refine Goes.step (fun t k => XS.iload X165.here hx rfl (hb hby at_260) rfl k) ?_
        show Goes _ _ _ _ _ _ _ (T165.setTop (mkF m 262 #[.val (.int p0), .val (.int p1), .val (.int p2), .val (.int x2_0), .val (.int x4_0), .val (.int (1 : Int32)), .val (.int (2 : Int32)), .val (.ref b124), .val (.ref b130), .val (.ref b139), .val (.ref b139), .val (.ref b150), .val (.ref b139), .val (.int (0 : Int32)), .val (.int (1 : Int32)), .val (.int y166)] [(.int (1 : Int32))]))
        refine Goes.step (fun t k => XS.ifNo X165.here hx rfl (hb hby at_262) rfl ((if0 _ _).trans (feq (by decide)).1) k) ?_
        show Goes _ _ _ _ _ _ _ (T165.setTop (mkF m 265 #[.val (.int p0), .val (.int p1), .val (.int p2), .val (.int x2_0), .val (.int x4_0), .val (.int (1 : Int32)), .val (.int (2 : Int32)), .val (.ref b124), .val (.ref b130), .val (.ref b139), .val (.ref b139), .val (.ref b150), .val (.ref b139), .val (.int (0 : Int32)), .val (.int (1 : Int32)), .val (.int y166)] []))
        refine Goes.step (fun t k => XS.aload X165.here hx rfl (hb hby at_265) rfl rfl k) ?_
        show Goes _ _ _ _ _ _ _ (T165.setTop (mkF m 267 #[.val (.int p0), .val (.int p1), .val (.int p2), .val (.int x2_0), .val (.int x4_0), .val (.int (1 : Int32)), .val (.int (2 : Int32)), .val (.ref b124), .val (.ref b130), .val (.ref b139), .val (.ref b139), .val (.ref b150), .val (.ref b139), .val (.int (0 : Int32)), .val (.int (1 : Int32)), .val (.int y166)] [(.ref b150)]))
        refine Goes.step (fun t k => XS.aload X165.here hx rfl (hb hby at_267) rfl rfl k) ?_
        show Goes _ _ _ _ _ _ _ (T165.setTop (mkF m 269 #[.val (.int p0), .val (.int p1), .val (.int p2), .val (.int x2_0), .val (.int x4_0), .val (.int (1 : Int32)), .val (.int (2 : Int32)), .val (.ref b124), .val (.ref b130), .val (.ref b139), .val (.ref b139), .val (.ref b150), .val (.ref b139), .val (.int (0 : Int32)), .val (.int (1 : Int32)), .val (.int y166)] [(.ref b139), (.ref b150)]))
        obtain ⟨cq169, kq169, q169a, q169b, q169c⟩ := isOf hZ e165 G157_0
        obtain ⟨_, _, ⟨T169, L169, k169, n169⟩, -, X169, ⟨Lc169, hQ169, l169, y169, z169⟩, st169⟩ := X165.virtualBack hx (y := (⟨"com/example/vigilant_schema/vigilantschema/Node$BooleanNode", "equals", "(Ljava/lang/Object;)Z"⟩ : MethodName)) (z := (⟨"com/example/vigilant_schema/vigilantschema/Node$BooleanNode", "equals", "(Ljava/lang/Object;)Z"⟩ : MethodName)) hown (mvT hZ (hw _ (List.mem_of_getElem? (i := 41) rfl))) (mvT hZ (hw _ (List.mem_of_getElem? (i := 42) rfl))) (notFace_of_selects (args := #[]) (mvT hZ (hw _ (List.mem_of_getElem? (i := 44) rfl)))) (mvT hZ (hw _ (List.mem_of_getElem? (i := 44) rfl))) (mvT hZ (hw _ (List.mem_of_getElem? (i := 43) rfl))) (by decide) (backOf (W := 0) (rm8S l Z tA hw [] b150 b139 h157 F161) hZ (hw _ (List.mem_of_getElem? (i := 45) rfl)) (hw _ (List.mem_of_getElem? (i := 32) rfl)) (by decide) (by decide)) q169a q169c (g := (mkF m 269 #[.val (.int p0), .val (.int p1), .val (.int p2), .val (.int x2_0), .val (.int x4_0), .val (.int (1 : Int32)), .val (.int (2 : Int32)), .val (.ref b124), .val (.ref b130), .val (.ref b139), .val (.ref b139), .val (.ref b150), .val (.ref b139), .val (.int (0 : Int32)), .val (.int (1 : Int32)), .val (.int y166)] [(.ref b139), (.ref b150)])) rfl (by rw [hml]; rfl) (Steps.refl _) (argsL := [(.ref b139)]) (rest := []) (lenOf own_pd2 rfl) rfl (by show 2 * 0 + _ ≤ _; exact Nat.le_of_eq rfl) (hb hby at_269) (fun _ _ => ⟨rfl, e165, (by decide : 5 + 0 ≤ _), (by decide : 12 + 0 ≤ _)⟩)
        dsimp only [Pt.U, Pt.locs, Pt.cells, Pt.slots] at X169 l169 y169 z169 st169 hQ169
        rw [l169, y169, z169] at X169
        obtain ⟨rfl, rfl, e169⟩ := hQ169
        try rw [List.append_nil] at X169
        change Stand _ _ _ _ _ _ _ _ _ _ _ _ 5 12 at X169
        refine Goes.step (fun t k => st169.trans k) ?_
        show Goes _ _ _ _ _ _ _ (T169.setTop (mkF m 272 #[.val (.int p0), .val (.int p1), .val (.int p2), .val (.int x2_0), .val (.int x4_0), .val (.int (1 : Int32)), .val (.int (2 : Int32)), .val (.ref b124), .val (.ref b130), .val (.ref b139), .val (.ref b139), .val (.ref b150), .val (.ref b139), .val (.int (0 : Int32)), .val (.int (1 : Int32)), .val (.int y166)] [(.int f8S)]))
        refine Goes.step (fun t k => XS.iload X169.here hx rfl (hb hby at_272) rfl k) ?_
        show Goes _ _ _ _ _ _ _ (T169.setTop (mkF m 274 #[.val (.int p0), .val (.int p1), .val (.int p2), .val (.int x2_0), .val (.int x4_0), .val (.int (1 : Int32)), .val (.int (2 : Int32)), .val (.ref b124), .val (.ref b130), .val (.ref b139), .val (.ref b139), .val (.ref b150), .val (.ref b139), .val (.int (0 : Int32)), .val (.int (1 : Int32)), .val (.int y166)] [(.int (0 : Int32)), (.int f8S)]))
        by_cases hc274_170 : f8S = (0 : Int32)
        · refine Goes.step (fun t k => XS.icmpNo X169.here hx rfl (hb hby at_274) rfl (teq hc274_170).2 k) ?_
          show Goes _ _ _ _ _ _ _ (T169.setTop (mkF m 277 #[.val (.int p0), .val (.int p1), .val (.int p2), .val (.int x2_0), .val (.int x4_0), .val (.int (1 : Int32)), .val (.int (2 : Int32)), .val (.ref b124), .val (.ref b130), .val (.ref b139), .val (.ref b139), .val (.ref b150), .val (.ref b139), .val (.int (0 : Int32)), .val (.int (1 : Int32)), .val (.int y166)] []))
          refine Goes.step (fun t k => XS.iconst X169.here hx rfl (hb hby at_277) k) ?_
          show Goes _ _ _ _ _ _ _ (T169.setTop (mkF m 278 #[.val (.int p0), .val (.int p1), .val (.int p2), .val (.int x2_0), .val (.int x4_0), .val (.int (1 : Int32)), .val (.int (2 : Int32)), .val (.ref b124), .val (.ref b130), .val (.ref b139), .val (.ref b139), .val (.ref b150), .val (.ref b139), .val (.int (0 : Int32)), .val (.int (1 : Int32)), .val (.int y166)] [(.int (1 : Int32))]))
          refine Goes.step (fun t k => XS.goto X169.here hx rfl (pc0 := 278) (pc' := 282) rfl (hb hby at_278) (by decide) (by decide) k) ?_
          show Goes _ _ _ _ _ _ _ (T169.setTop (mkF m 282 #[.val (.int p0), .val (.int p1), .val (.int p2), .val (.int x2_0), .val (.int x4_0), .val (.int (1 : Int32)), .val (.int (2 : Int32)), .val (.ref b124), .val (.ref b130), .val (.ref b139), .val (.ref b139), .val (.ref b150), .val (.ref b139), .val (.int (0 : Int32)), .val (.int (1 : Int32)), .val (.int y166)] [(.int (1 : Int32))]))
          exact k171 _ _ _ X169 e169 N157 ((if_neg hc257_167).trans (if_pos hc274_170)).symm
        · refine Goes.step (fun t k => XS.icmpYes X169.here hx rfl (pc0 := 274) (pc' := 281) rfl (hb hby at_274) rfl (feq hc274_170).2 (by decide) (by decide) k) ?_
          show Goes _ _ _ _ _ _ _ (T169.setTop (mkF m 281 #[.val (.int p0), .val (.int p1), .val (.int p2), .val (.int x2_0), .val (.int x4_0), .val (.int (1 : Int32)), .val (.int (2 : Int32)), .val (.ref b124), .val (.ref b130), .val (.ref b139), .val (.ref b139), .val (.ref b150), .val (.ref b139), .val (.int (0 : Int32)), .val (.int (1 : Int32)), .val (.int y166)] []))
          refine Goes.step (fun t k => XS.iconst X169.here hx rfl (hb hby at_281) k) ?_
          show Goes _ _ _ _ _ _ _ (T169.setTop (mkF m 282 #[.val (.int p0), .val (.int p1), .val (.int p2), .val (.int x2_0), .val (.int x4_0), .val (.int (1 : Int32)), .val (.int (2 : Int32)), .val (.ref b124), .val (.ref b130), .val (.ref b139), .val (.ref b139), .val (.ref b150), .val (.ref b139), .val (.int (0 : Int32)), .val (.int (1 : Int32)), .val (.int y166)] [(.int (0 : Int32))]))
          exact k171 _ _ _ X169 e169 N157 ((if_neg hc257_167).trans (if_neg hc274_170)).symm
    intro T171 L171 x171_0 X171 e171 N171 hx171_0
    exact Goes.retZ X171 hx Bd.notSynchronized (r := (1 : Int32)) Bd.returns (by simp) (hb hby at_282) (own_plain_3 p0 x2_0 y166 x171_0 hx2_0 hy166 hx171_0) ⟨rfl, N171⟩ (by decide) (by decide)
  · show Goes _ _ _ _ _ _ _ (s₁.setTop (mkF m 45 #[.val (.int p0), .val (.int p1), .val (.int p2), .val (.int x2_0), .val (.int x4_0), .val (.int (1 : Int32)), .val (.int (3 : Int32)), .unset, .unset, .unset, .unset, .unset, .unset, .unset, .unset, .unset] []))
    refine Goes.step (fun t k => XS.iconst X0.here hx rfl (hb hby at_45) k) ?_
    show Goes _ _ _ _ _ _ _ (s₁.setTop (mkF m 46 #[.val (.int p0), .val (.int p1), .val (.int p2), .val (.int x2_0), .val (.int x4_0), .val (.int (1 : Int32)), .val (.int (3 : Int32)), .unset, .unset, .unset, .unset, .unset, .unset, .unset, .unset, .unset] [(.int (2 : Int32))]))
    obtain ⟨T172, h172, k172, X172, e172, E172, A172, st172⟩ := newP X0 hx hZ (hw _ (List.mem_of_getElem? (i := 0) rfl)) e0 (g := (mkF m 46 #[.val (.int p0), .val (.int p1), .val (.int p2), .val (.int x2_0), .val (.int x4_0), .val (.int (1 : Int32)), .val (.int (3 : Int32)), .unset, .unset, .unset, .unset, .unset, .unset, .unset, .unset, .unset] [(.int (2 : Int32))])) rfl (hb hby at_46) rfl (by decide) (cap := 2) (by decide) (by decide) (by decide) (by decide)
    obtain ⟨b172, g172⟩ : ∃ z, z = h0.size := ⟨_, rfl⟩
    rw [← g172] at A172 st172
    have Zs172 : n0 ≤ b172 := Nat.le_trans Z0 (Nat.le_of_eq g172.symm)
    have Zh172 : h0.size ≤ b172 := Nat.le_trans (Keep.refl h0 []).1 (Nat.le_of_eq g172.symm)
    have F173 := S_c.ext E172
    have K172 := (Keep.refl h0 []).ext E172
    have Z172 := Nat.le_trans Z0 E172.1
    have V172 : Ara Z h172 b172 .char [(.int (0 : Int32)), (.int (0 : Int32))] := Ara.new A172 (by decide) rfl (fun _ q => nomatch q)
    refine Goes.step (fun t k => st172 t k) ?_
    show Goes _ _ _ _ _ _ _ (T172.setTop (mkF m 48 #[.val (.int p0), .val (.int p1), .val (.int p2), .val (.int x2_0), .val (.int x4_0), .val (.int (1 : Int32)), .val (.int (3 : Int32)), .unset, .unset, .unset, .unset, .unset, .unset, .unset, .unset, .unset] [(.ref b172)]))
    refine Goes.step (fun t k => XS.dup X172.here hx rfl (hb hby at_48) rfl rfl k) ?_
    show Goes _ _ _ _ _ _ _ (T172.setTop (mkF m 49 #[.val (.int p0), .val (.int p1), .val (.int p2), .val (.int x2_0), .val (.int x4_0), .val (.int (1 : Int32)), .val (.int (3 : Int32)), .unset, .unset, .unset, .unset, .unset, .unset, .unset, .unset, .unset] [(.ref b172), (.ref b172)]))
    refine Goes.step (fun t k => XS.iconst X172.here hx rfl (hb hby at_49) k) ?_
    show Goes _ _ _ _ _ _ _ (T172.setTop (mkF m 50 #[.val (.int p0), .val (.int p1), .val (.int p2), .val (.int x2_0), .val (.int x4_0), .val (.int (1 : Int32)), .val (.int (3 : Int32)), .unset, .unset, .unset, .unset, .unset, .unset, .unset, .unset, .unset] [(.int (0 : Int32)), (.ref b172), (.ref b172)]))
    refine Goes.step (fun t k => XS.iloadN X172.here hx rfl (hb hby at_50) rfl k) ?_
    show Goes _ _ _ _ _ _ _ (T172.setTop (mkF m 51 #[.val (.int p0), .val (.int p1), .val (.int p2), .val (.int x2_0), .val (.int x4_0), .val (.int (1 : Int32)), .val (.int (3 : Int32)), .unset, .unset, .unset, .unset, .unset, .unset, .unset, .unset, .unset] [(.int p1), (.int (0 : Int32)), (.ref b172), (.ref b172)]))
    refine Goes.step (fun t k => XS.sipush X172.here hx rfl (hb hby at_51) k) ?_
    show Goes _ _ _ _ _ _ _ (T172.setTop (mkF m 54 #[.val (.int p0), .val (.int p1), .val (.int p2), .val (.int x2_0), .val (.int x4_0), .val (.int (1 : Int32)), .val (.int (3 : Int32)), .unset, .unset, .unset, .unset, .unset, .unset, .unset, .unset, .unset] [(.int (255 : Int32)), (.int p1), (.int (0 : Int32)), (.ref b172), (.ref b172)]))
    refine Goes.step (fun t k => XS.iand X172.here hx rfl (hb hby at_54) rfl k) ?_
    show Goes _ _ _ _ _ _ _ (T172.setTop (mkF m 55 #[.val (.int p0), .val (.int p1), .val (.int p2), .val (.int x2_0), .val (.int x4_0), .val (.int (1 : Int32)), .val (.int (3 : Int32)), .unset, .unset, .unset, .unset, .unset, .unset, .unset, .unset, .unset] [(.int (p1 &&& (255 : Int32))), (.int (0 : Int32)), (.ref b172), (.ref b172)]))
    refine Goes.step (fun t k => XS.i2c X172.here hx rfl (hb hby at_55) rfl k) ?_
    show Goes _ _ _ _ _ _ _ (T172.setTop (mkF m 56 #[.val (.int p0), .val (.int p1), .val (.int p2), .val (.int x2_0), .val (.int x4_0), .val (.int (1 : Int32)), .val (.int (3 : Int32)), .unset, .unset, .unset, .unset, .unset, .unset, .unset, .unset, .unset] [(.int ((p1 &&& (255 : Int32)).toUInt32.toUInt16.toUInt32.toInt32)), (.int (0 : Int32)), (.ref b172), (.ref b172)]))
    obtain ⟨cl174, Ar174, q174, ll174, ff174, oo174⟩ := id V172
    have hn174 : ¬ (0 : Int32) < 0 := by decide
    have hl174 : ((0 : Int32)).toNatClampNeg < ([(.int (0 : Int32)), (.int (0 : Int32))] : List Value).length := by exact Nat.le_of_ble_eq_true rfl
    obtain ⟨T174, h174, X174, e174, W174, st174⟩ := stC X172 hx hZ e172 Ar174 (j := (0 : Int32)) (inb q174 hn174 hl174) (g := (mkF m 56 #[.val (.int p0), .val (.int p1), .val (.int p2), .val (.int x2_0), .val (.int x4_0), .val (.int (1 : Int32)), .val (.int (3 : Int32)), .unset, .unset, .unset, .unset, .unset, .unset, .unset, .unset, .unset] [(.int ((p1 &&& (255 : Int32)).toUInt32.toUInt16.toUInt32.toInt32)), (.int (0 : Int32)), (.ref b172), (.ref b172)])) rfl rfl (hb hby at_56)
    have V174 : Ara Z h174 b172 .char [(.int (nar .char ((p1 &&& (255 : Int32)).toUInt32.toUInt16.toUInt32.toInt32))), (.int (0 : Int32))] := Ara.same (j := (0 : Int32)) Ar174 q174 ll174 ff174 oo174 (fits_nar_char _) W174
    have F175 := F173.wr W174
    have K174 := K172.wr W174 (Or.inr Zh172)
    have N174 := Fr.snoc X174 N0 Zs172
    have Z174 := Nat.le_trans Z172 (Nat.le_of_eq W174.size.symm)
    refine Goes.step (fun t k => st174 t k) ?_
    show Goes _ _ _ _ _ _ _ (T174.setTop (mkF m 57 #[.val (.int p0), .val (.int p1), .val (.int p2), .val (.int x2_0), .val (.int x4_0), .val (.int (1 : Int32)), .val (.int (3 : Int32)), .unset, .unset, .unset, .unset, .unset, .unset, .unset, .unset, .unset] [(.ref b172)]))
    refine Goes.step (fun t k => XS.dup X174.here hx rfl (hb hby at_57) rfl rfl k) ?_
    show Goes _ _ _ _ _ _ _ (T174.setTop (mkF m 58 #[.val (.int p0), .val (.int p1), .val (.int p2), .val (.int x2_0), .val (.int x4_0), .val (.int (1 : Int32)), .val (.int (3 : Int32)), .unset, .unset, .unset, .unset, .unset, .unset, .unset, .unset, .unset] [(.ref b172), (.ref b172)]))
    refine Goes.step (fun t k => XS.iconst X174.here hx rfl (hb hby at_58) k) ?_
    show Goes _ _ _ _ _ _ _ (T174.setTop (mkF m 59 #[.val (.int p0), .val (.int p1), .val (.int p2), .val (.int x2_0), .val (.int x4_0), .val (.int (1 : Int32)), .val (.int (3 : Int32)), .unset, .unset, .unset, .unset, .unset, .unset, .unset, .unset, .unset] [(.int (1 : Int32)), (.ref b172), (.ref b172)]))
    refine Goes.step (fun t k => XS.iloadN X174.here hx rfl (hb hby at_59) rfl k) ?_
    show Goes _ _ _ _ _ _ _ (T174.setTop (mkF m 60 #[.val (.int p0), .val (.int p1), .val (.int p2), .val (.int x2_0), .val (.int x4_0), .val (.int (1 : Int32)), .val (.int (3 : Int32)), .unset, .unset, .unset, .unset, .unset, .unset, .unset, .unset, .unset] [(.int p1), (.int (1 : Int32)), (.ref b172), (.ref b172)]))
    refine Goes.step (fun t k => XS.bipush X174.here hx rfl (hb hby at_60) k) ?_
    show Goes _ _ _ _ _ _ _ (T174.setTop (mkF m 62 #[.val (.int p0), .val (.int p1), .val (.int p2), .val (.int x2_0), .val (.int x4_0), .val (.int (1 : Int32)), .val (.int (3 : Int32)), .unset, .unset, .unset, .unset, .unset, .unset, .unset, .unset, .unset] [(.int (8 : Int32)), (.int p1), (.int (1 : Int32)), (.ref b172), (.ref b172)]))
    refine Goes.step (fun t k => XS.iushr X174.here hx rfl (hb hby at_62) rfl k) ?_
    show Goes _ _ _ _ _ _ _ (T174.setTop (mkF m 63 #[.val (.int p0), .val (.int p1), .val (.int p2), .val (.int x2_0), .val (.int x4_0), .val (.int (1 : Int32)), .val (.int (3 : Int32)), .unset, .unset, .unset, .unset, .unset, .unset, .unset, .unset, .unset] [(.int ((p1.toUInt32 >>> ((8 : Int32) &&& 31).toUInt32).toInt32)), (.int (1 : Int32)), (.ref b172), (.ref b172)]))
    refine Goes.step (fun t k => XS.sipush X174.here hx rfl (hb hby at_63) k) ?_
    show Goes _ _ _ _ _ _ _ (T174.setTop (mkF m 66 #[.val (.int p0), .val (.int p1), .val (.int p2), .val (.int x2_0), .val (.int x4_0), .val (.int (1 : Int32)), .val (.int (3 : Int32)), .unset, .unset, .unset, .unset, .unset, .unset, .unset, .unset, .unset] [(.int (255 : Int32)), (.int ((p1.toUInt32 >>> ((8 : Int32) &&& 31).toUInt32).toInt32)), (.int (1 : Int32)), (.ref b172), (.ref b172)]))
    refine Goes.step (fun t k => XS.iand X174.here hx rfl (hb hby at_66) rfl k) ?_
    show Goes _ _ _ _ _ _ _ (T174.setTop (mkF m 67 #[.val (.int p0), .val (.int p1), .val (.int p2), .val (.int x2_0), .val (.int x4_0), .val (.int (1 : Int32)), .val (.int (3 : Int32)), .unset, .unset, .unset, .unset, .unset, .unset, .unset, .unset, .unset] [(.int (((p1.toUInt32 >>> ((8 : Int32) &&& 31).toUInt32).toInt32) &&& (255 : Int32))), (.int (1 : Int32)), (.ref b172), (.ref b172)]))
    refine Goes.step (fun t k => XS.i2c X174.here hx rfl (hb hby at_67) rfl k) ?_
    show Goes _ _ _ _ _ _ _ (T174.setTop (mkF m 68 #[.val (.int p0), .val (.int p1), .val (.int p2), .val (.int x2_0), .val (.int x4_0), .val (.int (1 : Int32)), .val (.int (3 : Int32)), .unset, .unset, .unset, .unset, .unset, .unset, .unset, .unset, .unset] [(.int ((((p1.toUInt32 >>> ((8 : Int32) &&& 31).toUInt32).toInt32) &&& (255 : Int32)).toUInt32.toUInt16.toUInt32.toInt32)), (.int (1 : Int32)), (.ref b172), (.ref b172)]))
    obtain ⟨cl176, Ar176, q176, ll176, ff176, oo176⟩ := id V174
    have hn176 : ¬ (1 : Int32) < 0 := by decide
    have hl176 : ((1 : Int32)).toNatClampNeg < ([(.int (nar .char ((p1 &&& (255 : Int32)).toUInt32.toUInt16.toUInt32.toInt32))), (.int (0 : Int32))] : List Value).length := by exact Nat.le_of_ble_eq_true rfl
    obtain ⟨T176, h176, X176, e176, W176, st176⟩ := stC X174 hx hZ e174 Ar176 (j := (1 : Int32)) (inb q176 hn176 hl176) (g := (mkF m 68 #[.val (.int p0), .val (.int p1), .val (.int p2), .val (.int x2_0), .val (.int x4_0), .val (.int (1 : Int32)), .val (.int (3 : Int32)), .unset, .unset, .unset, .unset, .unset, .unset, .unset, .unset, .unset] [(.int ((((p1.toUInt32 >>> ((8 : Int32) &&& 31).toUInt32).toInt32) &&& (255 : Int32)).toUInt32.toUInt16.toUInt32.toInt32)), (.int (1 : Int32)), (.ref b172), (.ref b172)])) rfl rfl (hb hby at_68)
    have V176 : Ara Z h176 b172 .char [(.int (nar .char ((p1 &&& (255 : Int32)).toUInt32.toUInt16.toUInt32.toInt32))), (.int (nar .char ((((p1.toUInt32 >>> ((8 : Int32) &&& 31).toUInt32).toInt32) &&& (255 : Int32)).toUInt32.toUInt16.toUInt32.toInt32)))] := Ara.same (j := (1 : Int32)) Ar176 q176 ll176 ff176 oo176 (fits_nar_char _) W176
    have F177 := F175.wr W176
    have K176 := K174.wr W176 (Or.inr Zh172)
    have N176 := Fr.snoc X176 N174 Zs172
    have Z176 := Nat.le_trans Z174 (Nat.le_of_eq W176.size.symm)
    refine Goes.step (fun t k => st176 t k) ?_
    show Goes _ _ _ _ _ _ _ (T176.setTop (mkF m 69 #[.val (.int p0), .val (.int p1), .val (.int p2), .val (.int x2_0), .val (.int x4_0), .val (.int (1 : Int32)), .val (.int (3 : Int32)), .unset, .unset, .unset, .unset, .unset, .unset, .unset, .unset, .unset] [(.ref b172)]))
    refine Goes.step (fun t k => XS.astore X176.here hx rfl (hb hby at_69) rfl rfl (l' := #[.val (.int p0), .val (.int p1), .val (.int p2), .val (.int x2_0), .val (.int x4_0), .val (.int (1 : Int32)), .val (.int (3 : Int32)), .val (.ref b172), .unset, .unset, .unset, .unset, .unset, .unset, .unset, .unset]) rfl k) ?_
    show Goes _ _ _ _ _ _ _ (T176.setTop (mkF m 71 #[.val (.int p0), .val (.int p1), .val (.int p2), .val (.int x2_0), .val (.int x4_0), .val (.int (1 : Int32)), .val (.int (3 : Int32)), .val (.ref b172), .unset, .unset, .unset, .unset, .unset, .unset, .unset, .unset] []))
    refine Goes.step (fun t k => XS.iconst X176.here hx rfl (hb hby at_71) k) ?_
    show Goes _ _ _ _ _ _ _ (T176.setTop (mkF m 72 #[.val (.int p0), .val (.int p1), .val (.int p2), .val (.int x2_0), .val (.int x4_0), .val (.int (1 : Int32)), .val (.int (3 : Int32)), .val (.ref b172), .unset, .unset, .unset, .unset, .unset, .unset, .unset, .unset] [(.int (2 : Int32))]))
    obtain ⟨T178, h178, k178, X178, e178, E178, A178, st178⟩ := newP X176 hx hZ (hw _ (List.mem_of_getElem? (i := 0) rfl)) e176 (g := (mkF m 72 #[.val (.int p0), .val (.int p1), .val (.int p2), .val (.int x2_0), .val (.int x4_0), .val (.int (1 : Int32)), .val (.int (3 : Int32)), .val (.ref b172), .unset, .unset, .unset, .unset, .unset, .unset, .unset, .unset] [(.int (2 : Int32))])) rfl (hb hby at_72) rfl (by decide) (cap := 2) (by decide) (by decide) (by decide) (by decide)
    obtain ⟨b178, g178⟩ : ∃ z, z = h176.size := ⟨_, rfl⟩
    rw [← g178] at A178 st178
    have ne_b172_b178 : b172 ≠ b178 := Nat.ne_of_lt (Nat.lt_of_lt_of_le V176.lt (Nat.le_of_eq g178.symm))
    have Zs178 : n0 ≤ b178 := Nat.le_trans Z176 (Nat.le_of_eq g178.symm)
    have Zh178 : h0.size ≤ b178 := Nat.le_trans K176.1 (Nat.le_of_eq g178.symm)
    have F179 := F177.ext E178
    have F180 := V176.ext E178
    have K178 := K176.ext E178
    have Z178 := Nat.le_trans Z176 E178.1
    have V178 : Ara Z h178 b178 .char [(.int (0 : Int32)), (.int (0 : Int32))] := Ara.new A178 (by decide) rfl (fun _ q => nomatch q)
    refine Goes.step (fun t k => st178 t k) ?_
    show Goes _ _ _ _ _ _ _ (T178.setTop (mkF m 74 #[.val (.int p0), .val (.int p1), .val (.int p2), .val (.int x2_0), .val (.int x4_0), .val (.int (1 : Int32)), .val (.int (3 : Int32)), .val (.ref b172), .unset, .unset, .unset, .unset, .unset, .unset, .unset, .unset] [(.ref b178)]))
    refine Goes.step (fun t k => XS.dup X178.here hx rfl (hb hby at_74) rfl rfl k) ?_
    show Goes _ _ _ _ _ _ _ (T178.setTop (mkF m 75 #[.val (.int p0), .val (.int p1), .val (.int p2), .val (.int x2_0), .val (.int x4_0), .val (.int (1 : Int32)), .val (.int (3 : Int32)), .val (.ref b172), .unset, .unset, .unset, .unset, .unset, .unset, .unset, .unset] [(.ref b178), (.ref b178)]))
    refine Goes.step (fun t k => XS.iconst X178.here hx rfl (hb hby at_75) k) ?_
    show Goes _ _ _ _ _ _ _ (T178.setTop (mkF m 76 #[.val (.int p0), .val (.int p1), .val (.int p2), .val (.int x2_0), .val (.int x4_0), .val (.int (1 : Int32)), .val (.int (3 : Int32)), .val (.ref b172), .unset, .unset, .unset, .unset, .unset, .unset, .unset, .unset] [(.int (0 : Int32)), (.ref b178), (.ref b178)]))
    refine Goes.step (fun t k => XS.iloadN X178.here hx rfl (hb hby at_76) rfl k) ?_
    show Goes _ _ _ _ _ _ _ (T178.setTop (mkF m 77 #[.val (.int p0), .val (.int p1), .val (.int p2), .val (.int x2_0), .val (.int x4_0), .val (.int (1 : Int32)), .val (.int (3 : Int32)), .val (.ref b172), .unset, .unset, .unset, .unset, .unset, .unset, .unset, .unset] [(.int p2), (.int (0 : Int32)), (.ref b178), (.ref b178)]))
    refine Goes.step (fun t k => XS.sipush X178.here hx rfl (hb hby at_77) k) ?_
    show Goes _ _ _ _ _ _ _ (T178.setTop (mkF m 80 #[.val (.int p0), .val (.int p1), .val (.int p2), .val (.int x2_0), .val (.int x4_0), .val (.int (1 : Int32)), .val (.int (3 : Int32)), .val (.ref b172), .unset, .unset, .unset, .unset, .unset, .unset, .unset, .unset] [(.int (255 : Int32)), (.int p2), (.int (0 : Int32)), (.ref b178), (.ref b178)]))
    refine Goes.step (fun t k => XS.iand X178.here hx rfl (hb hby at_80) rfl k) ?_
    show Goes _ _ _ _ _ _ _ (T178.setTop (mkF m 81 #[.val (.int p0), .val (.int p1), .val (.int p2), .val (.int x2_0), .val (.int x4_0), .val (.int (1 : Int32)), .val (.int (3 : Int32)), .val (.ref b172), .unset, .unset, .unset, .unset, .unset, .unset, .unset, .unset] [(.int (p2 &&& (255 : Int32))), (.int (0 : Int32)), (.ref b178), (.ref b178)]))
    refine Goes.step (fun t k => XS.i2c X178.here hx rfl (hb hby at_81) rfl k) ?_
    show Goes _ _ _ _ _ _ _ (T178.setTop (mkF m 82 #[.val (.int p0), .val (.int p1), .val (.int p2), .val (.int x2_0), .val (.int x4_0), .val (.int (1 : Int32)), .val (.int (3 : Int32)), .val (.ref b172), .unset, .unset, .unset, .unset, .unset, .unset, .unset, .unset] [(.int ((p2 &&& (255 : Int32)).toUInt32.toUInt16.toUInt32.toInt32)), (.int (0 : Int32)), (.ref b178), (.ref b178)]))
    obtain ⟨cl181, Ar181, q181, ll181, ff181, oo181⟩ := id V178
    have hn181 : ¬ (0 : Int32) < 0 := by decide
    have hl181 : ((0 : Int32)).toNatClampNeg < ([(.int (0 : Int32)), (.int (0 : Int32))] : List Value).length := by exact Nat.le_of_ble_eq_true rfl
    obtain ⟨T181, h181, X181, e181, W181, st181⟩ := stC X178 hx hZ e178 Ar181 (j := (0 : Int32)) (inb q181 hn181 hl181) (g := (mkF m 82 #[.val (.int p0), .val (.int p1), .val (.int p2), .val (.int x2_0), .val (.int x4_0), .val (.int (1 : Int32)), .val (.int (3 : Int32)), .val (.ref b172), .unset, .unset, .unset, .unset, .unset, .unset, .unset, .unset] [(.int ((p2 &&& (255 : Int32)).toUInt32.toUInt16.toUInt32.toInt32)), (.int (0 : Int32)), (.ref b178), (.ref b178)])) rfl rfl (hb hby at_82)
    have V181 : Ara Z h181 b178 .char [(.int (nar .char ((p2 &&& (255 : Int32)).toUInt32.toUInt16.toUInt32.toInt32))), (.int (0 : Int32))] := Ara.same (j := (0 : Int32)) Ar181 q181 ll181 ff181 oo181 (fits_nar_char _) W181
    have F182 := F179.wr W181
    have F183 := F180.other W181 ne_b172_b178
    have K181 := K178.wr W181 (Or.inr Zh178)
    have N181 := Fr.snoc X181 N176 Zs178
    have Z181 := Nat.le_trans Z178 (Nat.le_of_eq W181.size.symm)
    refine Goes.step (fun t k => st181 t k) ?_
    show Goes _ _ _ _ _ _ _ (T181.setTop (mkF m 83 #[.val (.int p0), .val (.int p1), .val (.int p2), .val (.int x2_0), .val (.int x4_0), .val (.int (1 : Int32)), .val (.int (3 : Int32)), .val (.ref b172), .unset, .unset, .unset, .unset, .unset, .unset, .unset, .unset] [(.ref b178)]))
    refine Goes.step (fun t k => XS.dup X181.here hx rfl (hb hby at_83) rfl rfl k) ?_
    show Goes _ _ _ _ _ _ _ (T181.setTop (mkF m 84 #[.val (.int p0), .val (.int p1), .val (.int p2), .val (.int x2_0), .val (.int x4_0), .val (.int (1 : Int32)), .val (.int (3 : Int32)), .val (.ref b172), .unset, .unset, .unset, .unset, .unset, .unset, .unset, .unset] [(.ref b178), (.ref b178)]))
    refine Goes.step (fun t k => XS.iconst X181.here hx rfl (hb hby at_84) k) ?_
    show Goes _ _ _ _ _ _ _ (T181.setTop (mkF m 85 #[.val (.int p0), .val (.int p1), .val (.int p2), .val (.int x2_0), .val (.int x4_0), .val (.int (1 : Int32)), .val (.int (3 : Int32)), .val (.ref b172), .unset, .unset, .unset, .unset, .unset, .unset, .unset, .unset] [(.int (1 : Int32)), (.ref b178), (.ref b178)]))
    refine Goes.step (fun t k => XS.iloadN X181.here hx rfl (hb hby at_85) rfl k) ?_
    show Goes _ _ _ _ _ _ _ (T181.setTop (mkF m 86 #[.val (.int p0), .val (.int p1), .val (.int p2), .val (.int x2_0), .val (.int x4_0), .val (.int (1 : Int32)), .val (.int (3 : Int32)), .val (.ref b172), .unset, .unset, .unset, .unset, .unset, .unset, .unset, .unset] [(.int p2), (.int (1 : Int32)), (.ref b178), (.ref b178)]))
    refine Goes.step (fun t k => XS.bipush X181.here hx rfl (hb hby at_86) k) ?_
    show Goes _ _ _ _ _ _ _ (T181.setTop (mkF m 88 #[.val (.int p0), .val (.int p1), .val (.int p2), .val (.int x2_0), .val (.int x4_0), .val (.int (1 : Int32)), .val (.int (3 : Int32)), .val (.ref b172), .unset, .unset, .unset, .unset, .unset, .unset, .unset, .unset] [(.int (8 : Int32)), (.int p2), (.int (1 : Int32)), (.ref b178), (.ref b178)]))
    refine Goes.step (fun t k => XS.iushr X181.here hx rfl (hb hby at_88) rfl k) ?_
    show Goes _ _ _ _ _ _ _ (T181.setTop (mkF m 89 #[.val (.int p0), .val (.int p1), .val (.int p2), .val (.int x2_0), .val (.int x4_0), .val (.int (1 : Int32)), .val (.int (3 : Int32)), .val (.ref b172), .unset, .unset, .unset, .unset, .unset, .unset, .unset, .unset] [(.int ((p2.toUInt32 >>> ((8 : Int32) &&& 31).toUInt32).toInt32)), (.int (1 : Int32)), (.ref b178), (.ref b178)]))
    refine Goes.step (fun t k => XS.sipush X181.here hx rfl (hb hby at_89) k) ?_
    show Goes _ _ _ _ _ _ _ (T181.setTop (mkF m 92 #[.val (.int p0), .val (.int p1), .val (.int p2), .val (.int x2_0), .val (.int x4_0), .val (.int (1 : Int32)), .val (.int (3 : Int32)), .val (.ref b172), .unset, .unset, .unset, .unset, .unset, .unset, .unset, .unset] [(.int (255 : Int32)), (.int ((p2.toUInt32 >>> ((8 : Int32) &&& 31).toUInt32).toInt32)), (.int (1 : Int32)), (.ref b178), (.ref b178)]))
    refine Goes.step (fun t k => XS.iand X181.here hx rfl (hb hby at_92) rfl k) ?_
    show Goes _ _ _ _ _ _ _ (T181.setTop (mkF m 93 #[.val (.int p0), .val (.int p1), .val (.int p2), .val (.int x2_0), .val (.int x4_0), .val (.int (1 : Int32)), .val (.int (3 : Int32)), .val (.ref b172), .unset, .unset, .unset, .unset, .unset, .unset, .unset, .unset] [(.int (((p2.toUInt32 >>> ((8 : Int32) &&& 31).toUInt32).toInt32) &&& (255 : Int32))), (.int (1 : Int32)), (.ref b178), (.ref b178)]))
    refine Goes.step (fun t k => XS.i2c X181.here hx rfl (hb hby at_93) rfl k) ?_
    show Goes _ _ _ _ _ _ _ (T181.setTop (mkF m 94 #[.val (.int p0), .val (.int p1), .val (.int p2), .val (.int x2_0), .val (.int x4_0), .val (.int (1 : Int32)), .val (.int (3 : Int32)), .val (.ref b172), .unset, .unset, .unset, .unset, .unset, .unset, .unset, .unset] [(.int ((((p2.toUInt32 >>> ((8 : Int32) &&& 31).toUInt32).toInt32) &&& (255 : Int32)).toUInt32.toUInt16.toUInt32.toInt32)), (.int (1 : Int32)), (.ref b178), (.ref b178)]))
    obtain ⟨cl184, Ar184, q184, ll184, ff184, oo184⟩ := id V181
    have hn184 : ¬ (1 : Int32) < 0 := by decide
    have hl184 : ((1 : Int32)).toNatClampNeg < ([(.int (nar .char ((p2 &&& (255 : Int32)).toUInt32.toUInt16.toUInt32.toInt32))), (.int (0 : Int32))] : List Value).length := by exact Nat.le_of_ble_eq_true rfl
    obtain ⟨T184, h184, X184, e184, W184, st184⟩ := stC X181 hx hZ e181 Ar184 (j := (1 : Int32)) (inb q184 hn184 hl184) (g := (mkF m 94 #[.val (.int p0), .val (.int p1), .val (.int p2), .val (.int x2_0), .val (.int x4_0), .val (.int (1 : Int32)), .val (.int (3 : Int32)), .val (.ref b172), .unset, .unset, .unset, .unset, .unset, .unset, .unset, .unset] [(.int ((((p2.toUInt32 >>> ((8 : Int32) &&& 31).toUInt32).toInt32) &&& (255 : Int32)).toUInt32.toUInt16.toUInt32.toInt32)), (.int (1 : Int32)), (.ref b178), (.ref b178)])) rfl rfl (hb hby at_94)
    have V184 : Ara Z h184 b178 .char [(.int (nar .char ((p2 &&& (255 : Int32)).toUInt32.toUInt16.toUInt32.toInt32))), (.int (nar .char ((((p2.toUInt32 >>> ((8 : Int32) &&& 31).toUInt32).toInt32) &&& (255 : Int32)).toUInt32.toUInt16.toUInt32.toInt32)))] := Ara.same (j := (1 : Int32)) Ar184 q184 ll184 ff184 oo184 (fits_nar_char _) W184
    have F185 := F182.wr W184
    have F186 := F183.other W184 ne_b172_b178
    have K184 := K181.wr W184 (Or.inr Zh178)
    have N184 := Fr.snoc X184 N181 Zs178
    have Z184 := Nat.le_trans Z181 (Nat.le_of_eq W184.size.symm)
    refine Goes.step (fun t k => st184 t k) ?_
    show Goes _ _ _ _ _ _ _ (T184.setTop (mkF m 95 #[.val (.int p0), .val (.int p1), .val (.int p2), .val (.int x2_0), .val (.int x4_0), .val (.int (1 : Int32)), .val (.int (3 : Int32)), .val (.ref b172), .unset, .unset, .unset, .unset, .unset, .unset, .unset, .unset] [(.ref b178)]))
    refine Goes.step (fun t k => XS.astore X184.here hx rfl (hb hby at_95) rfl rfl (l' := #[.val (.int p0), .val (.int p1), .val (.int p2), .val (.int x2_0), .val (.int x4_0), .val (.int (1 : Int32)), .val (.int (3 : Int32)), .val (.ref b172), .val (.ref b178), .unset, .unset, .unset, .unset, .unset, .unset, .unset]) rfl k) ?_
    show Goes _ _ _ _ _ _ _ (T184.setTop (mkF m 97 #[.val (.int p0), .val (.int p1), .val (.int p2), .val (.int x2_0), .val (.int x4_0), .val (.int (1 : Int32)), .val (.int (3 : Int32)), .val (.ref b172), .val (.ref b178), .unset, .unset, .unset, .unset, .unset, .unset, .unset] []))
    obtain ⟨T187, h187, X187, e187, E187, A187, D187, -, st187⟩ := newO X184 hx hZ hown (hw _ (List.mem_of_getElem? (i := 1) rfl)) (hw _ (List.mem_of_getElem? (i := 2) rfl)) (hw _ (List.mem_of_getElem? (i := 3) rfl)) e184 (g := (mkF m 97 #[.val (.int p0), .val (.int p1), .val (.int p2), .val (.int x2_0), .val (.int x4_0), .val (.int (1 : Int32)), .val (.int (3 : Int32)), .val (.ref b172), .val (.ref b178), .unset, .unset, .unset, .unset, .unset, .unset, .unset] [])) rfl (hb hby at_97) (by decide) (by decide)
    obtain ⟨b187, g187⟩ : ∃ z, z = h184.size := ⟨_, rfl⟩
    rw [← g187] at A187 D187 st187
    have ne_b172_b187 : b172 ≠ b187 := Nat.ne_of_lt (Nat.lt_of_lt_of_le F186.lt (Nat.le_of_eq g187.symm))
    have ne_b178_b187 : b178 ≠ b187 := Nat.ne_of_lt (Nat.lt_of_lt_of_le V184.lt (Nat.le_of_eq g187.symm))
    have Zs187 : n0 ≤ b187 := Nat.le_trans Z184 (Nat.le_of_eq g187.symm)
    have Zh187 : h0.size ≤ b187 := Nat.le_trans K184.1 (Nat.le_of_eq g187.symm)
    have F188 := F185.ext E187
    have F189 := F186.ext E187
    have F190 := V184.ext E187
    have K187 := K184.ext E187
    have Z187 := Nat.le_trans Z184 E187.1
    have F191 : Fld Z h187 b187 "java/lang/String" "coder" "B" (.int (0 : Int32)) := D187 (Or.inr (hw _ (List.mem_of_getElem? (i := 27) rfl))) (ty := .byte) (by decide)
    have F192 : Fld Z h187 b187 "java/lang/String" "value" "[B" .null := D187 (Or.inr (hw _ (List.mem_of_getElem? (i := 29) rfl))) (ty := (.array .byte)) (by decide)
    refine Goes.step (fun t k => st187 t k) ?_
    show Goes _ _ _ _ _ _ _ (T187.setTop (mkF m 100 #[.val (.int p0), .val (.int p1), .val (.int p2), .val (.int x2_0), .val (.int x4_0), .val (.int (1 : Int32)), .val (.int (3 : Int32)), .val (.ref b172), .val (.ref b178), .unset, .unset, .unset, .unset, .unset, .unset, .unset] [(.ref b187)]))
    refine Goes.step (fun t k => XS.dup X187.here hx rfl (hb hby at_100) rfl rfl k) ?_
    show Goes _ _ _ _ _ _ _ (T187.setTop (mkF m 101 #[.val (.int p0), .val (.int p1), .val (.int p2), .val (.int x2_0), .val (.int x4_0), .val (.int (1 : Int32)), .val (.int (3 : Int32)), .val (.ref b172), .val (.ref b178), .unset, .unset, .unset, .unset, .unset, .unset, .unset] [(.ref b187), (.ref b187)]))
    refine Goes.step (fun t k => XS.aload X187.here hx rfl (hb hby at_101) rfl rfl k) ?_
    show Goes _ _ _ _ _ _ _ (T187.setTop (mkF m 103 #[.val (.int p0), .val (.int p1), .val (.int p2), .val (.int x2_0), .val (.int x4_0), .val (.int (1 : Int32)), .val (.int (3 : Int32)), .val (.ref b172), .val (.ref b178), .unset, .unset, .unset, .unset, .unset, .unset, .unset] [(.ref b172), (.ref b187), (.ref b187)]))
    obtain ⟨kc193, Kc193⟩ := own_arv (N := (2 : Int32)) (.int (0 : Int32)) F189 (by decide) rfl
    have hlat193 : ∀ c ∈ [(nar .char ((p1 &&& (255 : Int32)).toUInt32.toUInt16.toUInt32.toInt32)), (nar .char ((((p1.toUInt32 >>> ((8 : Int32) &&& 31).toUInt32).toInt32) &&& (255 : Int32)).toUInt32.toUInt16.toUInt32.toInt32))], ¬ c < 0 ∧ ¬ (255 : Int32) < c := by
      intro c hc
      simp only [List.mem_cons, List.not_mem_nil, or_false] at hc
      rcases hc with rfl | rfl <;> exact own_lat _
    obtain ⟨_, _, ⟨T193, L193, k193, n193⟩, -, X193, ⟨Lc193, hQ193, l193, y193, z193⟩, st193⟩ := X187.specialBack hx (y := (⟨"java/lang/String", "<init>", "([C)V"⟩ : MethodName)) rfl hown (mvT hZ (hw _ (List.mem_of_getElem? (i := 4) rfl))) (mvT hZ (hw _ (List.mem_of_getElem? (i := 5) rfl))) (mvT hZ (hw _ (List.mem_of_getElem? (i := 6) rfl))) (by decide) (StrChars.Road.backV (W := 1) hZ hws (kI := 4) (hw _ (List.mem_of_getElem? (i := 2) rfl)) (cs := [(nar .char ((p1 &&& (255 : Int32)).toUInt32.toUInt16.toUInt32.toInt32)), (nar .char ((((p1.toUInt32 >>> ((8 : Int32) &&& 31).toUInt32).toInt32) &&& (255 : Int32)).toUInt32.toUInt16.toUInt32.toInt32))]) (bs := [((nar .char ((p1 &&& (255 : Int32)).toUInt32.toUInt16.toUInt32.toInt32))).toInt8.toInt32, ((nar .char ((((p1.toUInt32 >>> ((8 : Int32) &&& 31).toUInt32).toInt32) &&& (255 : Int32)).toUInt32.toUInt16.toUInt32.toInt32))).toInt8.toInt32]) (n := 2) (n0 := n0) Zs187 Z187 A187 F192 F191 Kc193 F188 P3 rfl rfl (by decide) (by decide) hlat193 rfl (by decide) (by decide)) (g := (mkF m 103 #[.val (.int p0), .val (.int p1), .val (.int p2), .val (.int x2_0), .val (.int x4_0), .val (.int (1 : Int32)), .val (.int (3 : Int32)), .val (.ref b172), .val (.ref b178), .unset, .unset, .unset, .unset, .unset, .unset, .unset] [(.ref b172), (.ref b187), (.ref b187)])) rfl (by rw [hml]; rfl) (Steps.refl _) (a := b187) (argsL := [(.ref b172)]) (rest := [(.ref b187)]) (lenOf own_pd0 rfl) rfl (by show 2 * 0 + _ ≤ _; exact Nat.le_of_eq rfl) (hb hby at_103) (fun _ _ => ⟨rfl, e187, (by decide : 3 + 1 ≤ _), (by decide : 8 + 2 ≤ _)⟩)
    dsimp only [Pt.U, Pt.locs, Pt.cells, Pt.slots] at X193 l193 y193 z193 st193 hQ193
    rw [l193, y193, z193] at X193
    replace hQ193 := own_qv hQ193
    generalize e193 : T193.heap = h193 at hQ193
    obtain ⟨rfl, Nq193, Kq193, G193_0⟩ := hQ193
    have F194 := own_sta_keep F188 Kq193 (allS (notsta_exa A187) all0)
    have F195 := F189.keep Kq193 (ninS ne_b172_b187 nin0)
    have F196 := F190.keep Kq193 (ninS ne_b178_b187 nin0)
    have N193 := Fr.app N184 Nq193
    have K193 := K187.trans Kq193 (allS (Or.inr Zh187) all0)
    have Z193 := Nat.le_trans Z187 Kq193.1
    change Stand _ _ _ _ _ _ _ _ _ _ _ _ 4 10 at X193
    refine Goes.step (fun t k => st193.trans k) ?_
    show Goes _ _ _ _ _ _ _ (T193.setTop (mkF m 106 #[.val (.int p0), .val (.int p1), .val (.int p2), .val (.int x2_0), .val (.int x4_0), .val (.int (1 : Int32)), .val (.int (3 : Int32)), .val (.ref b172), .val (.ref b178), .unset, .unset, .unset, .unset, .unset, .unset, .unset] [(.ref b187)]))
    refine Goes.step (fun t k => XS.astore X193.here hx rfl (hb hby at_106) rfl rfl (l' := #[.val (.int p0), .val (.int p1), .val (.int p2), .val (.int x2_0), .val (.int x4_0), .val (.int (1 : Int32)), .val (.int (3 : Int32)), .val (.ref b172), .val (.ref b178), .val (.ref b187), .unset, .unset, .unset, .unset, .unset, .unset]) rfl k) ?_
    show Goes _ _ _ _ _ _ _ (T193.setTop (mkF m 108 #[.val (.int p0), .val (.int p1), .val (.int p2), .val (.int x2_0), .val (.int x4_0), .val (.int (1 : Int32)), .val (.int (3 : Int32)), .val (.ref b172), .val (.ref b178), .val (.ref b187), .unset, .unset, .unset, .unset, .unset, .unset] []))
    refine Goes.step (fun t k => XS.iload X193.here hx rfl (hb hby at_108) rfl k) ?_
    show Goes _ _ _ _ _ _ _ (T193.setTop (mkF m 110 #[.val (.int p0), .val (.int p1), .val (.int p2), .val (.int x2_0), .val (.int x4_0), .val (.int (1 : Int32)), .val (.int (3 : Int32)), .val (.ref b172), .val (.ref b178), .val (.ref b187), .unset, .unset, .unset, .unset, .unset, .unset] [(.int (1 : Int32))]))
    refine Goes.step (fun t k => XS.ifNo X193.here hx rfl (hb hby at_110) rfl ((if0 _ _).trans (feq (by decide)).1) k) ?_
    show Goes _ _ _ _ _ _ _ (T193.setTop (mkF m 113 #[.val (.int p0), .val (.int p1), .val (.int p2), .val (.int x2_0), .val (.int x4_0), .val (.int (1 : Int32)), .val (.int (3 : Int32)), .val (.ref b172), .val (.ref b178), .val (.ref b187), .unset, .unset, .unset, .unset, .unset, .unset] []))
    refine Goes.step (fun t k => XS.aload X193.here hx rfl (hb hby at_113) rfl rfl k) ?_
    show Goes _ _ _ _ _ _ _ (T193.setTop (mkF m 115 #[.val (.int p0), .val (.int p1), .val (.int p2), .val (.int x2_0), .val (.int x4_0), .val (.int (1 : Int32)), .val (.int (3 : Int32)), .val (.ref b172), .val (.ref b178), .val (.ref b187), .unset, .unset, .unset, .unset, .unset, .unset] [(.ref b187)]))
    refine Goes.step (fun t k => XS.goto X193.here hx rfl (pc0 := 115) (pc' := 127) rfl (hb hby at_115) (by decide) (by decide) k) ?_
    show Goes _ _ _ _ _ _ _ (T193.setTop (mkF m 127 #[.val (.int p0), .val (.int p1), .val (.int p2), .val (.int x2_0), .val (.int x4_0), .val (.int (1 : Int32)), .val (.int (3 : Int32)), .val (.ref b172), .val (.ref b178), .val (.ref b187), .unset, .unset, .unset, .unset, .unset, .unset] [(.ref b187)]))
    refine Goes.step (fun t k => XS.astore X193.here hx rfl (hb hby at_127) rfl rfl (l' := #[.val (.int p0), .val (.int p1), .val (.int p2), .val (.int x2_0), .val (.int x4_0), .val (.int (1 : Int32)), .val (.int (3 : Int32)), .val (.ref b172), .val (.ref b178), .val (.ref b187), .val (.ref b187), .unset, .unset, .unset, .unset, .unset]) rfl k) ?_
    show Goes _ _ _ _ _ _ _ (T193.setTop (mkF m 129 #[.val (.int p0), .val (.int p1), .val (.int p2), .val (.int x2_0), .val (.int x4_0), .val (.int (1 : Int32)), .val (.int (3 : Int32)), .val (.ref b172), .val (.ref b178), .val (.ref b187), .val (.ref b187), .unset, .unset, .unset, .unset, .unset] []))
    obtain ⟨T198, h198, X198, e198, E198, A198, D198, -, st198⟩ := newO X193 hx hZ hown (hw _ (List.mem_of_getElem? (i := 30) rfl)) (hw _ (List.mem_of_getElem? (i := 31) rfl)) (hw _ (List.mem_of_getElem? (i := 32) rfl)) e193 (g := (mkF m 129 #[.val (.int p0), .val (.int p1), .val (.int p2), .val (.int x2_0), .val (.int x4_0), .val (.int (1 : Int32)), .val (.int (3 : Int32)), .val (.ref b172), .val (.ref b178), .val (.ref b187), .val (.ref b187), .unset, .unset, .unset, .unset, .unset] [])) rfl (hb hby at_129) (by decide) (by decide)
    obtain ⟨b198, g198⟩ : ∃ z, z = h193.size := ⟨_, rfl⟩
    rw [← g198] at A198 D198 st198
    have ne_b172_b198 : b172 ≠ b198 := Nat.ne_of_lt (Nat.lt_of_lt_of_le F195.lt (Nat.le_of_eq g198.symm))
    have ne_b178_b198 : b178 ≠ b198 := Nat.ne_of_lt (Nat.lt_of_lt_of_le F196.lt (Nat.le_of_eq g198.symm))
    have ne_b187_b198 : b187 ≠ b198 := Nat.ne_of_lt (Nat.lt_of_lt_of_le G193_0.lt (Nat.le_of_eq g198.symm))
    have Zs198 : n0 ≤ b198 := Nat.le_trans Z193 (Nat.le_of_eq g198.symm)
    have Zh198 : h0.size ≤ b198 := Nat.le_trans K193.1 (Nat.le_of_eq g198.symm)
    have F199 := F194.ext E198
    have F200 := F195.ext E198
    have F201 := F196.ext E198
    have F202 := G193_0.ext E198
    have K198 := K193.ext E198
    have Z198 := Nat.le_trans Z193 E198.1
    have F203 : Fld Z h198 b198 "com/example/vigilant_schema/vigilantschema/Node$BooleanNode" "value" "Z" (.int (0 : Int32)) := D198 (Or.inr (hw _ (List.mem_of_getElem? (i := 38) rfl))) (ty := .boolean) (by decide)
    have F204 : Fld Z h198 b198 "com/example/vigilant_schema/vigilantschema/Node$BooleanNode" "written" "Ljava/lang/String;" .null := D198 (Or.inr (hw _ (List.mem_of_getElem? (i := 40) rfl))) (ty := (.object "java/lang/String")) (by decide)
    refine Goes.step (fun t k => st198 t k) ?_
    show Goes _ _ _ _ _ _ _ (T198.setTop (mkF m 132 #[.val (.int p0), .val (.int p1), .val (.int p2), .val (.int x2_0), .val (.int x4_0), .val (.int (1 : Int32)), .val (.int (3 : Int32)), .val (.ref b172), .val (.ref b178), .val (.ref b187), .val (.ref b187), .unset, .unset, .unset, .unset, .unset] [(.ref b198)]))
    refine Goes.step (fun t k => XS.dup X198.here hx rfl (hb hby at_132) rfl rfl k) ?_
    show Goes _ _ _ _ _ _ _ (T198.setTop (mkF m 133 #[.val (.int p0), .val (.int p1), .val (.int p2), .val (.int x2_0), .val (.int x4_0), .val (.int (1 : Int32)), .val (.int (3 : Int32)), .val (.ref b172), .val (.ref b178), .val (.ref b187), .val (.ref b187), .unset, .unset, .unset, .unset, .unset] [(.ref b198), (.ref b198)]))
    refine Goes.step (fun t k => XS.iloadN X198.here hx rfl (hb hby at_133) rfl k) ?_
    show Goes _ _ _ _ _ _ _ (T198.setTop (mkF m 134 #[.val (.int p0), .val (.int p1), .val (.int p2), .val (.int x2_0), .val (.int x4_0), .val (.int (1 : Int32)), .val (.int (3 : Int32)), .val (.ref b172), .val (.ref b178), .val (.ref b187), .val (.ref b187), .unset, .unset, .unset, .unset, .unset] [(.int x2_0), (.ref b198), (.ref b198)]))
    refine Goes.step (fun t k => XS.aload X198.here hx rfl (hb hby at_134) rfl rfl k) ?_
    show Goes _ _ _ _ _ _ _ (T198.setTop (mkF m 136 #[.val (.int p0), .val (.int p1), .val (.int p2), .val (.int x2_0), .val (.int x4_0), .val (.int (1 : Int32)), .val (.int (3 : Int32)), .val (.ref b172), .val (.ref b178), .val (.ref b187), .val (.ref b187), .unset, .unset, .unset, .unset, .unset] [(.ref b187), (.int x2_0), (.ref b198), (.ref b198)]))
    obtain ⟨_, _, ⟨T205, L205, k205, n205⟩, -, X205, ⟨Lc205, hQ205, l205, y205, z205⟩, st205⟩ := X198.specialBack hx (y := (⟨"com/example/vigilant_schema/vigilantschema/Node$BooleanNode", "<init>", "(ZLjava/lang/String;)V"⟩ : MethodName)) rfl hown (mvT hZ (hw _ (List.mem_of_getElem? (i := 33) rfl))) (mvT hZ (hw _ (List.mem_of_getElem? (i := 34) rfl))) (mvT hZ (hw _ (List.mem_of_getElem? (i := 35) rfl))) (by decide) (backOf (W := 1) (rm7 l Z tA hw [] b198 x2_0 b187 h198 n0 Z198 A198 F203 F204 Zs198) hZ (hw _ (List.mem_of_getElem? (i := 35) rfl)) (hw _ (List.mem_of_getElem? (i := 32) rfl)) (by decide) (by decide)) (g := (mkF m 136 #[.val (.int p0), .val (.int p1), .val (.int p2), .val (.int x2_0), .val (.int x4_0), .val (.int (1 : Int32)), .val (.int (3 : Int32)), .val (.ref b172), .val (.ref b178), .val (.ref b187), .val (.ref b187), .unset, .unset, .unset, .unset, .unset] [(.ref b187), (.int x2_0), (.ref b198), (.ref b198)])) rfl (by rw [hml]; rfl) (Steps.refl _) (a := b198) (argsL := [(.int x2_0), (.ref b187)]) (rest := [(.ref b198)]) (lenOf own_pd1 rfl) rfl (by show 2 * 0 + _ ≤ _; exact Nat.le_of_eq rfl) (hb hby at_136) (fun _ _ => ⟨rfl, e198, (by decide : 5 + 0 ≤ _), (by decide : 12 + 0 ≤ _)⟩)
    dsimp only [Pt.U, Pt.locs, Pt.cells, Pt.slots] at X205 l205 y205 z205 st205 hQ205
    rw [l205, y205, z205] at X205
    generalize e205 : T205.heap = h205 at hQ205
    obtain ⟨rfl, Nq205, Kq205, G205_0, G205_1, G205_2⟩ := hQ205
    have F206 := own_sta_keep F199 Kq205 (allS (notsta_exa A198) all0)
    have F207 := F200.keep Kq205 (ninS ne_b172_b198 nin0)
    have F208 := F201.keep Kq205 (ninS ne_b178_b198 nin0)
    have F209 := F202.keep Kq205
    have N205 := Fr.app N193 Nq205
    have K205 := K198.trans Kq205 (allS (Or.inr Zh198) all0)
    have Z205 := Nat.le_trans Z198 Kq205.1
    change Stand _ _ _ _ _ _ _ _ _ _ _ _ 5 12 at X205
    refine Goes.step (fun t k => st205.trans k) ?_
    show Goes _ _ _ _ _ _ _ (T205.setTop (mkF m 139 #[.val (.int p0), .val (.int p1), .val (.int p2), .val (.int x2_0), .val (.int x4_0), .val (.int (1 : Int32)), .val (.int (3 : Int32)), .val (.ref b172), .val (.ref b178), .val (.ref b187), .val (.ref b187), .unset, .unset, .unset, .unset, .unset] [(.ref b198)]))
    refine Goes.step (fun t k => XS.astore X205.here hx rfl (hb hby at_139) rfl rfl (l' := #[.val (.int p0), .val (.int p1), .val (.int p2), .val (.int x2_0), .val (.int x4_0), .val (.int (1 : Int32)), .val (.int (3 : Int32)), .val (.ref b172), .val (.ref b178), .val (.ref b187), .val (.ref b187), .val (.ref b198), .unset, .unset, .unset, .unset]) rfl k) ?_
    show Goes _ _ _ _ _ _ _ (T205.setTop (mkF m 141 #[.val (.int p0), .val (.int p1), .val (.int p2), .val (.int x2_0), .val (.int x4_0), .val (.int (1 : Int32)), .val (.int (3 : Int32)), .val (.ref b172), .val (.ref b178), .val (.ref b187), .val (.ref b187), .val (.ref b198), .unset, .unset, .unset, .unset] []))
    refine Goes.step (fun t k => XS.iconst X205.here hx rfl (hb hby at_141) k) ?_
    show Goes _ _ _ _ _ _ _ (T205.setTop (mkF m 142 #[.val (.int p0), .val (.int p1), .val (.int p2), .val (.int x2_0), .val (.int x4_0), .val (.int (1 : Int32)), .val (.int (3 : Int32)), .val (.ref b172), .val (.ref b178), .val (.ref b187), .val (.ref b187), .val (.ref b198), .unset, .unset, .unset, .unset] [(.int (1 : Int32))]))
    refine Goes.step (fun t k => XS.istore X205.here hx rfl (hb hby at_142) rfl (l' := #[.val (.int p0), .val (.int p1), .val (.int p2), .val (.int x2_0), .val (.int x4_0), .val (.int (1 : Int32)), .val (.int (3 : Int32)), .val (.ref b172), .val (.ref b178), .val (.ref b187), .val (.ref b187), .val (.ref b198), .unset, .unset, .val (.int (1 : Int32)), .unset]) rfl k) ?_
    show Goes _ _ _ _ _ _ _ (T205.setTop (mkF m 144 #[.val (.int p0), .val (.int p1), .val (.int p2), .val (.int x2_0), .val (.int x4_0), .val (.int (1 : Int32)), .val (.int (3 : Int32)), .val (.ref b172), .val (.ref b178), .val (.ref b187), .val (.ref b187), .val (.ref b198), .unset, .unset, .val (.int (1 : Int32)), .unset] []))
    refine Goes.step (fun t k => XS.iload X205.here hx rfl (hb hby at_144) rfl k) ?_
    show Goes _ _ _ _ _ _ _ (T205.setTop (mkF m 146 #[.val (.int p0), .val (.int p1), .val (.int p2), .val (.int x2_0), .val (.int x4_0), .val (.int (1 : Int32)), .val (.int (3 : Int32)), .val (.ref b172), .val (.ref b178), .val (.ref b187), .val (.ref b187), .val (.ref b198), .unset, .unset, .val (.int (1 : Int32)), .unset] [(.int (3 : Int32))]))
    refine Goes.step (fun t k => XS.ifYes X205.here hx rfl (pc0 := 146) (pc' := 201) rfl (hb hby at_146) rfl ((if0 _ _).trans (feq (by decide)).2) (by decide) (by decide) k) ?_
    show Goes _ _ _ _ _ _ _ (T205.setTop (mkF m 201 #[.val (.int p0), .val (.int p1), .val (.int p2), .val (.int x2_0), .val (.int x4_0), .val (.int (1 : Int32)), .val (.int (3 : Int32)), .val (.ref b172), .val (.ref b178), .val (.ref b187), .val (.ref b187), .val (.ref b198), .unset, .unset, .val (.int (1 : Int32)), .unset] []))
    refine Goes.step (fun t k => XS.iload X205.here hx rfl (hb hby at_201) rfl k) ?_
    show Goes _ _ _ _ _ _ _ (T205.setTop (mkF m 203 #[.val (.int p0), .val (.int p1), .val (.int p2), .val (.int x2_0), .val (.int x4_0), .val (.int (1 : Int32)), .val (.int (3 : Int32)), .val (.ref b172), .val (.ref b178), .val (.ref b187), .val (.ref b187), .val (.ref b198), .unset, .unset, .val (.int (1 : Int32)), .unset] [(.int (3 : Int32))]))
    refine Goes.step (fun t k => XS.iconst X205.here hx rfl (hb hby at_203) k) ?_
    show Goes _ _ _ _ _ _ _ (T205.setTop (mkF m 204 #[.val (.int p0), .val (.int p1), .val (.int p2), .val (.int x2_0), .val (.int x4_0), .val (.int (1 : Int32)), .val (.int (3 : Int32)), .val (.ref b172), .val (.ref b178), .val (.ref b187), .val (.ref b187), .val (.ref b198), .unset, .unset, .val (.int (1 : Int32)), .unset] [(.int (1 : Int32)), (.int (3 : Int32))]))
    refine Goes.step (fun t k => XS.icmpYes X205.here hx rfl (pc0 := 204) (pc' := 216) rfl (hb hby at_204) rfl (feq (by decide)).2 (by decide) (by decide) k) ?_
    show Goes _ _ _ _ _ _ _ (T205.setTop (mkF m 216 #[.val (.int p0), .val (.int p1), .val (.int p2), .val (.int x2_0), .val (.int x4_0), .val (.int (1 : Int32)), .val (.int (3 : Int32)), .val (.ref b172), .val (.ref b178), .val (.ref b187), .val (.ref b187), .val (.ref b198), .unset, .unset, .val (.int (1 : Int32)), .unset] []))
    refine Goes.step (fun t k => XS.iload X205.here hx rfl (hb hby at_216) rfl k) ?_
    show Goes _ _ _ _ _ _ _ (T205.setTop (mkF m 218 #[.val (.int p0), .val (.int p1), .val (.int p2), .val (.int x2_0), .val (.int x4_0), .val (.int (1 : Int32)), .val (.int (3 : Int32)), .val (.ref b172), .val (.ref b178), .val (.ref b187), .val (.ref b187), .val (.ref b198), .unset, .unset, .val (.int (1 : Int32)), .unset] [(.int (3 : Int32))]))
    refine Goes.step (fun t k => XS.iconst X205.here hx rfl (hb hby at_218) k) ?_
    show Goes _ _ _ _ _ _ _ (T205.setTop (mkF m 219 #[.val (.int p0), .val (.int p1), .val (.int p2), .val (.int x2_0), .val (.int x4_0), .val (.int (1 : Int32)), .val (.int (3 : Int32)), .val (.ref b172), .val (.ref b178), .val (.ref b187), .val (.ref b187), .val (.ref b198), .unset, .unset, .val (.int (1 : Int32)), .unset] [(.int (2 : Int32)), (.int (3 : Int32))]))
    refine Goes.step (fun t k => XS.icmpYes X205.here hx rfl (pc0 := 219) (pc' := 232) rfl (hb hby at_219) rfl (feq (by decide)).2 (by decide) (by decide) k) ?_
    show Goes _ _ _ _ _ _ _ (T205.setTop (mkF m 232 #[.val (.int p0), .val (.int p1), .val (.int p2), .val (.int x2_0), .val (.int x4_0), .val (.int (1 : Int32)), .val (.int (3 : Int32)), .val (.ref b172), .val (.ref b178), .val (.ref b187), .val (.ref b187), .val (.ref b198), .unset, .unset, .val (.int (1 : Int32)), .unset] []))
    obtain ⟨T213, h213, X213, e213, E213, A213, D213, -, st213⟩ := newO X205 hx hZ hown (hw _ (List.mem_of_getElem? (i := 50) rfl)) (hw _ (List.mem_of_getElem? (i := 51) rfl)) (hw _ (List.mem_of_getElem? (i := 52) rfl)) e205 (g := (mkF m 232 #[.val (.int p0), .val (.int p1), .val (.int p2), .val (.int x2_0), .val (.int x4_0), .val (.int (1 : Int32)), .val (.int (3 : Int32)), .val (.ref b172), .val (.ref b178), .val (.ref b187), .val (.ref b187), .val (.ref b198), .unset, .unset, .val (.int (1 : Int32)), .unset] [])) rfl (hb hby at_232) (by decide) (by decide)
    obtain ⟨b213, g213⟩ : ∃ z, z = h205.size := ⟨_, rfl⟩
    rw [← g213] at A213 D213 st213
    have ne_b172_b213 : b172 ≠ b213 := Nat.ne_of_lt (Nat.lt_of_lt_of_le F207.lt (Nat.le_of_eq g213.symm))
    have ne_b178_b213 : b178 ≠ b213 := Nat.ne_of_lt (Nat.lt_of_lt_of_le F208.lt (Nat.le_of_eq g213.symm))
    have ne_b187_b213 : b187 ≠ b213 := Nat.ne_of_lt (Nat.lt_of_lt_of_le F209.lt (Nat.le_of_eq g213.symm))
    have ne_b198_b213 : b198 ≠ b213 := Nat.ne_of_lt (Nat.lt_of_lt_of_le G205_0.lt (Nat.le_of_eq g213.symm))
    have Zs213 : n0 ≤ b213 := Nat.le_trans Z205 (Nat.le_of_eq g213.symm)
    have Zh213 : h0.size ≤ b213 := Nat.le_trans K205.1 (Nat.le_of_eq g213.symm)
    have F214 := F206.ext E213
    have F215 := F207.ext E213
    have F216 := F208.ext E213
    have F217 := F209.ext E213
    have F218 := G205_0.ext E213
    have F219 := G205_1.ext E213
    have F220 := G205_2.ext E213
    have K213 := K205.ext E213
    have Z213 := Nat.le_trans Z205 E213.1
    have F221 : Fld Z h213 b213 "com/example/vigilant_schema/vigilantschema/Node$NullNode" "written" "Ljava/lang/String;" .null := D213 (Or.inr (hw _ (List.mem_of_getElem? (i := 58) rfl))) (ty := (.object "java/lang/String")) (by decide)
    refine Goes.step (fun t k => st213 t k) ?_
    show Goes _ _ _ _ _ _ _ (T213.setTop (mkF m 235 #[.val (.int p0), .val (.int p1), .val (.int p2), .val (.int x2_0), .val (.int x4_0), .val (.int (1 : Int32)), .val (.int (3 : Int32)), .val (.ref b172), .val (.ref b178), .val (.ref b187), .val (.ref b187), .val (.ref b198), .unset, .unset, .val (.int (1 : Int32)), .unset] [(.ref b213)]))
    refine Goes.step (fun t k => XS.dup X213.here hx rfl (hb hby at_235) rfl rfl k) ?_
    show Goes _ _ _ _ _ _ _ (T213.setTop (mkF m 236 #[.val (.int p0), .val (.int p1), .val (.int p2), .val (.int x2_0), .val (.int x4_0), .val (.int (1 : Int32)), .val (.int (3 : Int32)), .val (.ref b172), .val (.ref b178), .val (.ref b187), .val (.ref b187), .val (.ref b198), .unset, .unset, .val (.int (1 : Int32)), .unset] [(.ref b213), (.ref b213)]))
    refine Goes.step (fun t k => XS.aload X213.here hx rfl (hb hby at_236) rfl rfl k) ?_
    show Goes _ _ _ _ _ _ _ (T213.setTop (mkF m 238 #[.val (.int p0), .val (.int p1), .val (.int p2), .val (.int x2_0), .val (.int x4_0), .val (.int (1 : Int32)), .val (.int (3 : Int32)), .val (.ref b172), .val (.ref b178), .val (.ref b187), .val (.ref b187), .val (.ref b198), .unset, .unset, .val (.int (1 : Int32)), .unset] [(.ref b187), (.ref b213), (.ref b213)]))
    obtain ⟨_, _, ⟨T222, L222, k222, n222⟩, -, X222, ⟨Lc222, hQ222, l222, y222, z222⟩, st222⟩ := X213.specialBack hx (y := (⟨"com/example/vigilant_schema/vigilantschema/Node$NullNode", "<init>", "(Ljava/lang/String;)V"⟩ : MethodName)) rfl hown (mvT hZ (hw _ (List.mem_of_getElem? (i := 53) rfl))) (mvT hZ (hw _ (List.mem_of_getElem? (i := 54) rfl))) (mvT hZ (hw _ (List.mem_of_getElem? (i := 55) rfl))) (by decide) (backOf (W := 1) (rm9 l Z tA hw [] b213 b187 h213 n0 Z213 A213 F221 Zs213) hZ (hw _ (List.mem_of_getElem? (i := 55) rfl)) (hw _ (List.mem_of_getElem? (i := 52) rfl)) (by decide) (by decide)) (g := (mkF m 238 #[.val (.int p0), .val (.int p1), .val (.int p2), .val (.int x2_0), .val (.int x4_0), .val (.int (1 : Int32)), .val (.int (3 : Int32)), .val (.ref b172), .val (.ref b178), .val (.ref b187), .val (.ref b187), .val (.ref b198), .unset, .unset, .val (.int (1 : Int32)), .unset] [(.ref b187), (.ref b213), (.ref b213)])) rfl (by rw [hml]; rfl) (Steps.refl _) (a := b213) (argsL := [(.ref b187)]) (rest := [(.ref b213)]) (lenOf own_pd3 rfl) rfl (by show 2 * 0 + _ ≤ _; exact Nat.le_of_eq rfl) (hb hby at_238) (fun _ _ => ⟨rfl, e213, (by decide : 6 + 0 ≤ _), (by decide : 13 + 0 ≤ _)⟩)
    dsimp only [Pt.U, Pt.locs, Pt.cells, Pt.slots] at X222 l222 y222 z222 st222 hQ222
    rw [l222, y222, z222] at X222
    generalize e222 : T222.heap = h222 at hQ222
    obtain ⟨rfl, Nq222, Kq222, G222_0, G222_1⟩ := hQ222
    have F223 := own_sta_keep F214 Kq222 (allS (notsta_exa A213) all0)
    have F224 := F215.keep Kq222 (ninS ne_b172_b213 nin0)
    have F225 := F216.keep Kq222 (ninS ne_b178_b213 nin0)
    have F226 := F217.keep Kq222
    have F227 := F218.keep Kq222
    have F228 := F219.keep Kq222 (ninS ne_b198_b213 nin0)
    have F229 := F220.keep Kq222 (ninS ne_b198_b213 nin0)
    have N222 := Fr.app N205 Nq222
    have K222 := K213.trans Kq222 (allS (Or.inr Zh213) all0)
    have Z222 := Nat.le_trans Z213 Kq222.1
    change Stand _ _ _ _ _ _ _ _ _ _ _ _ 6 13 at X222
    refine Goes.step (fun t k => st222.trans k) ?_
    show Goes _ _ _ _ _ _ _ (T222.setTop (mkF m 241 #[.val (.int p0), .val (.int p1), .val (.int p2), .val (.int x2_0), .val (.int x4_0), .val (.int (1 : Int32)), .val (.int (3 : Int32)), .val (.ref b172), .val (.ref b178), .val (.ref b187), .val (.ref b187), .val (.ref b198), .unset, .unset, .val (.int (1 : Int32)), .unset] [(.ref b213)]))
    refine Goes.step (fun t k => XS.astore X222.here hx rfl (hb hby at_241) rfl rfl (l' := #[.val (.int p0), .val (.int p1), .val (.int p2), .val (.int x2_0), .val (.int x4_0), .val (.int (1 : Int32)), .val (.int (3 : Int32)), .val (.ref b172), .val (.ref b178), .val (.ref b187), .val (.ref b187), .val (.ref b198), .val (.ref b213), .unset, .val (.int (1 : Int32)), .unset]) rfl k) ?_
    show Goes _ _ _ _ _ _ _ (T222.setTop (mkF m 243 #[.val (.int p0), .val (.int p1), .val (.int p2), .val (.int x2_0), .val (.int x4_0), .val (.int (1 : Int32)), .val (.int (3 : Int32)), .val (.ref b172), .val (.ref b178), .val (.ref b187), .val (.ref b187), .val (.ref b198), .val (.ref b213), .unset, .val (.int (1 : Int32)), .unset] []))
    refine Goes.step (fun t k => XS.iconst X222.here hx rfl (hb hby at_243) k) ?_
    show Goes _ _ _ _ _ _ _ (T222.setTop (mkF m 244 #[.val (.int p0), .val (.int p1), .val (.int p2), .val (.int x2_0), .val (.int x4_0), .val (.int (1 : Int32)), .val (.int (3 : Int32)), .val (.ref b172), .val (.ref b178), .val (.ref b187), .val (.ref b187), .val (.ref b198), .val (.ref b213), .unset, .val (.int (1 : Int32)), .unset] [(.int (0 : Int32))]))
    refine Goes.step (fun t k => XS.istore X222.here hx rfl (hb hby at_244) rfl (l' := #[.val (.int p0), .val (.int p1), .val (.int p2), .val (.int x2_0), .val (.int x4_0), .val (.int (1 : Int32)), .val (.int (3 : Int32)), .val (.ref b172), .val (.ref b178), .val (.ref b187), .val (.ref b187), .val (.ref b198), .val (.ref b213), .val (.int (0 : Int32)), .val (.int (1 : Int32)), .unset]) rfl k) ?_
    show Goes _ _ _ _ _ _ _ (T222.setTop (mkF m 246 #[.val (.int p0), .val (.int p1), .val (.int p2), .val (.int x2_0), .val (.int x4_0), .val (.int (1 : Int32)), .val (.int (3 : Int32)), .val (.ref b172), .val (.ref b178), .val (.ref b187), .val (.ref b187), .val (.ref b198), .val (.ref b213), .val (.int (0 : Int32)), .val (.int (1 : Int32)), .unset] []))
    refine Goes.step (fun t k => XS.aload X222.here hx rfl (hb hby at_246) rfl rfl k) ?_
    show Goes _ _ _ _ _ _ _ (T222.setTop (mkF m 248 #[.val (.int p0), .val (.int p1), .val (.int p2), .val (.int x2_0), .val (.int x4_0), .val (.int (1 : Int32)), .val (.int (3 : Int32)), .val (.ref b172), .val (.ref b178), .val (.ref b187), .val (.ref b187), .val (.ref b198), .val (.ref b213), .val (.int (0 : Int32)), .val (.int (1 : Int32)), .unset] [(.ref b198)]))
    refine Goes.step (fun t k => XS.aload X222.here hx rfl (hb hby at_248) rfl rfl k) ?_
    show Goes _ _ _ _ _ _ _ (T222.setTop (mkF m 250 #[.val (.int p0), .val (.int p1), .val (.int p2), .val (.int x2_0), .val (.int x4_0), .val (.int (1 : Int32)), .val (.int (3 : Int32)), .val (.ref b172), .val (.ref b178), .val (.ref b187), .val (.ref b187), .val (.ref b198), .val (.ref b213), .val (.int (0 : Int32)), .val (.int (1 : Int32)), .unset] [(.ref b198), (.ref b198)]))
    obtain ⟨cq230, kq230, q230a, q230b, q230c⟩ := isOf hZ e222 F227
    obtain ⟨_, _, ⟨T230, L230, k230, n230⟩, -, X230, ⟨Lc230, hQ230, l230, y230, z230⟩, st230⟩ := X222.virtualBack hx (y := (⟨"com/example/vigilant_schema/vigilantschema/Node$BooleanNode", "equals", "(Ljava/lang/Object;)Z"⟩ : MethodName)) (z := (⟨"com/example/vigilant_schema/vigilantschema/Node$BooleanNode", "equals", "(Ljava/lang/Object;)Z"⟩ : MethodName)) hown (mvT hZ (hw _ (List.mem_of_getElem? (i := 41) rfl))) (mvT hZ (hw _ (List.mem_of_getElem? (i := 42) rfl))) (notFace_of_selects (args := #[]) (mvT hZ (hw _ (List.mem_of_getElem? (i := 44) rfl)))) (mvT hZ (hw _ (List.mem_of_getElem? (i := 44) rfl))) (mvT hZ (hw _ (List.mem_of_getElem? (i := 43) rfl))) (by decide) (backOf (W := 0) (rm8B l Z tA hw [] b198 b198 (nar .boolean x2_0) (nar .boolean x2_0) h222 F227 F228 F228) hZ (hw _ (List.mem_of_getElem? (i := 45) rfl)) (hw _ (List.mem_of_getElem? (i := 32) rfl)) (by decide) (by decide)) q230a q230c (g := (mkF m 250 #[.val (.int p0), .val (.int p1), .val (.int p2), .val (.int x2_0), .val (.int x4_0), .val (.int (1 : Int32)), .val (.int (3 : Int32)), .val (.ref b172), .val (.ref b178), .val (.ref b187), .val (.ref b187), .val (.ref b198), .val (.ref b213), .val (.int (0 : Int32)), .val (.int (1 : Int32)), .unset] [(.ref b198), (.ref b198)])) rfl (by rw [hml]; rfl) (Steps.refl _) (argsL := [(.ref b198)]) (rest := []) (lenOf own_pd2 rfl) rfl (by show 2 * 0 + _ ≤ _; exact Nat.le_of_eq rfl) (hb hby at_250) (fun _ _ => ⟨rfl, e222, (by decide : 6 + 0 ≤ _), (by decide : 13 + 0 ≤ _)⟩)
    dsimp only [Pt.U, Pt.locs, Pt.cells, Pt.slots] at X230 l230 y230 z230 st230 hQ230
    rw [l230, y230, z230] at X230
    obtain ⟨rfl, rfl, e230⟩ := hQ230
    try rw [List.append_nil] at X230
    change Stand _ _ _ _ _ _ _ _ _ _ _ _ 6 13 at X230
    refine Goes.step (fun t k => st230.trans k) ?_
    show Goes _ _ _ _ _ _ _ (T230.setTop (mkF m 253 #[.val (.int p0), .val (.int p1), .val (.int p2), .val (.int x2_0), .val (.int x4_0), .val (.int (1 : Int32)), .val (.int (3 : Int32)), .val (.ref b172), .val (.ref b178), .val (.ref b187), .val (.ref b187), .val (.ref b198), .val (.ref b213), .val (.int (0 : Int32)), .val (.int (1 : Int32)), .unset] [(.int (f8B (nar .boolean x2_0) (nar .boolean x2_0)))]))
    refine Goes.step (fun t k => XS.istore X230.here hx rfl (hb hby at_253) rfl (l' := #[.val (.int p0), .val (.int p1), .val (.int p2), .val (.int x2_0), .val (.int x4_0), .val (.int (1 : Int32)), .val (.int (3 : Int32)), .val (.ref b172), .val (.ref b178), .val (.ref b187), .val (.ref b187), .val (.ref b198), .val (.ref b213), .val (.int (0 : Int32)), .val (.int (1 : Int32)), .val (.int (f8B (nar .boolean x2_0) (nar .boolean x2_0)))]) rfl k) ?_
    show Goes _ _ _ _ _ _ _ (T230.setTop (mkF m 255 #[.val (.int p0), .val (.int p1), .val (.int p2), .val (.int x2_0), .val (.int x4_0), .val (.int (1 : Int32)), .val (.int (3 : Int32)), .val (.ref b172), .val (.ref b178), .val (.ref b187), .val (.ref b187), .val (.ref b198), .val (.ref b213), .val (.int (0 : Int32)), .val (.int (1 : Int32)), .val (.int (f8B (nar .boolean x2_0) (nar .boolean x2_0)))] []))
    generalize hy231 : (f8B (nar .boolean x2_0) (nar .boolean x2_0)) = y231
    refine Goes.step (fun t k => XS.iload X230.here hx rfl (hb hby at_255) rfl k) ?_
    show Goes _ _ _ _ _ _ _ (T230.setTop (mkF m 257 #[.val (.int p0), .val (.int p1), .val (.int p2), .val (.int x2_0), .val (.int x4_0), .val (.int (1 : Int32)), .val (.int (3 : Int32)), .val (.ref b172), .val (.ref b178), .val (.ref b187), .val (.ref b187), .val (.ref b198), .val (.ref b213), .val (.int (0 : Int32)), .val (.int (1 : Int32)), .val (.int y231)] [(.int y231)]))
    suffices k236 : ∀ (T236 : State) (L236 : List Loc) (x236_0 : Int32), Stand p l e room_1 s m #[(.int p0), (.int p1), (.int p2)] below meth c T236 L236 6 13 → T236.heap = h222 → Fr n0 L236 → x236_0 = (if y231 = (0 : Int32) then (0 : Int32) else (if f8N = (0 : Int32) then (1 : Int32) else (0 : Int32))) → Goes p e below s (Q0 Z p0 p1 p2 wC h0 n0) kC0 kS0 (T236.setTop (mkF m 282 #[.val (.int p0), .val (.int p1), .val (.int p2), .val (.int x2_0), .val (.int x4_0), .val (.int (1 : Int32)), .val (.int (3 : Int32)), .val (.ref b172), .val (.ref b178), .val (.ref b187), .val (.ref b187), .val (.ref b198), .val (.ref b213), .val (.int (0 : Int32)), .val (.int (1 : Int32)), .val (.int y231)] [(.int x236_0)])) by
      by_cases hc257_232 : y231 = (0 : Int32)
      · refine Goes.step (fun t k => XS.ifYes X230.here hx rfl (pc0 := 257) (pc' := 281) rfl (hb hby at_257) rfl ((if0 _ _).trans (teq hc257_232).1) (by decide) (by decide) k) ?_
        show Goes _ _ _ _ _ _ _ (T230.setTop (mkF m 281 #[.val (.int p0), .val (.int p1), .val (.int p2), .val (.int x2_0), .val (.int x4_0), .val (.int (1 : Int32)), .val (.int (3 : Int32)), .val (.ref b172), .val (.ref b178), .val (.ref b187), .val (.ref b187), .val (.ref b198), .val (.ref b213), .val (.int (0 : Int32)), .val (.int (1 : Int32)), .val (.int y231)] []))
        refine Goes.step (fun t k => XS.iconst X230.here hx rfl (hb hby at_281) k) ?_
        show Goes _ _ _ _ _ _ _ (T230.setTop (mkF m 282 #[.val (.int p0), .val (.int p1), .val (.int p2), .val (.int x2_0), .val (.int x4_0), .val (.int (1 : Int32)), .val (.int (3 : Int32)), .val (.ref b172), .val (.ref b178), .val (.ref b187), .val (.ref b187), .val (.ref b198), .val (.ref b213), .val (.int (0 : Int32)), .val (.int (1 : Int32)), .val (.int y231)] [(.int (0 : Int32))]))
        exact k236 _ _ _ X230 e230 N222 (if_pos hc257_232).symm
      · refine Goes.step (fun t k => XS.ifNo X230.here hx rfl (hb hby at_257) rfl ((if0 _ _).trans (feq hc257_232).1) k) ?_
        show Goes _ _ _ _ _ _ _ (T230.setTop (mkF m 260 #[.val (.int p0), .val (.int p1), .val (.int p2), .val (.int x2_0), .val (.int x4_0), .val (.int (1 : Int32)), .val (.int (3 : Int32)), .val (.ref b172), .val (.ref b178), .val (.ref b187), .val (.ref b187), .val (.ref b198), .val (.ref b213), .val (.int (0 : Int32)), .val (.int (1 : Int32)), .val (.int y231)] []))
        refine Goes.step (fun t k => XS.iload X230.here hx rfl (hb hby at_260) rfl k) ?_
        show Goes _ _ _ _ _ _ _ (T230.setTop (mkF m 262 #[.val (.int p0), .val (.int p1), .val (.int p2), .val (.int x2_0), .val (.int x4_0), .val (.int (1 : Int32)), .val (.int (3 : Int32)), .val (.ref b172), .val (.ref b178), .val (.ref b187), .val (.ref b187), .val (.ref b198), .val (.ref b213), .val (.int (0 : Int32)), .val (.int (1 : Int32)), .val (.int y231)] [(.int (1 : Int32))]))
        refine Goes.step (fun t k => XS.ifNo X230.here hx rfl (hb hby at_262) rfl ((if0 _ _).trans (feq (by decide)).1) k) ?_
        show Goes _ _ _ _ _ _ _ (T230.setTop (mkF m 265 #[.val (.int p0), .val (.int p1), .val (.int p2), .val (.int x2_0), .val (.int x4_0), .val (.int (1 : Int32)), .val (.int (3 : Int32)), .val (.ref b172), .val (.ref b178), .val (.ref b187), .val (.ref b187), .val (.ref b198), .val (.ref b213), .val (.int (0 : Int32)), .val (.int (1 : Int32)), .val (.int y231)] []))
        refine Goes.step (fun t k => XS.aload X230.here hx rfl (hb hby at_265) rfl rfl k) ?_
        show Goes _ _ _ _ _ _ _ (T230.setTop (mkF m 267 #[.val (.int p0), .val (.int p1), .val (.int p2), .val (.int x2_0), .val (.int x4_0), .val (.int (1 : Int32)), .val (.int (3 : Int32)), .val (.ref b172), .val (.ref b178), .val (.ref b187), .val (.ref b187), .val (.ref b198), .val (.ref b213), .val (.int (0 : Int32)), .val (.int (1 : Int32)), .val (.int y231)] [(.ref b198)]))
        refine Goes.step (fun t k => XS.aload X230.here hx rfl (hb hby at_267) rfl rfl k) ?_
        show Goes _ _ _ _ _ _ _ (T230.setTop (mkF m 269 #[.val (.int p0), .val (.int p1), .val (.int p2), .val (.int x2_0), .val (.int x4_0), .val (.int (1 : Int32)), .val (.int (3 : Int32)), .val (.ref b172), .val (.ref b178), .val (.ref b187), .val (.ref b187), .val (.ref b198), .val (.ref b213), .val (.int (0 : Int32)), .val (.int (1 : Int32)), .val (.int y231)] [(.ref b213), (.ref b198)]))
        obtain ⟨cq234, kq234, q234a, q234b, q234c⟩ := isOf hZ e230 F227
        obtain ⟨_, _, ⟨T234, L234, k234, n234⟩, -, X234, ⟨Lc234, hQ234, l234, y234, z234⟩, st234⟩ := X230.virtualBack hx (y := (⟨"com/example/vigilant_schema/vigilantschema/Node$BooleanNode", "equals", "(Ljava/lang/Object;)Z"⟩ : MethodName)) (z := (⟨"com/example/vigilant_schema/vigilantschema/Node$BooleanNode", "equals", "(Ljava/lang/Object;)Z"⟩ : MethodName)) hown (mvT hZ (hw _ (List.mem_of_getElem? (i := 41) rfl))) (mvT hZ (hw _ (List.mem_of_getElem? (i := 42) rfl))) (notFace_of_selects (args := #[]) (mvT hZ (hw _ (List.mem_of_getElem? (i := 44) rfl)))) (mvT hZ (hw _ (List.mem_of_getElem? (i := 44) rfl))) (mvT hZ (hw _ (List.mem_of_getElem? (i := 43) rfl))) (by decide) (backOf (W := 0) (rm8N l Z tA hw [] b198 b213 h222 G222_0) hZ (hw _ (List.mem_of_getElem? (i := 45) rfl)) (hw _ (List.mem_of_getElem? (i := 32) rfl)) (by decide) (by decide)) q234a q234c (g := (mkF m 269 #[.val (.int p0), .val (.int p1), .val (.int p2), .val (.int x2_0), .val (.int x4_0), .val (.int (1 : Int32)), .val (.int (3 : Int32)), .val (.ref b172), .val (.ref b178), .val (.ref b187), .val (.ref b187), .val (.ref b198), .val (.ref b213), .val (.int (0 : Int32)), .val (.int (1 : Int32)), .val (.int y231)] [(.ref b213), (.ref b198)])) rfl (by rw [hml]; rfl) (Steps.refl _) (argsL := [(.ref b213)]) (rest := []) (lenOf own_pd2 rfl) rfl (by show 2 * 0 + _ ≤ _; exact Nat.le_of_eq rfl) (hb hby at_269) (fun _ _ => ⟨rfl, e230, (by decide : 6 + 0 ≤ _), (by decide : 13 + 0 ≤ _)⟩)
        dsimp only [Pt.U, Pt.locs, Pt.cells, Pt.slots] at X234 l234 y234 z234 st234 hQ234
        rw [l234, y234, z234] at X234
        obtain ⟨rfl, rfl, e234⟩ := hQ234
        try rw [List.append_nil] at X234
        change Stand _ _ _ _ _ _ _ _ _ _ _ _ 6 13 at X234
        refine Goes.step (fun t k => st234.trans k) ?_
        show Goes _ _ _ _ _ _ _ (T234.setTop (mkF m 272 #[.val (.int p0), .val (.int p1), .val (.int p2), .val (.int x2_0), .val (.int x4_0), .val (.int (1 : Int32)), .val (.int (3 : Int32)), .val (.ref b172), .val (.ref b178), .val (.ref b187), .val (.ref b187), .val (.ref b198), .val (.ref b213), .val (.int (0 : Int32)), .val (.int (1 : Int32)), .val (.int y231)] [(.int f8N)]))
        refine Goes.step (fun t k => XS.iload X234.here hx rfl (hb hby at_272) rfl k) ?_
        show Goes _ _ _ _ _ _ _ (T234.setTop (mkF m 274 #[.val (.int p0), .val (.int p1), .val (.int p2), .val (.int x2_0), .val (.int x4_0), .val (.int (1 : Int32)), .val (.int (3 : Int32)), .val (.ref b172), .val (.ref b178), .val (.ref b187), .val (.ref b187), .val (.ref b198), .val (.ref b213), .val (.int (0 : Int32)), .val (.int (1 : Int32)), .val (.int y231)] [(.int (0 : Int32)), (.int f8N)]))
        by_cases hc274_235 : f8N = (0 : Int32)
        · refine Goes.step (fun t k => XS.icmpNo X234.here hx rfl (hb hby at_274) rfl (teq hc274_235).2 k) ?_
          show Goes _ _ _ _ _ _ _ (T234.setTop (mkF m 277 #[.val (.int p0), .val (.int p1), .val (.int p2), .val (.int x2_0), .val (.int x4_0), .val (.int (1 : Int32)), .val (.int (3 : Int32)), .val (.ref b172), .val (.ref b178), .val (.ref b187), .val (.ref b187), .val (.ref b198), .val (.ref b213), .val (.int (0 : Int32)), .val (.int (1 : Int32)), .val (.int y231)] []))
          refine Goes.step (fun t k => XS.iconst X234.here hx rfl (hb hby at_277) k) ?_
          show Goes _ _ _ _ _ _ _ (T234.setTop (mkF m 278 #[.val (.int p0), .val (.int p1), .val (.int p2), .val (.int x2_0), .val (.int x4_0), .val (.int (1 : Int32)), .val (.int (3 : Int32)), .val (.ref b172), .val (.ref b178), .val (.ref b187), .val (.ref b187), .val (.ref b198), .val (.ref b213), .val (.int (0 : Int32)), .val (.int (1 : Int32)), .val (.int y231)] [(.int (1 : Int32))]))
          refine Goes.step (fun t k => XS.goto X234.here hx rfl (pc0 := 278) (pc' := 282) rfl (hb hby at_278) (by decide) (by decide) k) ?_
          show Goes _ _ _ _ _ _ _ (T234.setTop (mkF m 282 #[.val (.int p0), .val (.int p1), .val (.int p2), .val (.int x2_0), .val (.int x4_0), .val (.int (1 : Int32)), .val (.int (3 : Int32)), .val (.ref b172), .val (.ref b178), .val (.ref b187), .val (.ref b187), .val (.ref b198), .val (.ref b213), .val (.int (0 : Int32)), .val (.int (1 : Int32)), .val (.int y231)] [(.int (1 : Int32))]))
          exact k236 _ _ _ X234 e234 N222 ((if_neg hc257_232).trans (if_pos hc274_235)).symm
        · refine Goes.step (fun t k => XS.icmpYes X234.here hx rfl (pc0 := 274) (pc' := 281) rfl (hb hby at_274) rfl (feq hc274_235).2 (by decide) (by decide) k) ?_
          show Goes _ _ _ _ _ _ _ (T234.setTop (mkF m 281 #[.val (.int p0), .val (.int p1), .val (.int p2), .val (.int x2_0), .val (.int x4_0), .val (.int (1 : Int32)), .val (.int (3 : Int32)), .val (.ref b172), .val (.ref b178), .val (.ref b187), .val (.ref b187), .val (.ref b198), .val (.ref b213), .val (.int (0 : Int32)), .val (.int (1 : Int32)), .val (.int y231)] []))
          refine Goes.step (fun t k => XS.iconst X234.here hx rfl (hb hby at_281) k) ?_
          show Goes _ _ _ _ _ _ _ (T234.setTop (mkF m 282 #[.val (.int p0), .val (.int p1), .val (.int p2), .val (.int x2_0), .val (.int x4_0), .val (.int (1 : Int32)), .val (.int (3 : Int32)), .val (.ref b172), .val (.ref b178), .val (.ref b187), .val (.ref b187), .val (.ref b198), .val (.ref b213), .val (.int (0 : Int32)), .val (.int (1 : Int32)), .val (.int y231)] [(.int (0 : Int32))]))
          exact k236 _ _ _ X234 e234 N222 ((if_neg hc257_232).trans (if_neg hc274_235)).symm
    intro T236 L236 x236_0 X236 e236 N236 hx236_0
    exact Goes.retZ X236 hx Bd.notSynchronized (r := (1 : Int32)) Bd.returns (by simp) (hb hby at_282) (own_plain_4 p0 x2_0 y231 x236_0 hx2_0 hy231 hx236_0) ⟨rfl, N236⟩ (by decide) (by decide)
  · show Goes _ _ _ _ _ _ _ (s₁.setTop (mkF m 45 #[.val (.int p0), .val (.int p1), .val (.int p2), .val (.int x2_0), .val (.int x4_0), .val (.int (0 : Int32)), .val (.int (0 : Int32)), .unset, .unset, .unset, .unset, .unset, .unset, .unset, .unset, .unset] []))
    refine Goes.step (fun t k => XS.iconst X0.here hx rfl (hb hby at_45) k) ?_
    show Goes _ _ _ _ _ _ _ (s₁.setTop (mkF m 46 #[.val (.int p0), .val (.int p1), .val (.int p2), .val (.int x2_0), .val (.int x4_0), .val (.int (0 : Int32)), .val (.int (0 : Int32)), .unset, .unset, .unset, .unset, .unset, .unset, .unset, .unset, .unset] [(.int (2 : Int32))]))
    obtain ⟨T237, h237, k237, X237, e237, E237, A237, st237⟩ := newP X0 hx hZ (hw _ (List.mem_of_getElem? (i := 0) rfl)) e0 (g := (mkF m 46 #[.val (.int p0), .val (.int p1), .val (.int p2), .val (.int x2_0), .val (.int x4_0), .val (.int (0 : Int32)), .val (.int (0 : Int32)), .unset, .unset, .unset, .unset, .unset, .unset, .unset, .unset, .unset] [(.int (2 : Int32))])) rfl (hb hby at_46) rfl (by decide) (cap := 2) (by decide) (by decide) (by decide) (by decide)
    obtain ⟨b237, g237⟩ : ∃ z, z = h0.size := ⟨_, rfl⟩
    rw [← g237] at A237 st237
    have Zs237 : n0 ≤ b237 := Nat.le_trans Z0 (Nat.le_of_eq g237.symm)
    have Zh237 : h0.size ≤ b237 := Nat.le_trans (Keep.refl h0 []).1 (Nat.le_of_eq g237.symm)
    have F238 := S_c.ext E237
    have K237 := (Keep.refl h0 []).ext E237
    have Z237 := Nat.le_trans Z0 E237.1
    have V237 : Ara Z h237 b237 .char [(.int (0 : Int32)), (.int (0 : Int32))] := Ara.new A237 (by decide) rfl (fun _ q => nomatch q)
    refine Goes.step (fun t k => st237 t k) ?_
    show Goes _ _ _ _ _ _ _ (T237.setTop (mkF m 48 #[.val (.int p0), .val (.int p1), .val (.int p2), .val (.int x2_0), .val (.int x4_0), .val (.int (0 : Int32)), .val (.int (0 : Int32)), .unset, .unset, .unset, .unset, .unset, .unset, .unset, .unset, .unset] [(.ref b237)]))
    refine Goes.step (fun t k => XS.dup X237.here hx rfl (hb hby at_48) rfl rfl k) ?_
    show Goes _ _ _ _ _ _ _ (T237.setTop (mkF m 49 #[.val (.int p0), .val (.int p1), .val (.int p2), .val (.int x2_0), .val (.int x4_0), .val (.int (0 : Int32)), .val (.int (0 : Int32)), .unset, .unset, .unset, .unset, .unset, .unset, .unset, .unset, .unset] [(.ref b237), (.ref b237)]))
    refine Goes.step (fun t k => XS.iconst X237.here hx rfl (hb hby at_49) k) ?_
    show Goes _ _ _ _ _ _ _ (T237.setTop (mkF m 50 #[.val (.int p0), .val (.int p1), .val (.int p2), .val (.int x2_0), .val (.int x4_0), .val (.int (0 : Int32)), .val (.int (0 : Int32)), .unset, .unset, .unset, .unset, .unset, .unset, .unset, .unset, .unset] [(.int (0 : Int32)), (.ref b237), (.ref b237)]))
    refine Goes.step (fun t k => XS.iloadN X237.here hx rfl (hb hby at_50) rfl k) ?_
    show Goes _ _ _ _ _ _ _ (T237.setTop (mkF m 51 #[.val (.int p0), .val (.int p1), .val (.int p2), .val (.int x2_0), .val (.int x4_0), .val (.int (0 : Int32)), .val (.int (0 : Int32)), .unset, .unset, .unset, .unset, .unset, .unset, .unset, .unset, .unset] [(.int p1), (.int (0 : Int32)), (.ref b237), (.ref b237)]))
    refine Goes.step (fun t k => XS.sipush X237.here hx rfl (hb hby at_51) k) ?_
    show Goes _ _ _ _ _ _ _ (T237.setTop (mkF m 54 #[.val (.int p0), .val (.int p1), .val (.int p2), .val (.int x2_0), .val (.int x4_0), .val (.int (0 : Int32)), .val (.int (0 : Int32)), .unset, .unset, .unset, .unset, .unset, .unset, .unset, .unset, .unset] [(.int (255 : Int32)), (.int p1), (.int (0 : Int32)), (.ref b237), (.ref b237)]))
    refine Goes.step (fun t k => XS.iand X237.here hx rfl (hb hby at_54) rfl k) ?_
    show Goes _ _ _ _ _ _ _ (T237.setTop (mkF m 55 #[.val (.int p0), .val (.int p1), .val (.int p2), .val (.int x2_0), .val (.int x4_0), .val (.int (0 : Int32)), .val (.int (0 : Int32)), .unset, .unset, .unset, .unset, .unset, .unset, .unset, .unset, .unset] [(.int (p1 &&& (255 : Int32))), (.int (0 : Int32)), (.ref b237), (.ref b237)]))
    refine Goes.step (fun t k => XS.i2c X237.here hx rfl (hb hby at_55) rfl k) ?_
    show Goes _ _ _ _ _ _ _ (T237.setTop (mkF m 56 #[.val (.int p0), .val (.int p1), .val (.int p2), .val (.int x2_0), .val (.int x4_0), .val (.int (0 : Int32)), .val (.int (0 : Int32)), .unset, .unset, .unset, .unset, .unset, .unset, .unset, .unset, .unset] [(.int ((p1 &&& (255 : Int32)).toUInt32.toUInt16.toUInt32.toInt32)), (.int (0 : Int32)), (.ref b237), (.ref b237)]))
    obtain ⟨cl239, Ar239, q239, ll239, ff239, oo239⟩ := id V237
    have hn239 : ¬ (0 : Int32) < 0 := by decide
    have hl239 : ((0 : Int32)).toNatClampNeg < ([(.int (0 : Int32)), (.int (0 : Int32))] : List Value).length := by exact Nat.le_of_ble_eq_true rfl
    obtain ⟨T239, h239, X239, e239, W239, st239⟩ := stC X237 hx hZ e237 Ar239 (j := (0 : Int32)) (inb q239 hn239 hl239) (g := (mkF m 56 #[.val (.int p0), .val (.int p1), .val (.int p2), .val (.int x2_0), .val (.int x4_0), .val (.int (0 : Int32)), .val (.int (0 : Int32)), .unset, .unset, .unset, .unset, .unset, .unset, .unset, .unset, .unset] [(.int ((p1 &&& (255 : Int32)).toUInt32.toUInt16.toUInt32.toInt32)), (.int (0 : Int32)), (.ref b237), (.ref b237)])) rfl rfl (hb hby at_56)
    have V239 : Ara Z h239 b237 .char [(.int (nar .char ((p1 &&& (255 : Int32)).toUInt32.toUInt16.toUInt32.toInt32))), (.int (0 : Int32))] := Ara.same (j := (0 : Int32)) Ar239 q239 ll239 ff239 oo239 (fits_nar_char _) W239
    have F240 := F238.wr W239
    have K239 := K237.wr W239 (Or.inr Zh237)
    have N239 := Fr.snoc X239 N0 Zs237
    have Z239 := Nat.le_trans Z237 (Nat.le_of_eq W239.size.symm)
    refine Goes.step (fun t k => st239 t k) ?_
    show Goes _ _ _ _ _ _ _ (T239.setTop (mkF m 57 #[.val (.int p0), .val (.int p1), .val (.int p2), .val (.int x2_0), .val (.int x4_0), .val (.int (0 : Int32)), .val (.int (0 : Int32)), .unset, .unset, .unset, .unset, .unset, .unset, .unset, .unset, .unset] [(.ref b237)]))
    refine Goes.step (fun t k => XS.dup X239.here hx rfl (hb hby at_57) rfl rfl k) ?_
    show Goes _ _ _ _ _ _ _ (T239.setTop (mkF m 58 #[.val (.int p0), .val (.int p1), .val (.int p2), .val (.int x2_0), .val (.int x4_0), .val (.int (0 : Int32)), .val (.int (0 : Int32)), .unset, .unset, .unset, .unset, .unset, .unset, .unset, .unset, .unset] [(.ref b237), (.ref b237)]))
    refine Goes.step (fun t k => XS.iconst X239.here hx rfl (hb hby at_58) k) ?_
    show Goes _ _ _ _ _ _ _ (T239.setTop (mkF m 59 #[.val (.int p0), .val (.int p1), .val (.int p2), .val (.int x2_0), .val (.int x4_0), .val (.int (0 : Int32)), .val (.int (0 : Int32)), .unset, .unset, .unset, .unset, .unset, .unset, .unset, .unset, .unset] [(.int (1 : Int32)), (.ref b237), (.ref b237)]))
    refine Goes.step (fun t k => XS.iloadN X239.here hx rfl (hb hby at_59) rfl k) ?_
    show Goes _ _ _ _ _ _ _ (T239.setTop (mkF m 60 #[.val (.int p0), .val (.int p1), .val (.int p2), .val (.int x2_0), .val (.int x4_0), .val (.int (0 : Int32)), .val (.int (0 : Int32)), .unset, .unset, .unset, .unset, .unset, .unset, .unset, .unset, .unset] [(.int p1), (.int (1 : Int32)), (.ref b237), (.ref b237)]))
    refine Goes.step (fun t k => XS.bipush X239.here hx rfl (hb hby at_60) k) ?_
    show Goes _ _ _ _ _ _ _ (T239.setTop (mkF m 62 #[.val (.int p0), .val (.int p1), .val (.int p2), .val (.int x2_0), .val (.int x4_0), .val (.int (0 : Int32)), .val (.int (0 : Int32)), .unset, .unset, .unset, .unset, .unset, .unset, .unset, .unset, .unset] [(.int (8 : Int32)), (.int p1), (.int (1 : Int32)), (.ref b237), (.ref b237)]))
    refine Goes.step (fun t k => XS.iushr X239.here hx rfl (hb hby at_62) rfl k) ?_
    show Goes _ _ _ _ _ _ _ (T239.setTop (mkF m 63 #[.val (.int p0), .val (.int p1), .val (.int p2), .val (.int x2_0), .val (.int x4_0), .val (.int (0 : Int32)), .val (.int (0 : Int32)), .unset, .unset, .unset, .unset, .unset, .unset, .unset, .unset, .unset] [(.int ((p1.toUInt32 >>> ((8 : Int32) &&& 31).toUInt32).toInt32)), (.int (1 : Int32)), (.ref b237), (.ref b237)]))
    refine Goes.step (fun t k => XS.sipush X239.here hx rfl (hb hby at_63) k) ?_
    show Goes _ _ _ _ _ _ _ (T239.setTop (mkF m 66 #[.val (.int p0), .val (.int p1), .val (.int p2), .val (.int x2_0), .val (.int x4_0), .val (.int (0 : Int32)), .val (.int (0 : Int32)), .unset, .unset, .unset, .unset, .unset, .unset, .unset, .unset, .unset] [(.int (255 : Int32)), (.int ((p1.toUInt32 >>> ((8 : Int32) &&& 31).toUInt32).toInt32)), (.int (1 : Int32)), (.ref b237), (.ref b237)]))
    refine Goes.step (fun t k => XS.iand X239.here hx rfl (hb hby at_66) rfl k) ?_
    show Goes _ _ _ _ _ _ _ (T239.setTop (mkF m 67 #[.val (.int p0), .val (.int p1), .val (.int p2), .val (.int x2_0), .val (.int x4_0), .val (.int (0 : Int32)), .val (.int (0 : Int32)), .unset, .unset, .unset, .unset, .unset, .unset, .unset, .unset, .unset] [(.int (((p1.toUInt32 >>> ((8 : Int32) &&& 31).toUInt32).toInt32) &&& (255 : Int32))), (.int (1 : Int32)), (.ref b237), (.ref b237)]))
    refine Goes.step (fun t k => XS.i2c X239.here hx rfl (hb hby at_67) rfl k) ?_
    show Goes _ _ _ _ _ _ _ (T239.setTop (mkF m 68 #[.val (.int p0), .val (.int p1), .val (.int p2), .val (.int x2_0), .val (.int x4_0), .val (.int (0 : Int32)), .val (.int (0 : Int32)), .unset, .unset, .unset, .unset, .unset, .unset, .unset, .unset, .unset] [(.int ((((p1.toUInt32 >>> ((8 : Int32) &&& 31).toUInt32).toInt32) &&& (255 : Int32)).toUInt32.toUInt16.toUInt32.toInt32)), (.int (1 : Int32)), (.ref b237), (.ref b237)]))
    obtain ⟨cl241, Ar241, q241, ll241, ff241, oo241⟩ := id V239
    have hn241 : ¬ (1 : Int32) < 0 := by decide
    have hl241 : ((1 : Int32)).toNatClampNeg < ([(.int (nar .char ((p1 &&& (255 : Int32)).toUInt32.toUInt16.toUInt32.toInt32))), (.int (0 : Int32))] : List Value).length := by exact Nat.le_of_ble_eq_true rfl
    obtain ⟨T241, h241, X241, e241, W241, st241⟩ := stC X239 hx hZ e239 Ar241 (j := (1 : Int32)) (inb q241 hn241 hl241) (g := (mkF m 68 #[.val (.int p0), .val (.int p1), .val (.int p2), .val (.int x2_0), .val (.int x4_0), .val (.int (0 : Int32)), .val (.int (0 : Int32)), .unset, .unset, .unset, .unset, .unset, .unset, .unset, .unset, .unset] [(.int ((((p1.toUInt32 >>> ((8 : Int32) &&& 31).toUInt32).toInt32) &&& (255 : Int32)).toUInt32.toUInt16.toUInt32.toInt32)), (.int (1 : Int32)), (.ref b237), (.ref b237)])) rfl rfl (hb hby at_68)
    have V241 : Ara Z h241 b237 .char [(.int (nar .char ((p1 &&& (255 : Int32)).toUInt32.toUInt16.toUInt32.toInt32))), (.int (nar .char ((((p1.toUInt32 >>> ((8 : Int32) &&& 31).toUInt32).toInt32) &&& (255 : Int32)).toUInt32.toUInt16.toUInt32.toInt32)))] := Ara.same (j := (1 : Int32)) Ar241 q241 ll241 ff241 oo241 (fits_nar_char _) W241
    have F242 := F240.wr W241
    have K241 := K239.wr W241 (Or.inr Zh237)
    have N241 := Fr.snoc X241 N239 Zs237
    have Z241 := Nat.le_trans Z239 (Nat.le_of_eq W241.size.symm)
    refine Goes.step (fun t k => st241 t k) ?_
    show Goes _ _ _ _ _ _ _ (T241.setTop (mkF m 69 #[.val (.int p0), .val (.int p1), .val (.int p2), .val (.int x2_0), .val (.int x4_0), .val (.int (0 : Int32)), .val (.int (0 : Int32)), .unset, .unset, .unset, .unset, .unset, .unset, .unset, .unset, .unset] [(.ref b237)]))
    refine Goes.step (fun t k => XS.astore X241.here hx rfl (hb hby at_69) rfl rfl (l' := #[.val (.int p0), .val (.int p1), .val (.int p2), .val (.int x2_0), .val (.int x4_0), .val (.int (0 : Int32)), .val (.int (0 : Int32)), .val (.ref b237), .unset, .unset, .unset, .unset, .unset, .unset, .unset, .unset]) rfl k) ?_
    show Goes _ _ _ _ _ _ _ (T241.setTop (mkF m 71 #[.val (.int p0), .val (.int p1), .val (.int p2), .val (.int x2_0), .val (.int x4_0), .val (.int (0 : Int32)), .val (.int (0 : Int32)), .val (.ref b237), .unset, .unset, .unset, .unset, .unset, .unset, .unset, .unset] []))
    refine Goes.step (fun t k => XS.iconst X241.here hx rfl (hb hby at_71) k) ?_
    show Goes _ _ _ _ _ _ _ (T241.setTop (mkF m 72 #[.val (.int p0), .val (.int p1), .val (.int p2), .val (.int x2_0), .val (.int x4_0), .val (.int (0 : Int32)), .val (.int (0 : Int32)), .val (.ref b237), .unset, .unset, .unset, .unset, .unset, .unset, .unset, .unset] [(.int (2 : Int32))]))
    obtain ⟨T243, h243, k243, X243, e243, E243, A243, st243⟩ := newP X241 hx hZ (hw _ (List.mem_of_getElem? (i := 0) rfl)) e241 (g := (mkF m 72 #[.val (.int p0), .val (.int p1), .val (.int p2), .val (.int x2_0), .val (.int x4_0), .val (.int (0 : Int32)), .val (.int (0 : Int32)), .val (.ref b237), .unset, .unset, .unset, .unset, .unset, .unset, .unset, .unset] [(.int (2 : Int32))])) rfl (hb hby at_72) rfl (by decide) (cap := 2) (by decide) (by decide) (by decide) (by decide)
    obtain ⟨b243, g243⟩ : ∃ z, z = h241.size := ⟨_, rfl⟩
    rw [← g243] at A243 st243
    have ne_b237_b243 : b237 ≠ b243 := Nat.ne_of_lt (Nat.lt_of_lt_of_le V241.lt (Nat.le_of_eq g243.symm))
    have Zs243 : n0 ≤ b243 := Nat.le_trans Z241 (Nat.le_of_eq g243.symm)
    have Zh243 : h0.size ≤ b243 := Nat.le_trans K241.1 (Nat.le_of_eq g243.symm)
    have F244 := F242.ext E243
    have F245 := V241.ext E243
    have K243 := K241.ext E243
    have Z243 := Nat.le_trans Z241 E243.1
    have V243 : Ara Z h243 b243 .char [(.int (0 : Int32)), (.int (0 : Int32))] := Ara.new A243 (by decide) rfl (fun _ q => nomatch q)
    refine Goes.step (fun t k => st243 t k) ?_
    show Goes _ _ _ _ _ _ _ (T243.setTop (mkF m 74 #[.val (.int p0), .val (.int p1), .val (.int p2), .val (.int x2_0), .val (.int x4_0), .val (.int (0 : Int32)), .val (.int (0 : Int32)), .val (.ref b237), .unset, .unset, .unset, .unset, .unset, .unset, .unset, .unset] [(.ref b243)]))
    refine Goes.step (fun t k => XS.dup X243.here hx rfl (hb hby at_74) rfl rfl k) ?_
    show Goes _ _ _ _ _ _ _ (T243.setTop (mkF m 75 #[.val (.int p0), .val (.int p1), .val (.int p2), .val (.int x2_0), .val (.int x4_0), .val (.int (0 : Int32)), .val (.int (0 : Int32)), .val (.ref b237), .unset, .unset, .unset, .unset, .unset, .unset, .unset, .unset] [(.ref b243), (.ref b243)]))
    refine Goes.step (fun t k => XS.iconst X243.here hx rfl (hb hby at_75) k) ?_
    show Goes _ _ _ _ _ _ _ (T243.setTop (mkF m 76 #[.val (.int p0), .val (.int p1), .val (.int p2), .val (.int x2_0), .val (.int x4_0), .val (.int (0 : Int32)), .val (.int (0 : Int32)), .val (.ref b237), .unset, .unset, .unset, .unset, .unset, .unset, .unset, .unset] [(.int (0 : Int32)), (.ref b243), (.ref b243)]))
    refine Goes.step (fun t k => XS.iloadN X243.here hx rfl (hb hby at_76) rfl k) ?_
    show Goes _ _ _ _ _ _ _ (T243.setTop (mkF m 77 #[.val (.int p0), .val (.int p1), .val (.int p2), .val (.int x2_0), .val (.int x4_0), .val (.int (0 : Int32)), .val (.int (0 : Int32)), .val (.ref b237), .unset, .unset, .unset, .unset, .unset, .unset, .unset, .unset] [(.int p2), (.int (0 : Int32)), (.ref b243), (.ref b243)]))
    refine Goes.step (fun t k => XS.sipush X243.here hx rfl (hb hby at_77) k) ?_
    show Goes _ _ _ _ _ _ _ (T243.setTop (mkF m 80 #[.val (.int p0), .val (.int p1), .val (.int p2), .val (.int x2_0), .val (.int x4_0), .val (.int (0 : Int32)), .val (.int (0 : Int32)), .val (.ref b237), .unset, .unset, .unset, .unset, .unset, .unset, .unset, .unset] [(.int (255 : Int32)), (.int p2), (.int (0 : Int32)), (.ref b243), (.ref b243)]))
    refine Goes.step (fun t k => XS.iand X243.here hx rfl (hb hby at_80) rfl k) ?_
    show Goes _ _ _ _ _ _ _ (T243.setTop (mkF m 81 #[.val (.int p0), .val (.int p1), .val (.int p2), .val (.int x2_0), .val (.int x4_0), .val (.int (0 : Int32)), .val (.int (0 : Int32)), .val (.ref b237), .unset, .unset, .unset, .unset, .unset, .unset, .unset, .unset] [(.int (p2 &&& (255 : Int32))), (.int (0 : Int32)), (.ref b243), (.ref b243)]))
    refine Goes.step (fun t k => XS.i2c X243.here hx rfl (hb hby at_81) rfl k) ?_
    show Goes _ _ _ _ _ _ _ (T243.setTop (mkF m 82 #[.val (.int p0), .val (.int p1), .val (.int p2), .val (.int x2_0), .val (.int x4_0), .val (.int (0 : Int32)), .val (.int (0 : Int32)), .val (.ref b237), .unset, .unset, .unset, .unset, .unset, .unset, .unset, .unset] [(.int ((p2 &&& (255 : Int32)).toUInt32.toUInt16.toUInt32.toInt32)), (.int (0 : Int32)), (.ref b243), (.ref b243)]))
    obtain ⟨cl246, Ar246, q246, ll246, ff246, oo246⟩ := id V243
    have hn246 : ¬ (0 : Int32) < 0 := by decide
    have hl246 : ((0 : Int32)).toNatClampNeg < ([(.int (0 : Int32)), (.int (0 : Int32))] : List Value).length := by exact Nat.le_of_ble_eq_true rfl
    obtain ⟨T246, h246, X246, e246, W246, st246⟩ := stC X243 hx hZ e243 Ar246 (j := (0 : Int32)) (inb q246 hn246 hl246) (g := (mkF m 82 #[.val (.int p0), .val (.int p1), .val (.int p2), .val (.int x2_0), .val (.int x4_0), .val (.int (0 : Int32)), .val (.int (0 : Int32)), .val (.ref b237), .unset, .unset, .unset, .unset, .unset, .unset, .unset, .unset] [(.int ((p2 &&& (255 : Int32)).toUInt32.toUInt16.toUInt32.toInt32)), (.int (0 : Int32)), (.ref b243), (.ref b243)])) rfl rfl (hb hby at_82)
    have V246 : Ara Z h246 b243 .char [(.int (nar .char ((p2 &&& (255 : Int32)).toUInt32.toUInt16.toUInt32.toInt32))), (.int (0 : Int32))] := Ara.same (j := (0 : Int32)) Ar246 q246 ll246 ff246 oo246 (fits_nar_char _) W246
    have F247 := F244.wr W246
    have F248 := F245.other W246 ne_b237_b243
    have K246 := K243.wr W246 (Or.inr Zh243)
    have N246 := Fr.snoc X246 N241 Zs243
    have Z246 := Nat.le_trans Z243 (Nat.le_of_eq W246.size.symm)
    refine Goes.step (fun t k => st246 t k) ?_
    show Goes _ _ _ _ _ _ _ (T246.setTop (mkF m 83 #[.val (.int p0), .val (.int p1), .val (.int p2), .val (.int x2_0), .val (.int x4_0), .val (.int (0 : Int32)), .val (.int (0 : Int32)), .val (.ref b237), .unset, .unset, .unset, .unset, .unset, .unset, .unset, .unset] [(.ref b243)]))
    refine Goes.step (fun t k => XS.dup X246.here hx rfl (hb hby at_83) rfl rfl k) ?_
    show Goes _ _ _ _ _ _ _ (T246.setTop (mkF m 84 #[.val (.int p0), .val (.int p1), .val (.int p2), .val (.int x2_0), .val (.int x4_0), .val (.int (0 : Int32)), .val (.int (0 : Int32)), .val (.ref b237), .unset, .unset, .unset, .unset, .unset, .unset, .unset, .unset] [(.ref b243), (.ref b243)]))
    refine Goes.step (fun t k => XS.iconst X246.here hx rfl (hb hby at_84) k) ?_
    show Goes _ _ _ _ _ _ _ (T246.setTop (mkF m 85 #[.val (.int p0), .val (.int p1), .val (.int p2), .val (.int x2_0), .val (.int x4_0), .val (.int (0 : Int32)), .val (.int (0 : Int32)), .val (.ref b237), .unset, .unset, .unset, .unset, .unset, .unset, .unset, .unset] [(.int (1 : Int32)), (.ref b243), (.ref b243)]))
    refine Goes.step (fun t k => XS.iloadN X246.here hx rfl (hb hby at_85) rfl k) ?_
    show Goes _ _ _ _ _ _ _ (T246.setTop (mkF m 86 #[.val (.int p0), .val (.int p1), .val (.int p2), .val (.int x2_0), .val (.int x4_0), .val (.int (0 : Int32)), .val (.int (0 : Int32)), .val (.ref b237), .unset, .unset, .unset, .unset, .unset, .unset, .unset, .unset] [(.int p2), (.int (1 : Int32)), (.ref b243), (.ref b243)]))
    refine Goes.step (fun t k => XS.bipush X246.here hx rfl (hb hby at_86) k) ?_
    show Goes _ _ _ _ _ _ _ (T246.setTop (mkF m 88 #[.val (.int p0), .val (.int p1), .val (.int p2), .val (.int x2_0), .val (.int x4_0), .val (.int (0 : Int32)), .val (.int (0 : Int32)), .val (.ref b237), .unset, .unset, .unset, .unset, .unset, .unset, .unset, .unset] [(.int (8 : Int32)), (.int p2), (.int (1 : Int32)), (.ref b243), (.ref b243)]))
    refine Goes.step (fun t k => XS.iushr X246.here hx rfl (hb hby at_88) rfl k) ?_
    show Goes _ _ _ _ _ _ _ (T246.setTop (mkF m 89 #[.val (.int p0), .val (.int p1), .val (.int p2), .val (.int x2_0), .val (.int x4_0), .val (.int (0 : Int32)), .val (.int (0 : Int32)), .val (.ref b237), .unset, .unset, .unset, .unset, .unset, .unset, .unset, .unset] [(.int ((p2.toUInt32 >>> ((8 : Int32) &&& 31).toUInt32).toInt32)), (.int (1 : Int32)), (.ref b243), (.ref b243)]))
    refine Goes.step (fun t k => XS.sipush X246.here hx rfl (hb hby at_89) k) ?_
    show Goes _ _ _ _ _ _ _ (T246.setTop (mkF m 92 #[.val (.int p0), .val (.int p1), .val (.int p2), .val (.int x2_0), .val (.int x4_0), .val (.int (0 : Int32)), .val (.int (0 : Int32)), .val (.ref b237), .unset, .unset, .unset, .unset, .unset, .unset, .unset, .unset] [(.int (255 : Int32)), (.int ((p2.toUInt32 >>> ((8 : Int32) &&& 31).toUInt32).toInt32)), (.int (1 : Int32)), (.ref b243), (.ref b243)]))
    refine Goes.step (fun t k => XS.iand X246.here hx rfl (hb hby at_92) rfl k) ?_
    show Goes _ _ _ _ _ _ _ (T246.setTop (mkF m 93 #[.val (.int p0), .val (.int p1), .val (.int p2), .val (.int x2_0), .val (.int x4_0), .val (.int (0 : Int32)), .val (.int (0 : Int32)), .val (.ref b237), .unset, .unset, .unset, .unset, .unset, .unset, .unset, .unset] [(.int (((p2.toUInt32 >>> ((8 : Int32) &&& 31).toUInt32).toInt32) &&& (255 : Int32))), (.int (1 : Int32)), (.ref b243), (.ref b243)]))
    refine Goes.step (fun t k => XS.i2c X246.here hx rfl (hb hby at_93) rfl k) ?_
    show Goes _ _ _ _ _ _ _ (T246.setTop (mkF m 94 #[.val (.int p0), .val (.int p1), .val (.int p2), .val (.int x2_0), .val (.int x4_0), .val (.int (0 : Int32)), .val (.int (0 : Int32)), .val (.ref b237), .unset, .unset, .unset, .unset, .unset, .unset, .unset, .unset] [(.int ((((p2.toUInt32 >>> ((8 : Int32) &&& 31).toUInt32).toInt32) &&& (255 : Int32)).toUInt32.toUInt16.toUInt32.toInt32)), (.int (1 : Int32)), (.ref b243), (.ref b243)]))
    obtain ⟨cl249, Ar249, q249, ll249, ff249, oo249⟩ := id V246
    have hn249 : ¬ (1 : Int32) < 0 := by decide
    have hl249 : ((1 : Int32)).toNatClampNeg < ([(.int (nar .char ((p2 &&& (255 : Int32)).toUInt32.toUInt16.toUInt32.toInt32))), (.int (0 : Int32))] : List Value).length := by exact Nat.le_of_ble_eq_true rfl
    obtain ⟨T249, h249, X249, e249, W249, st249⟩ := stC X246 hx hZ e246 Ar249 (j := (1 : Int32)) (inb q249 hn249 hl249) (g := (mkF m 94 #[.val (.int p0), .val (.int p1), .val (.int p2), .val (.int x2_0), .val (.int x4_0), .val (.int (0 : Int32)), .val (.int (0 : Int32)), .val (.ref b237), .unset, .unset, .unset, .unset, .unset, .unset, .unset, .unset] [(.int ((((p2.toUInt32 >>> ((8 : Int32) &&& 31).toUInt32).toInt32) &&& (255 : Int32)).toUInt32.toUInt16.toUInt32.toInt32)), (.int (1 : Int32)), (.ref b243), (.ref b243)])) rfl rfl (hb hby at_94)
    have V249 : Ara Z h249 b243 .char [(.int (nar .char ((p2 &&& (255 : Int32)).toUInt32.toUInt16.toUInt32.toInt32))), (.int (nar .char ((((p2.toUInt32 >>> ((8 : Int32) &&& 31).toUInt32).toInt32) &&& (255 : Int32)).toUInt32.toUInt16.toUInt32.toInt32)))] := Ara.same (j := (1 : Int32)) Ar249 q249 ll249 ff249 oo249 (fits_nar_char _) W249
    have F250 := F247.wr W249
    have F251 := F248.other W249 ne_b237_b243
    have K249 := K246.wr W249 (Or.inr Zh243)
    have N249 := Fr.snoc X249 N246 Zs243
    have Z249 := Nat.le_trans Z246 (Nat.le_of_eq W249.size.symm)
    refine Goes.step (fun t k => st249 t k) ?_
    show Goes _ _ _ _ _ _ _ (T249.setTop (mkF m 95 #[.val (.int p0), .val (.int p1), .val (.int p2), .val (.int x2_0), .val (.int x4_0), .val (.int (0 : Int32)), .val (.int (0 : Int32)), .val (.ref b237), .unset, .unset, .unset, .unset, .unset, .unset, .unset, .unset] [(.ref b243)]))
    refine Goes.step (fun t k => XS.astore X249.here hx rfl (hb hby at_95) rfl rfl (l' := #[.val (.int p0), .val (.int p1), .val (.int p2), .val (.int x2_0), .val (.int x4_0), .val (.int (0 : Int32)), .val (.int (0 : Int32)), .val (.ref b237), .val (.ref b243), .unset, .unset, .unset, .unset, .unset, .unset, .unset]) rfl k) ?_
    show Goes _ _ _ _ _ _ _ (T249.setTop (mkF m 97 #[.val (.int p0), .val (.int p1), .val (.int p2), .val (.int x2_0), .val (.int x4_0), .val (.int (0 : Int32)), .val (.int (0 : Int32)), .val (.ref b237), .val (.ref b243), .unset, .unset, .unset, .unset, .unset, .unset, .unset] []))
    obtain ⟨T252, h252, X252, e252, E252, A252, D252, -, st252⟩ := newO X249 hx hZ hown (hw _ (List.mem_of_getElem? (i := 1) rfl)) (hw _ (List.mem_of_getElem? (i := 2) rfl)) (hw _ (List.mem_of_getElem? (i := 3) rfl)) e249 (g := (mkF m 97 #[.val (.int p0), .val (.int p1), .val (.int p2), .val (.int x2_0), .val (.int x4_0), .val (.int (0 : Int32)), .val (.int (0 : Int32)), .val (.ref b237), .val (.ref b243), .unset, .unset, .unset, .unset, .unset, .unset, .unset] [])) rfl (hb hby at_97) (by decide) (by decide)
    obtain ⟨b252, g252⟩ : ∃ z, z = h249.size := ⟨_, rfl⟩
    rw [← g252] at A252 D252 st252
    have ne_b237_b252 : b237 ≠ b252 := Nat.ne_of_lt (Nat.lt_of_lt_of_le F251.lt (Nat.le_of_eq g252.symm))
    have ne_b243_b252 : b243 ≠ b252 := Nat.ne_of_lt (Nat.lt_of_lt_of_le V249.lt (Nat.le_of_eq g252.symm))
    have Zs252 : n0 ≤ b252 := Nat.le_trans Z249 (Nat.le_of_eq g252.symm)
    have Zh252 : h0.size ≤ b252 := Nat.le_trans K249.1 (Nat.le_of_eq g252.symm)
    have F253 := F250.ext E252
    have F254 := F251.ext E252
    have F255 := V249.ext E252
    have K252 := K249.ext E252
    have Z252 := Nat.le_trans Z249 E252.1
    have F256 : Fld Z h252 b252 "java/lang/String" "coder" "B" (.int (0 : Int32)) := D252 (Or.inr (hw _ (List.mem_of_getElem? (i := 27) rfl))) (ty := .byte) (by decide)
    have F257 : Fld Z h252 b252 "java/lang/String" "value" "[B" .null := D252 (Or.inr (hw _ (List.mem_of_getElem? (i := 29) rfl))) (ty := (.array .byte)) (by decide)
    refine Goes.step (fun t k => st252 t k) ?_
    show Goes _ _ _ _ _ _ _ (T252.setTop (mkF m 100 #[.val (.int p0), .val (.int p1), .val (.int p2), .val (.int x2_0), .val (.int x4_0), .val (.int (0 : Int32)), .val (.int (0 : Int32)), .val (.ref b237), .val (.ref b243), .unset, .unset, .unset, .unset, .unset, .unset, .unset] [(.ref b252)]))
    refine Goes.step (fun t k => XS.dup X252.here hx rfl (hb hby at_100) rfl rfl k) ?_
    show Goes _ _ _ _ _ _ _ (T252.setTop (mkF m 101 #[.val (.int p0), .val (.int p1), .val (.int p2), .val (.int x2_0), .val (.int x4_0), .val (.int (0 : Int32)), .val (.int (0 : Int32)), .val (.ref b237), .val (.ref b243), .unset, .unset, .unset, .unset, .unset, .unset, .unset] [(.ref b252), (.ref b252)]))
    refine Goes.step (fun t k => XS.aload X252.here hx rfl (hb hby at_101) rfl rfl k) ?_
    show Goes _ _ _ _ _ _ _ (T252.setTop (mkF m 103 #[.val (.int p0), .val (.int p1), .val (.int p2), .val (.int x2_0), .val (.int x4_0), .val (.int (0 : Int32)), .val (.int (0 : Int32)), .val (.ref b237), .val (.ref b243), .unset, .unset, .unset, .unset, .unset, .unset, .unset] [(.ref b237), (.ref b252), (.ref b252)]))
    obtain ⟨kc258, Kc258⟩ := own_arv (N := (2 : Int32)) (.int (0 : Int32)) F254 (by decide) rfl
    have hlat258 : ∀ c ∈ [(nar .char ((p1 &&& (255 : Int32)).toUInt32.toUInt16.toUInt32.toInt32)), (nar .char ((((p1.toUInt32 >>> ((8 : Int32) &&& 31).toUInt32).toInt32) &&& (255 : Int32)).toUInt32.toUInt16.toUInt32.toInt32))], ¬ c < 0 ∧ ¬ (255 : Int32) < c := by
      intro c hc
      simp only [List.mem_cons, List.not_mem_nil, or_false] at hc
      rcases hc with rfl | rfl <;> exact own_lat _
    obtain ⟨_, _, ⟨T258, L258, k258, n258⟩, -, X258, ⟨Lc258, hQ258, l258, y258, z258⟩, st258⟩ := X252.specialBack hx (y := (⟨"java/lang/String", "<init>", "([C)V"⟩ : MethodName)) rfl hown (mvT hZ (hw _ (List.mem_of_getElem? (i := 4) rfl))) (mvT hZ (hw _ (List.mem_of_getElem? (i := 5) rfl))) (mvT hZ (hw _ (List.mem_of_getElem? (i := 6) rfl))) (by decide) (StrChars.Road.backV (W := 1) hZ hws (kI := 4) (hw _ (List.mem_of_getElem? (i := 2) rfl)) (cs := [(nar .char ((p1 &&& (255 : Int32)).toUInt32.toUInt16.toUInt32.toInt32)), (nar .char ((((p1.toUInt32 >>> ((8 : Int32) &&& 31).toUInt32).toInt32) &&& (255 : Int32)).toUInt32.toUInt16.toUInt32.toInt32))]) (bs := [((nar .char ((p1 &&& (255 : Int32)).toUInt32.toUInt16.toUInt32.toInt32))).toInt8.toInt32, ((nar .char ((((p1.toUInt32 >>> ((8 : Int32) &&& 31).toUInt32).toInt32) &&& (255 : Int32)).toUInt32.toUInt16.toUInt32.toInt32))).toInt8.toInt32]) (n := 2) (n0 := n0) Zs252 Z252 A252 F257 F256 Kc258 F253 P3 rfl rfl (by decide) (by decide) hlat258 rfl (by decide) (by decide)) (g := (mkF m 103 #[.val (.int p0), .val (.int p1), .val (.int p2), .val (.int x2_0), .val (.int x4_0), .val (.int (0 : Int32)), .val (.int (0 : Int32)), .val (.ref b237), .val (.ref b243), .unset, .unset, .unset, .unset, .unset, .unset, .unset] [(.ref b237), (.ref b252), (.ref b252)])) rfl (by rw [hml]; rfl) (Steps.refl _) (a := b252) (argsL := [(.ref b237)]) (rest := [(.ref b252)]) (lenOf own_pd0 rfl) rfl (by show 2 * 0 + _ ≤ _; exact Nat.le_of_eq rfl) (hb hby at_103) (fun _ _ => ⟨rfl, e252, (by decide : 3 + 1 ≤ _), (by decide : 8 + 2 ≤ _)⟩)
    dsimp only [Pt.U, Pt.locs, Pt.cells, Pt.slots] at X258 l258 y258 z258 st258 hQ258
    rw [l258, y258, z258] at X258
    replace hQ258 := own_qv hQ258
    generalize e258 : T258.heap = h258 at hQ258
    obtain ⟨rfl, Nq258, Kq258, G258_0⟩ := hQ258
    have F259 := own_sta_keep F253 Kq258 (allS (notsta_exa A252) all0)
    have F260 := F254.keep Kq258 (ninS ne_b237_b252 nin0)
    have F261 := F255.keep Kq258 (ninS ne_b243_b252 nin0)
    have N258 := Fr.app N249 Nq258
    have K258 := K252.trans Kq258 (allS (Or.inr Zh252) all0)
    have Z258 := Nat.le_trans Z252 Kq258.1
    change Stand _ _ _ _ _ _ _ _ _ _ _ _ 4 10 at X258
    refine Goes.step (fun t k => st258.trans k) ?_
    show Goes _ _ _ _ _ _ _ (T258.setTop (mkF m 106 #[.val (.int p0), .val (.int p1), .val (.int p2), .val (.int x2_0), .val (.int x4_0), .val (.int (0 : Int32)), .val (.int (0 : Int32)), .val (.ref b237), .val (.ref b243), .unset, .unset, .unset, .unset, .unset, .unset, .unset] [(.ref b252)]))
    refine Goes.step (fun t k => XS.astore X258.here hx rfl (hb hby at_106) rfl rfl (l' := #[.val (.int p0), .val (.int p1), .val (.int p2), .val (.int x2_0), .val (.int x4_0), .val (.int (0 : Int32)), .val (.int (0 : Int32)), .val (.ref b237), .val (.ref b243), .val (.ref b252), .unset, .unset, .unset, .unset, .unset, .unset]) rfl k) ?_
    show Goes _ _ _ _ _ _ _ (T258.setTop (mkF m 108 #[.val (.int p0), .val (.int p1), .val (.int p2), .val (.int x2_0), .val (.int x4_0), .val (.int (0 : Int32)), .val (.int (0 : Int32)), .val (.ref b237), .val (.ref b243), .val (.ref b252), .unset, .unset, .unset, .unset, .unset, .unset] []))
    refine Goes.step (fun t k => XS.iload X258.here hx rfl (hb hby at_108) rfl k) ?_
    show Goes _ _ _ _ _ _ _ (T258.setTop (mkF m 110 #[.val (.int p0), .val (.int p1), .val (.int p2), .val (.int x2_0), .val (.int x4_0), .val (.int (0 : Int32)), .val (.int (0 : Int32)), .val (.ref b237), .val (.ref b243), .val (.ref b252), .unset, .unset, .unset, .unset, .unset, .unset] [(.int (0 : Int32))]))
    refine Goes.step (fun t k => XS.ifYes X258.here hx rfl (pc0 := 110) (pc' := 118) rfl (hb hby at_110) rfl ((if0 _ _).trans (teq (by decide)).1) (by decide) (by decide) k) ?_
    show Goes _ _ _ _ _ _ _ (T258.setTop (mkF m 118 #[.val (.int p0), .val (.int p1), .val (.int p2), .val (.int x2_0), .val (.int x4_0), .val (.int (0 : Int32)), .val (.int (0 : Int32)), .val (.ref b237), .val (.ref b243), .val (.ref b252), .unset, .unset, .unset, .unset, .unset, .unset] []))
    obtain ⟨T263, h263, X263, e263, E263, A263, D263, -, st263⟩ := newO X258 hx hZ hown (hw _ (List.mem_of_getElem? (i := 1) rfl)) (hw _ (List.mem_of_getElem? (i := 2) rfl)) (hw _ (List.mem_of_getElem? (i := 3) rfl)) e258 (g := (mkF m 118 #[.val (.int p0), .val (.int p1), .val (.int p2), .val (.int x2_0), .val (.int x4_0), .val (.int (0 : Int32)), .val (.int (0 : Int32)), .val (.ref b237), .val (.ref b243), .val (.ref b252), .unset, .unset, .unset, .unset, .unset, .unset] [])) rfl (hb hby at_118) (by decide) (by decide)
    obtain ⟨b263, g263⟩ : ∃ z, z = h258.size := ⟨_, rfl⟩
    rw [← g263] at A263 D263 st263
    have ne_b237_b263 : b237 ≠ b263 := Nat.ne_of_lt (Nat.lt_of_lt_of_le F260.lt (Nat.le_of_eq g263.symm))
    have ne_b243_b263 : b243 ≠ b263 := Nat.ne_of_lt (Nat.lt_of_lt_of_le F261.lt (Nat.le_of_eq g263.symm))
    have ne_b252_b263 : b252 ≠ b263 := Nat.ne_of_lt (Nat.lt_of_lt_of_le G258_0.lt (Nat.le_of_eq g263.symm))
    have Zs263 : n0 ≤ b263 := Nat.le_trans Z258 (Nat.le_of_eq g263.symm)
    have Zh263 : h0.size ≤ b263 := Nat.le_trans K258.1 (Nat.le_of_eq g263.symm)
    have F264 := F259.ext E263
    have F265 := F260.ext E263
    have F266 := F261.ext E263
    have F267 := G258_0.ext E263
    have K263 := K258.ext E263
    have Z263 := Nat.le_trans Z258 E263.1
    have F268 : Fld Z h263 b263 "java/lang/String" "coder" "B" (.int (0 : Int32)) := D263 (Or.inr (hw _ (List.mem_of_getElem? (i := 27) rfl))) (ty := .byte) (by decide)
    have F269 : Fld Z h263 b263 "java/lang/String" "value" "[B" .null := D263 (Or.inr (hw _ (List.mem_of_getElem? (i := 29) rfl))) (ty := (.array .byte)) (by decide)
    refine Goes.step (fun t k => st263 t k) ?_
    show Goes _ _ _ _ _ _ _ (T263.setTop (mkF m 121 #[.val (.int p0), .val (.int p1), .val (.int p2), .val (.int x2_0), .val (.int x4_0), .val (.int (0 : Int32)), .val (.int (0 : Int32)), .val (.ref b237), .val (.ref b243), .val (.ref b252), .unset, .unset, .unset, .unset, .unset, .unset] [(.ref b263)]))
    refine Goes.step (fun t k => XS.dup X263.here hx rfl (hb hby at_121) rfl rfl k) ?_
    show Goes _ _ _ _ _ _ _ (T263.setTop (mkF m 122 #[.val (.int p0), .val (.int p1), .val (.int p2), .val (.int x2_0), .val (.int x4_0), .val (.int (0 : Int32)), .val (.int (0 : Int32)), .val (.ref b237), .val (.ref b243), .val (.ref b252), .unset, .unset, .unset, .unset, .unset, .unset] [(.ref b263), (.ref b263)]))
    refine Goes.step (fun t k => XS.aload X263.here hx rfl (hb hby at_122) rfl rfl k) ?_
    show Goes _ _ _ _ _ _ _ (T263.setTop (mkF m 124 #[.val (.int p0), .val (.int p1), .val (.int p2), .val (.int x2_0), .val (.int x4_0), .val (.int (0 : Int32)), .val (.int (0 : Int32)), .val (.ref b237), .val (.ref b243), .val (.ref b252), .unset, .unset, .unset, .unset, .unset, .unset] [(.ref b243), (.ref b263), (.ref b263)]))
    obtain ⟨kc270, Kc270⟩ := own_arv (N := (2 : Int32)) (.int (0 : Int32)) F266 (by decide) rfl
    have hlat270 : ∀ c ∈ [(nar .char ((p2 &&& (255 : Int32)).toUInt32.toUInt16.toUInt32.toInt32)), (nar .char ((((p2.toUInt32 >>> ((8 : Int32) &&& 31).toUInt32).toInt32) &&& (255 : Int32)).toUInt32.toUInt16.toUInt32.toInt32))], ¬ c < 0 ∧ ¬ (255 : Int32) < c := by
      intro c hc
      simp only [List.mem_cons, List.not_mem_nil, or_false] at hc
      rcases hc with rfl | rfl <;> exact own_lat _
    obtain ⟨_, _, ⟨T270, L270, k270, n270⟩, -, X270, ⟨Lc270, hQ270, l270, y270, z270⟩, st270⟩ := X263.specialBack hx (y := (⟨"java/lang/String", "<init>", "([C)V"⟩ : MethodName)) rfl hown (mvT hZ (hw _ (List.mem_of_getElem? (i := 4) rfl))) (mvT hZ (hw _ (List.mem_of_getElem? (i := 5) rfl))) (mvT hZ (hw _ (List.mem_of_getElem? (i := 6) rfl))) (by decide) (StrChars.Road.backV (W := 1) hZ hws (kI := 4) (hw _ (List.mem_of_getElem? (i := 2) rfl)) (cs := [(nar .char ((p2 &&& (255 : Int32)).toUInt32.toUInt16.toUInt32.toInt32)), (nar .char ((((p2.toUInt32 >>> ((8 : Int32) &&& 31).toUInt32).toInt32) &&& (255 : Int32)).toUInt32.toUInt16.toUInt32.toInt32))]) (bs := [((nar .char ((p2 &&& (255 : Int32)).toUInt32.toUInt16.toUInt32.toInt32))).toInt8.toInt32, ((nar .char ((((p2.toUInt32 >>> ((8 : Int32) &&& 31).toUInt32).toInt32) &&& (255 : Int32)).toUInt32.toUInt16.toUInt32.toInt32))).toInt8.toInt32]) (n := 2) (n0 := n0) Zs263 Z263 A263 F269 F268 Kc270 F264 P3 rfl rfl (by decide) (by decide) hlat270 rfl (by decide) (by decide)) (g := (mkF m 124 #[.val (.int p0), .val (.int p1), .val (.int p2), .val (.int x2_0), .val (.int x4_0), .val (.int (0 : Int32)), .val (.int (0 : Int32)), .val (.ref b237), .val (.ref b243), .val (.ref b252), .unset, .unset, .unset, .unset, .unset, .unset] [(.ref b243), (.ref b263), (.ref b263)])) rfl (by rw [hml]; rfl) (Steps.refl _) (a := b263) (argsL := [(.ref b243)]) (rest := [(.ref b263)]) (lenOf own_pd0 rfl) rfl (by show 2 * 0 + _ ≤ _; exact Nat.le_of_eq rfl) (hb hby at_124) (fun _ _ => ⟨rfl, e263, (by decide : 5 + 1 ≤ _), (by decide : 14 + 2 ≤ _)⟩)
    dsimp only [Pt.U, Pt.locs, Pt.cells, Pt.slots] at X270 l270 y270 z270 st270 hQ270
    rw [l270, y270, z270] at X270
    replace hQ270 := own_qv hQ270
    generalize e270 : T270.heap = h270 at hQ270
    obtain ⟨rfl, Nq270, Kq270, G270_0⟩ := hQ270
    have F271 := own_sta_keep F264 Kq270 (allS (notsta_exa A263) all0)
    have F272 := F265.keep Kq270 (ninS ne_b237_b263 nin0)
    have F273 := F266.keep Kq270 (ninS ne_b243_b263 nin0)
    have F274 := F267.keep Kq270
    have N270 := Fr.app N258 Nq270
    have K270 := K263.trans Kq270 (allS (Or.inr Zh263) all0)
    have Z270 := Nat.le_trans Z263 Kq270.1
    change Stand _ _ _ _ _ _ _ _ _ _ _ _ 6 16 at X270
    refine Goes.step (fun t k => st270.trans k) ?_
    show Goes _ _ _ _ _ _ _ (T270.setTop (mkF m 127 #[.val (.int p0), .val (.int p1), .val (.int p2), .val (.int x2_0), .val (.int x4_0), .val (.int (0 : Int32)), .val (.int (0 : Int32)), .val (.ref b237), .val (.ref b243), .val (.ref b252), .unset, .unset, .unset, .unset, .unset, .unset] [(.ref b263)]))
    refine Goes.step (fun t k => XS.astore X270.here hx rfl (hb hby at_127) rfl rfl (l' := #[.val (.int p0), .val (.int p1), .val (.int p2), .val (.int x2_0), .val (.int x4_0), .val (.int (0 : Int32)), .val (.int (0 : Int32)), .val (.ref b237), .val (.ref b243), .val (.ref b252), .val (.ref b263), .unset, .unset, .unset, .unset, .unset]) rfl k) ?_
    show Goes _ _ _ _ _ _ _ (T270.setTop (mkF m 129 #[.val (.int p0), .val (.int p1), .val (.int p2), .val (.int x2_0), .val (.int x4_0), .val (.int (0 : Int32)), .val (.int (0 : Int32)), .val (.ref b237), .val (.ref b243), .val (.ref b252), .val (.ref b263), .unset, .unset, .unset, .unset, .unset] []))
    obtain ⟨T275, h275, X275, e275, E275, A275, D275, -, st275⟩ := newO X270 hx hZ hown (hw _ (List.mem_of_getElem? (i := 30) rfl)) (hw _ (List.mem_of_getElem? (i := 31) rfl)) (hw _ (List.mem_of_getElem? (i := 32) rfl)) e270 (g := (mkF m 129 #[.val (.int p0), .val (.int p1), .val (.int p2), .val (.int x2_0), .val (.int x4_0), .val (.int (0 : Int32)), .val (.int (0 : Int32)), .val (.ref b237), .val (.ref b243), .val (.ref b252), .val (.ref b263), .unset, .unset, .unset, .unset, .unset] [])) rfl (hb hby at_129) (by decide) (by decide)
    obtain ⟨b275, g275⟩ : ∃ z, z = h270.size := ⟨_, rfl⟩
    rw [← g275] at A275 D275 st275
    have ne_b237_b275 : b237 ≠ b275 := Nat.ne_of_lt (Nat.lt_of_lt_of_le F272.lt (Nat.le_of_eq g275.symm))
    have ne_b243_b275 : b243 ≠ b275 := Nat.ne_of_lt (Nat.lt_of_lt_of_le F273.lt (Nat.le_of_eq g275.symm))
    have ne_b252_b275 : b252 ≠ b275 := Nat.ne_of_lt (Nat.lt_of_lt_of_le F274.lt (Nat.le_of_eq g275.symm))
    have ne_b263_b275 : b263 ≠ b275 := Nat.ne_of_lt (Nat.lt_of_lt_of_le G270_0.lt (Nat.le_of_eq g275.symm))
    have Zs275 : n0 ≤ b275 := Nat.le_trans Z270 (Nat.le_of_eq g275.symm)
    have Zh275 : h0.size ≤ b275 := Nat.le_trans K270.1 (Nat.le_of_eq g275.symm)
    have F276 := F271.ext E275
    have F277 := F272.ext E275
    have F278 := F273.ext E275
    have F279 := F274.ext E275
    have F280 := G270_0.ext E275
    have K275 := K270.ext E275
    have Z275 := Nat.le_trans Z270 E275.1
    have F281 : Fld Z h275 b275 "com/example/vigilant_schema/vigilantschema/Node$BooleanNode" "value" "Z" (.int (0 : Int32)) := D275 (Or.inr (hw _ (List.mem_of_getElem? (i := 38) rfl))) (ty := .boolean) (by decide)
    have F282 : Fld Z h275 b275 "com/example/vigilant_schema/vigilantschema/Node$BooleanNode" "written" "Ljava/lang/String;" .null := D275 (Or.inr (hw _ (List.mem_of_getElem? (i := 40) rfl))) (ty := (.object "java/lang/String")) (by decide)
    refine Goes.step (fun t k => st275 t k) ?_
    show Goes _ _ _ _ _ _ _ (T275.setTop (mkF m 132 #[.val (.int p0), .val (.int p1), .val (.int p2), .val (.int x2_0), .val (.int x4_0), .val (.int (0 : Int32)), .val (.int (0 : Int32)), .val (.ref b237), .val (.ref b243), .val (.ref b252), .val (.ref b263), .unset, .unset, .unset, .unset, .unset] [(.ref b275)]))
    refine Goes.step (fun t k => XS.dup X275.here hx rfl (hb hby at_132) rfl rfl k) ?_
    show Goes _ _ _ _ _ _ _ (T275.setTop (mkF m 133 #[.val (.int p0), .val (.int p1), .val (.int p2), .val (.int x2_0), .val (.int x4_0), .val (.int (0 : Int32)), .val (.int (0 : Int32)), .val (.ref b237), .val (.ref b243), .val (.ref b252), .val (.ref b263), .unset, .unset, .unset, .unset, .unset] [(.ref b275), (.ref b275)]))
    refine Goes.step (fun t k => XS.iloadN X275.here hx rfl (hb hby at_133) rfl k) ?_
    show Goes _ _ _ _ _ _ _ (T275.setTop (mkF m 134 #[.val (.int p0), .val (.int p1), .val (.int p2), .val (.int x2_0), .val (.int x4_0), .val (.int (0 : Int32)), .val (.int (0 : Int32)), .val (.ref b237), .val (.ref b243), .val (.ref b252), .val (.ref b263), .unset, .unset, .unset, .unset, .unset] [(.int x2_0), (.ref b275), (.ref b275)]))
    refine Goes.step (fun t k => XS.aload X275.here hx rfl (hb hby at_134) rfl rfl k) ?_
    show Goes _ _ _ _ _ _ _ (T275.setTop (mkF m 136 #[.val (.int p0), .val (.int p1), .val (.int p2), .val (.int x2_0), .val (.int x4_0), .val (.int (0 : Int32)), .val (.int (0 : Int32)), .val (.ref b237), .val (.ref b243), .val (.ref b252), .val (.ref b263), .unset, .unset, .unset, .unset, .unset] [(.ref b252), (.int x2_0), (.ref b275), (.ref b275)]))
    obtain ⟨_, _, ⟨T283, L283, k283, n283⟩, -, X283, ⟨Lc283, hQ283, l283, y283, z283⟩, st283⟩ := X275.specialBack hx (y := (⟨"com/example/vigilant_schema/vigilantschema/Node$BooleanNode", "<init>", "(ZLjava/lang/String;)V"⟩ : MethodName)) rfl hown (mvT hZ (hw _ (List.mem_of_getElem? (i := 33) rfl))) (mvT hZ (hw _ (List.mem_of_getElem? (i := 34) rfl))) (mvT hZ (hw _ (List.mem_of_getElem? (i := 35) rfl))) (by decide) (backOf (W := 1) (rm7 l Z tA hw [] b275 x2_0 b252 h275 n0 Z275 A275 F281 F282 Zs275) hZ (hw _ (List.mem_of_getElem? (i := 35) rfl)) (hw _ (List.mem_of_getElem? (i := 32) rfl)) (by decide) (by decide)) (g := (mkF m 136 #[.val (.int p0), .val (.int p1), .val (.int p2), .val (.int x2_0), .val (.int x4_0), .val (.int (0 : Int32)), .val (.int (0 : Int32)), .val (.ref b237), .val (.ref b243), .val (.ref b252), .val (.ref b263), .unset, .unset, .unset, .unset, .unset] [(.ref b252), (.int x2_0), (.ref b275), (.ref b275)])) rfl (by rw [hml]; rfl) (Steps.refl _) (a := b275) (argsL := [(.int x2_0), (.ref b252)]) (rest := [(.ref b275)]) (lenOf own_pd1 rfl) rfl (by show 2 * 0 + _ ≤ _; exact Nat.le_of_eq rfl) (hb hby at_136) (fun _ _ => ⟨rfl, e275, (by decide : 7 + 0 ≤ _), (by decide : 18 + 0 ≤ _)⟩)
    dsimp only [Pt.U, Pt.locs, Pt.cells, Pt.slots] at X283 l283 y283 z283 st283 hQ283
    rw [l283, y283, z283] at X283
    generalize e283 : T283.heap = h283 at hQ283
    obtain ⟨rfl, Nq283, Kq283, G283_0, G283_1, G283_2⟩ := hQ283
    have F284 := own_sta_keep F276 Kq283 (allS (notsta_exa A275) all0)
    have F285 := F277.keep Kq283 (ninS ne_b237_b275 nin0)
    have F286 := F278.keep Kq283 (ninS ne_b243_b275 nin0)
    have F287 := F279.keep Kq283
    have F288 := F280.keep Kq283
    have N283 := Fr.app N270 Nq283
    have K283 := K275.trans Kq283 (allS (Or.inr Zh275) all0)
    have Z283 := Nat.le_trans Z275 Kq283.1
    change Stand _ _ _ _ _ _ _ _ _ _ _ _ 7 18 at X283
    refine Goes.step (fun t k => st283.trans k) ?_
    show Goes _ _ _ _ _ _ _ (T283.setTop (mkF m 139 #[.val (.int p0), .val (.int p1), .val (.int p2), .val (.int x2_0), .val (.int x4_0), .val (.int (0 : Int32)), .val (.int (0 : Int32)), .val (.ref b237), .val (.ref b243), .val (.ref b252), .val (.ref b263), .unset, .unset, .unset, .unset, .unset] [(.ref b275)]))
    refine Goes.step (fun t k => XS.astore X283.here hx rfl (hb hby at_139) rfl rfl (l' := #[.val (.int p0), .val (.int p1), .val (.int p2), .val (.int x2_0), .val (.int x4_0), .val (.int (0 : Int32)), .val (.int (0 : Int32)), .val (.ref b237), .val (.ref b243), .val (.ref b252), .val (.ref b263), .val (.ref b275), .unset, .unset, .unset, .unset]) rfl k) ?_
    show Goes _ _ _ _ _ _ _ (T283.setTop (mkF m 141 #[.val (.int p0), .val (.int p1), .val (.int p2), .val (.int x2_0), .val (.int x4_0), .val (.int (0 : Int32)), .val (.int (0 : Int32)), .val (.ref b237), .val (.ref b243), .val (.ref b252), .val (.ref b263), .val (.ref b275), .unset, .unset, .unset, .unset] []))
    refine Goes.step (fun t k => XS.iconst X283.here hx rfl (hb hby at_141) k) ?_
    show Goes _ _ _ _ _ _ _ (T283.setTop (mkF m 142 #[.val (.int p0), .val (.int p1), .val (.int p2), .val (.int x2_0), .val (.int x4_0), .val (.int (0 : Int32)), .val (.int (0 : Int32)), .val (.ref b237), .val (.ref b243), .val (.ref b252), .val (.ref b263), .val (.ref b275), .unset, .unset, .unset, .unset] [(.int (1 : Int32))]))
    refine Goes.step (fun t k => XS.istore X283.here hx rfl (hb hby at_142) rfl (l' := #[.val (.int p0), .val (.int p1), .val (.int p2), .val (.int x2_0), .val (.int x4_0), .val (.int (0 : Int32)), .val (.int (0 : Int32)), .val (.ref b237), .val (.ref b243), .val (.ref b252), .val (.ref b263), .val (.ref b275), .unset, .unset, .val (.int (1 : Int32)), .unset]) rfl k) ?_
    show Goes _ _ _ _ _ _ _ (T283.setTop (mkF m 144 #[.val (.int p0), .val (.int p1), .val (.int p2), .val (.int x2_0), .val (.int x4_0), .val (.int (0 : Int32)), .val (.int (0 : Int32)), .val (.ref b237), .val (.ref b243), .val (.ref b252), .val (.ref b263), .val (.ref b275), .unset, .unset, .val (.int (1 : Int32)), .unset] []))
    refine Goes.step (fun t k => XS.iload X283.here hx rfl (hb hby at_144) rfl k) ?_
    show Goes _ _ _ _ _ _ _ (T283.setTop (mkF m 146 #[.val (.int p0), .val (.int p1), .val (.int p2), .val (.int x2_0), .val (.int x4_0), .val (.int (0 : Int32)), .val (.int (0 : Int32)), .val (.ref b237), .val (.ref b243), .val (.ref b252), .val (.ref b263), .val (.ref b275), .unset, .unset, .val (.int (1 : Int32)), .unset] [(.int (0 : Int32))]))
    refine Goes.step (fun t k => XS.ifNo X283.here hx rfl (hb hby at_146) rfl ((if0 _ _).trans (teq (by decide)).2) k) ?_
    show Goes _ _ _ _ _ _ _ (T283.setTop (mkF m 149 #[.val (.int p0), .val (.int p1), .val (.int p2), .val (.int x2_0), .val (.int x4_0), .val (.int (0 : Int32)), .val (.int (0 : Int32)), .val (.ref b237), .val (.ref b243), .val (.ref b252), .val (.ref b263), .val (.ref b275), .unset, .unset, .val (.int (1 : Int32)), .unset] []))
    obtain ⟨T290, h290, X290, e290, E290, A290, D290, -, st290⟩ := newO X283 hx hZ hown (hw _ (List.mem_of_getElem? (i := 30) rfl)) (hw _ (List.mem_of_getElem? (i := 31) rfl)) (hw _ (List.mem_of_getElem? (i := 32) rfl)) e283 (g := (mkF m 149 #[.val (.int p0), .val (.int p1), .val (.int p2), .val (.int x2_0), .val (.int x4_0), .val (.int (0 : Int32)), .val (.int (0 : Int32)), .val (.ref b237), .val (.ref b243), .val (.ref b252), .val (.ref b263), .val (.ref b275), .unset, .unset, .val (.int (1 : Int32)), .unset] [])) rfl (hb hby at_149) (by decide) (by decide)
    obtain ⟨b290, g290⟩ : ∃ z, z = h283.size := ⟨_, rfl⟩
    rw [← g290] at A290 D290 st290
    have ne_b237_b290 : b237 ≠ b290 := Nat.ne_of_lt (Nat.lt_of_lt_of_le F285.lt (Nat.le_of_eq g290.symm))
    have ne_b243_b290 : b243 ≠ b290 := Nat.ne_of_lt (Nat.lt_of_lt_of_le F286.lt (Nat.le_of_eq g290.symm))
    have ne_b252_b290 : b252 ≠ b290 := Nat.ne_of_lt (Nat.lt_of_lt_of_le F287.lt (Nat.le_of_eq g290.symm))
    have ne_b263_b290 : b263 ≠ b290 := Nat.ne_of_lt (Nat.lt_of_lt_of_le F288.lt (Nat.le_of_eq g290.symm))
    have ne_b275_b290 : b275 ≠ b290 := Nat.ne_of_lt (Nat.lt_of_lt_of_le G283_0.lt (Nat.le_of_eq g290.symm))
    have Zs290 : n0 ≤ b290 := Nat.le_trans Z283 (Nat.le_of_eq g290.symm)
    have Zh290 : h0.size ≤ b290 := Nat.le_trans K283.1 (Nat.le_of_eq g290.symm)
    have F291 := F284.ext E290
    have F292 := F285.ext E290
    have F293 := F286.ext E290
    have F294 := F287.ext E290
    have F295 := F288.ext E290
    have F296 := G283_0.ext E290
    have F297 := G283_1.ext E290
    have F298 := G283_2.ext E290
    have K290 := K283.ext E290
    have Z290 := Nat.le_trans Z283 E290.1
    have F299 : Fld Z h290 b290 "com/example/vigilant_schema/vigilantschema/Node$BooleanNode" "value" "Z" (.int (0 : Int32)) := D290 (Or.inr (hw _ (List.mem_of_getElem? (i := 38) rfl))) (ty := .boolean) (by decide)
    have F300 : Fld Z h290 b290 "com/example/vigilant_schema/vigilantschema/Node$BooleanNode" "written" "Ljava/lang/String;" .null := D290 (Or.inr (hw _ (List.mem_of_getElem? (i := 40) rfl))) (ty := (.object "java/lang/String")) (by decide)
    refine Goes.step (fun t k => st290 t k) ?_
    show Goes _ _ _ _ _ _ _ (T290.setTop (mkF m 152 #[.val (.int p0), .val (.int p1), .val (.int p2), .val (.int x2_0), .val (.int x4_0), .val (.int (0 : Int32)), .val (.int (0 : Int32)), .val (.ref b237), .val (.ref b243), .val (.ref b252), .val (.ref b263), .val (.ref b275), .unset, .unset, .val (.int (1 : Int32)), .unset] [(.ref b290)]))
    refine Goes.step (fun t k => XS.dup X290.here hx rfl (hb hby at_152) rfl rfl k) ?_
    show Goes _ _ _ _ _ _ _ (T290.setTop (mkF m 153 #[.val (.int p0), .val (.int p1), .val (.int p2), .val (.int x2_0), .val (.int x4_0), .val (.int (0 : Int32)), .val (.int (0 : Int32)), .val (.ref b237), .val (.ref b243), .val (.ref b252), .val (.ref b263), .val (.ref b275), .unset, .unset, .val (.int (1 : Int32)), .unset] [(.ref b290), (.ref b290)]))
    refine Goes.step (fun t k => XS.iload X290.here hx rfl (hb hby at_153) rfl k) ?_
    show Goes _ _ _ _ _ _ _ (T290.setTop (mkF m 155 #[.val (.int p0), .val (.int p1), .val (.int p2), .val (.int x2_0), .val (.int x4_0), .val (.int (0 : Int32)), .val (.int (0 : Int32)), .val (.ref b237), .val (.ref b243), .val (.ref b252), .val (.ref b263), .val (.ref b275), .unset, .unset, .val (.int (1 : Int32)), .unset] [(.int x4_0), (.ref b290), (.ref b290)]))
    refine Goes.step (fun t k => XS.aload X290.here hx rfl (hb hby at_155) rfl rfl k) ?_
    show Goes _ _ _ _ _ _ _ (T290.setTop (mkF m 157 #[.val (.int p0), .val (.int p1), .val (.int p2), .val (.int x2_0), .val (.int x4_0), .val (.int (0 : Int32)), .val (.int (0 : Int32)), .val (.ref b237), .val (.ref b243), .val (.ref b252), .val (.ref b263), .val (.ref b275), .unset, .unset, .val (.int (1 : Int32)), .unset] [(.ref b263), (.int x4_0), (.ref b290), (.ref b290)]))
    obtain ⟨_, _, ⟨T301, L301, k301, n301⟩, -, X301, ⟨Lc301, hQ301, l301, y301, z301⟩, st301⟩ := X290.specialBack hx (y := (⟨"com/example/vigilant_schema/vigilantschema/Node$BooleanNode", "<init>", "(ZLjava/lang/String;)V"⟩ : MethodName)) rfl hown (mvT hZ (hw _ (List.mem_of_getElem? (i := 33) rfl))) (mvT hZ (hw _ (List.mem_of_getElem? (i := 34) rfl))) (mvT hZ (hw _ (List.mem_of_getElem? (i := 35) rfl))) (by decide) (backOf (W := 1) (rm7 l Z tA hw [] b290 x4_0 b263 h290 n0 Z290 A290 F299 F300 Zs290) hZ (hw _ (List.mem_of_getElem? (i := 35) rfl)) (hw _ (List.mem_of_getElem? (i := 32) rfl)) (by decide) (by decide)) (g := (mkF m 157 #[.val (.int p0), .val (.int p1), .val (.int p2), .val (.int x2_0), .val (.int x4_0), .val (.int (0 : Int32)), .val (.int (0 : Int32)), .val (.ref b237), .val (.ref b243), .val (.ref b252), .val (.ref b263), .val (.ref b275), .unset, .unset, .val (.int (1 : Int32)), .unset] [(.ref b263), (.int x4_0), (.ref b290), (.ref b290)])) rfl (by rw [hml]; rfl) (Steps.refl _) (a := b290) (argsL := [(.int x4_0), (.ref b263)]) (rest := [(.ref b290)]) (lenOf own_pd1 rfl) rfl (by show 2 * 0 + _ ≤ _; exact Nat.le_of_eq rfl) (hb hby at_157) (fun _ _ => ⟨rfl, e290, (by decide : 8 + 0 ≤ _), (by decide : 20 + 0 ≤ _)⟩)
    dsimp only [Pt.U, Pt.locs, Pt.cells, Pt.slots] at X301 l301 y301 z301 st301 hQ301
    rw [l301, y301, z301] at X301
    generalize e301 : T301.heap = h301 at hQ301
    obtain ⟨rfl, Nq301, Kq301, G301_0, G301_1, G301_2⟩ := hQ301
    have F302 := own_sta_keep F291 Kq301 (allS (notsta_exa A290) all0)
    have F303 := F292.keep Kq301 (ninS ne_b237_b290 nin0)
    have F304 := F293.keep Kq301 (ninS ne_b243_b290 nin0)
    have F305 := F294.keep Kq301
    have F306 := F295.keep Kq301
    have F307 := F296.keep Kq301
    have F308 := F297.keep Kq301 (ninS ne_b275_b290 nin0)
    have F309 := F298.keep Kq301 (ninS ne_b275_b290 nin0)
    have N301 := Fr.app N283 Nq301
    have K301 := K290.trans Kq301 (allS (Or.inr Zh290) all0)
    have Z301 := Nat.le_trans Z290 Kq301.1
    change Stand _ _ _ _ _ _ _ _ _ _ _ _ 8 20 at X301
    refine Goes.step (fun t k => st301.trans k) ?_
    show Goes _ _ _ _ _ _ _ (T301.setTop (mkF m 160 #[.val (.int p0), .val (.int p1), .val (.int p2), .val (.int x2_0), .val (.int x4_0), .val (.int (0 : Int32)), .val (.int (0 : Int32)), .val (.ref b237), .val (.ref b243), .val (.ref b252), .val (.ref b263), .val (.ref b275), .unset, .unset, .val (.int (1 : Int32)), .unset] [(.ref b290)]))
    refine Goes.step (fun t k => XS.astore X301.here hx rfl (hb hby at_160) rfl rfl (l' := #[.val (.int p0), .val (.int p1), .val (.int p2), .val (.int x2_0), .val (.int x4_0), .val (.int (0 : Int32)), .val (.int (0 : Int32)), .val (.ref b237), .val (.ref b243), .val (.ref b252), .val (.ref b263), .val (.ref b275), .unset, .unset, .val (.int (1 : Int32)), .val (.ref b290)]) rfl k) ?_
    show Goes _ _ _ _ _ _ _ (T301.setTop (mkF m 162 #[.val (.int p0), .val (.int p1), .val (.int p2), .val (.int x2_0), .val (.int x4_0), .val (.int (0 : Int32)), .val (.int (0 : Int32)), .val (.ref b237), .val (.ref b243), .val (.ref b252), .val (.ref b263), .val (.ref b275), .unset, .unset, .val (.int (1 : Int32)), .val (.ref b290)] []))
    refine Goes.step (fun t k => XS.aload X301.here hx rfl (hb hby at_162) rfl rfl k) ?_
    show Goes _ _ _ _ _ _ _ (T301.setTop (mkF m 164 #[.val (.int p0), .val (.int p1), .val (.int p2), .val (.int x2_0), .val (.int x4_0), .val (.int (0 : Int32)), .val (.int (0 : Int32)), .val (.ref b237), .val (.ref b243), .val (.ref b252), .val (.ref b263), .val (.ref b275), .unset, .unset, .val (.int (1 : Int32)), .val (.ref b290)] [(.ref b290)]))
    refine Goes.step (fun t k => XS.astore X301.here hx rfl (hb hby at_164) rfl rfl (l' := #[.val (.int p0), .val (.int p1), .val (.int p2), .val (.int x2_0), .val (.int x4_0), .val (.int (0 : Int32)), .val (.int (0 : Int32)), .val (.ref b237), .val (.ref b243), .val (.ref b252), .val (.ref b263), .val (.ref b275), .val (.ref b290), .unset, .val (.int (1 : Int32)), .val (.ref b290)]) rfl k) ?_
    show Goes _ _ _ _ _ _ _ (T301.setTop (mkF m 166 #[.val (.int p0), .val (.int p1), .val (.int p2), .val (.int x2_0), .val (.int x4_0), .val (.int (0 : Int32)), .val (.int (0 : Int32)), .val (.ref b237), .val (.ref b243), .val (.ref b252), .val (.ref b263), .val (.ref b275), .val (.ref b290), .unset, .val (.int (1 : Int32)), .val (.ref b290)] []))
    refine Goes.step (fun t k => XS.iloadN X301.here hx rfl (hb hby at_166) rfl k) ?_
    show Goes _ _ _ _ _ _ _ (T301.setTop (mkF m 167 #[.val (.int p0), .val (.int p1), .val (.int p2), .val (.int x2_0), .val (.int x4_0), .val (.int (0 : Int32)), .val (.int (0 : Int32)), .val (.ref b237), .val (.ref b243), .val (.ref b252), .val (.ref b263), .val (.ref b275), .val (.ref b290), .unset, .val (.int (1 : Int32)), .val (.ref b290)] [(.int x2_0)]))
    refine Goes.step (fun t k => XS.iload X301.here hx rfl (hb hby at_167) rfl k) ?_
    show Goes _ _ _ _ _ _ _ (T301.setTop (mkF m 169 #[.val (.int p0), .val (.int p1), .val (.int p2), .val (.int x2_0), .val (.int x4_0), .val (.int (0 : Int32)), .val (.int (0 : Int32)), .val (.ref b237), .val (.ref b243), .val (.ref b252), .val (.ref b263), .val (.ref b275), .val (.ref b290), .unset, .val (.int (1 : Int32)), .val (.ref b290)] [(.int x4_0), (.int x2_0)]))
    suffices k311 : ∀ (x311_0 : Int32), x311_0 = (if x2_0 = x4_0 then (1 : Int32) else (0 : Int32)) → Goes p e below s (Q0 Z p0 p1 p2 wC h0 n0) kC0 kS0 (T301.setTop (mkF m 177 #[.val (.int p0), .val (.int p1), .val (.int p2), .val (.int x2_0), .val (.int x4_0), .val (.int (0 : Int32)), .val (.int (0 : Int32)), .val (.ref b237), .val (.ref b243), .val (.ref b252), .val (.ref b263), .val (.ref b275), .val (.ref b290), .unset, .val (.int (1 : Int32)), .val (.ref b290)] [(.int x311_0)])) by
      by_cases hc169_310 : x2_0 = x4_0
      · refine Goes.step (fun t k => XS.icmpNo X301.here hx rfl (hb hby at_169) rfl (teq hc169_310).2 k) ?_
        show Goes _ _ _ _ _ _ _ (T301.setTop (mkF m 172 #[.val (.int p0), .val (.int p1), .val (.int p2), .val (.int x2_0), .val (.int x4_0), .val (.int (0 : Int32)), .val (.int (0 : Int32)), .val (.ref b237), .val (.ref b243), .val (.ref b252), .val (.ref b263), .val (.ref b275), .val (.ref b290), .unset, .val (.int (1 : Int32)), .val (.ref b290)] []))
        refine Goes.step (fun t k => XS.iconst X301.here hx rfl (hb hby at_172) k) ?_
        show Goes _ _ _ _ _ _ _ (T301.setTop (mkF m 173 #[.val (.int p0), .val (.int p1), .val (.int p2), .val (.int x2_0), .val (.int x4_0), .val (.int (0 : Int32)), .val (.int (0 : Int32)), .val (.ref b237), .val (.ref b243), .val (.ref b252), .val (.ref b263), .val (.ref b275), .val (.ref b290), .unset, .val (.int (1 : Int32)), .val (.ref b290)] [(.int (1 : Int32))]))
        refine Goes.step (fun t k => XS.goto X301.here hx rfl (pc0 := 173) (pc' := 177) rfl (hb hby at_173) (by decide) (by decide) k) ?_
        show Goes _ _ _ _ _ _ _ (T301.setTop (mkF m 177 #[.val (.int p0), .val (.int p1), .val (.int p2), .val (.int x2_0), .val (.int x4_0), .val (.int (0 : Int32)), .val (.int (0 : Int32)), .val (.ref b237), .val (.ref b243), .val (.ref b252), .val (.ref b263), .val (.ref b275), .val (.ref b290), .unset, .val (.int (1 : Int32)), .val (.ref b290)] [(.int (1 : Int32))]))
        exact k311 _ (if_pos hc169_310).symm
      · refine Goes.step (fun t k => XS.icmpYes X301.here hx rfl (pc0 := 169) (pc' := 176) rfl (hb hby at_169) rfl (feq hc169_310).2 (by decide) (by decide) k) ?_
        show Goes _ _ _ _ _ _ _ (T301.setTop (mkF m 176 #[.val (.int p0), .val (.int p1), .val (.int p2), .val (.int x2_0), .val (.int x4_0), .val (.int (0 : Int32)), .val (.int (0 : Int32)), .val (.ref b237), .val (.ref b243), .val (.ref b252), .val (.ref b263), .val (.ref b275), .val (.ref b290), .unset, .val (.int (1 : Int32)), .val (.ref b290)] []))
        refine Goes.step (fun t k => XS.iconst X301.here hx rfl (hb hby at_176) k) ?_
        show Goes _ _ _ _ _ _ _ (T301.setTop (mkF m 177 #[.val (.int p0), .val (.int p1), .val (.int p2), .val (.int x2_0), .val (.int x4_0), .val (.int (0 : Int32)), .val (.int (0 : Int32)), .val (.ref b237), .val (.ref b243), .val (.ref b252), .val (.ref b263), .val (.ref b275), .val (.ref b290), .unset, .val (.int (1 : Int32)), .val (.ref b290)] [(.int (0 : Int32))]))
        exact k311 _ (if_neg hc169_310).symm
    intro x311_0 hx311_0
    refine Goes.step (fun t k => XS.istore X301.here hx rfl (hb hby at_177) rfl (l' := #[.val (.int p0), .val (.int p1), .val (.int p2), .val (.int x2_0), .val (.int x4_0), .val (.int (0 : Int32)), .val (.int (0 : Int32)), .val (.ref b237), .val (.ref b243), .val (.ref b252), .val (.ref b263), .val (.ref b275), .val (.ref b290), .val (.int x311_0), .val (.int (1 : Int32)), .val (.ref b290)]) rfl k) ?_
    show Goes _ _ _ _ _ _ _ (T301.setTop (mkF m 179 #[.val (.int p0), .val (.int p1), .val (.int p2), .val (.int x2_0), .val (.int x4_0), .val (.int (0 : Int32)), .val (.int (0 : Int32)), .val (.ref b237), .val (.ref b243), .val (.ref b252), .val (.ref b263), .val (.ref b275), .val (.ref b290), .val (.int x311_0), .val (.int (1 : Int32)), .val (.ref b290)] []))
    refine Goes.step (fun t k => XS.aload X301.here hx rfl (hb hby at_179) rfl rfl k) ?_
    show Goes _ _ _ _ _ _ _ (T301.setTop (mkF m 181 #[.val (.int p0), .val (.int p1), .val (.int p2), .val (.int x2_0), .val (.int x4_0), .val (.int (0 : Int32)), .val (.int (0 : Int32)), .val (.ref b237), .val (.ref b243), .val (.ref b252), .val (.ref b263), .val (.ref b275), .val (.ref b290), .val (.int x311_0), .val (.int (1 : Int32)), .val (.ref b290)] [(.ref b290)]))
    refine Goes.step (fun t k => XS.aload X301.here hx rfl (hb hby at_181) rfl rfl k) ?_
    show Goes _ _ _ _ _ _ _ (T301.setTop (mkF m 183 #[.val (.int p0), .val (.int p1), .val (.int p2), .val (.int x2_0), .val (.int x4_0), .val (.int (0 : Int32)), .val (.int (0 : Int32)), .val (.ref b237), .val (.ref b243), .val (.ref b252), .val (.ref b263), .val (.ref b275), .val (.ref b290), .val (.int x311_0), .val (.int (1 : Int32)), .val (.ref b290)] [(.ref b275), (.ref b290)]))
    obtain ⟨cq312, kq312, q312a, q312b, q312c⟩ := isOf hZ e301 G301_0
    obtain ⟨_, _, ⟨T312, L312, k312, n312⟩, -, X312, ⟨Lc312, hQ312, l312, y312, z312⟩, st312⟩ := X301.virtualBack hx (y := (⟨"com/example/vigilant_schema/vigilantschema/Node$BooleanNode", "equals", "(Ljava/lang/Object;)Z"⟩ : MethodName)) (z := (⟨"com/example/vigilant_schema/vigilantschema/Node$BooleanNode", "equals", "(Ljava/lang/Object;)Z"⟩ : MethodName)) hown (mvT hZ (hw _ (List.mem_of_getElem? (i := 41) rfl))) (mvT hZ (hw _ (List.mem_of_getElem? (i := 42) rfl))) (notFace_of_selects (args := #[]) (mvT hZ (hw _ (List.mem_of_getElem? (i := 44) rfl)))) (mvT hZ (hw _ (List.mem_of_getElem? (i := 44) rfl))) (mvT hZ (hw _ (List.mem_of_getElem? (i := 43) rfl))) (by decide) (backOf (W := 0) (rm8B l Z tA hw [] b290 b275 (nar .boolean x2_0) (nar .boolean x4_0) h301 F307 F308 G301_1) hZ (hw _ (List.mem_of_getElem? (i := 45) rfl)) (hw _ (List.mem_of_getElem? (i := 32) rfl)) (by decide) (by decide)) q312a q312c (g := (mkF m 183 #[.val (.int p0), .val (.int p1), .val (.int p2), .val (.int x2_0), .val (.int x4_0), .val (.int (0 : Int32)), .val (.int (0 : Int32)), .val (.ref b237), .val (.ref b243), .val (.ref b252), .val (.ref b263), .val (.ref b275), .val (.ref b290), .val (.int x311_0), .val (.int (1 : Int32)), .val (.ref b290)] [(.ref b275), (.ref b290)])) rfl (by rw [hml]; rfl) (Steps.refl _) (argsL := [(.ref b275)]) (rest := []) (lenOf own_pd2 rfl) rfl (by show 2 * 0 + _ ≤ _; exact Nat.le_of_eq rfl) (hb hby at_183) (fun _ _ => ⟨rfl, e301, (by decide : 8 + 0 ≤ _), (by decide : 20 + 0 ≤ _)⟩)
    dsimp only [Pt.U, Pt.locs, Pt.cells, Pt.slots] at X312 l312 y312 z312 st312 hQ312
    rw [l312, y312, z312] at X312
    obtain ⟨rfl, rfl, e312⟩ := hQ312
    try rw [List.append_nil] at X312
    change Stand _ _ _ _ _ _ _ _ _ _ _ _ 8 20 at X312
    refine Goes.step (fun t k => st312.trans k) ?_
    show Goes _ _ _ _ _ _ _ (T312.setTop (mkF m 186 #[.val (.int p0), .val (.int p1), .val (.int p2), .val (.int x2_0), .val (.int x4_0), .val (.int (0 : Int32)), .val (.int (0 : Int32)), .val (.ref b237), .val (.ref b243), .val (.ref b252), .val (.ref b263), .val (.ref b275), .val (.ref b290), .val (.int x311_0), .val (.int (1 : Int32)), .val (.ref b290)] [(.int (f8B (nar .boolean x2_0) (nar .boolean x4_0)))]))
    refine Goes.step (fun t k => XS.iload X312.here hx rfl (hb hby at_186) rfl k) ?_
    show Goes _ _ _ _ _ _ _ (T312.setTop (mkF m 188 #[.val (.int p0), .val (.int p1), .val (.int p2), .val (.int x2_0), .val (.int x4_0), .val (.int (0 : Int32)), .val (.int (0 : Int32)), .val (.ref b237), .val (.ref b243), .val (.ref b252), .val (.ref b263), .val (.ref b275), .val (.ref b290), .val (.int x311_0), .val (.int (1 : Int32)), .val (.ref b290)] [(.int x311_0), (.int (f8B (nar .boolean x2_0) (nar .boolean x4_0)))]))
    suffices k314 : ∀ (x314_0 : Int32), x314_0 = (if (f8B (nar .boolean x2_0) (nar .boolean x4_0)) = x311_0 then (1 : Int32) else (0 : Int32)) → Goes p e below s (Q0 Z p0 p1 p2 wC h0 n0) kC0 kS0 (T312.setTop (mkF m 196 #[.val (.int p0), .val (.int p1), .val (.int p2), .val (.int x2_0), .val (.int x4_0), .val (.int (0 : Int32)), .val (.int (0 : Int32)), .val (.ref b237), .val (.ref b243), .val (.ref b252), .val (.ref b263), .val (.ref b275), .val (.ref b290), .val (.int x311_0), .val (.int (1 : Int32)), .val (.ref b290)] [(.int x314_0)])) by
      by_cases hc188_313 : (f8B (nar .boolean x2_0) (nar .boolean x4_0)) = x311_0
      · refine Goes.step (fun t k => XS.icmpNo X312.here hx rfl (hb hby at_188) rfl (teq hc188_313).2 k) ?_
        show Goes _ _ _ _ _ _ _ (T312.setTop (mkF m 191 #[.val (.int p0), .val (.int p1), .val (.int p2), .val (.int x2_0), .val (.int x4_0), .val (.int (0 : Int32)), .val (.int (0 : Int32)), .val (.ref b237), .val (.ref b243), .val (.ref b252), .val (.ref b263), .val (.ref b275), .val (.ref b290), .val (.int x311_0), .val (.int (1 : Int32)), .val (.ref b290)] []))
        refine Goes.step (fun t k => XS.iconst X312.here hx rfl (hb hby at_191) k) ?_
        show Goes _ _ _ _ _ _ _ (T312.setTop (mkF m 192 #[.val (.int p0), .val (.int p1), .val (.int p2), .val (.int x2_0), .val (.int x4_0), .val (.int (0 : Int32)), .val (.int (0 : Int32)), .val (.ref b237), .val (.ref b243), .val (.ref b252), .val (.ref b263), .val (.ref b275), .val (.ref b290), .val (.int x311_0), .val (.int (1 : Int32)), .val (.ref b290)] [(.int (1 : Int32))]))
        refine Goes.step (fun t k => XS.goto X312.here hx rfl (pc0 := 192) (pc' := 196) rfl (hb hby at_192) (by decide) (by decide) k) ?_
        show Goes _ _ _ _ _ _ _ (T312.setTop (mkF m 196 #[.val (.int p0), .val (.int p1), .val (.int p2), .val (.int x2_0), .val (.int x4_0), .val (.int (0 : Int32)), .val (.int (0 : Int32)), .val (.ref b237), .val (.ref b243), .val (.ref b252), .val (.ref b263), .val (.ref b275), .val (.ref b290), .val (.int x311_0), .val (.int (1 : Int32)), .val (.ref b290)] [(.int (1 : Int32))]))
        exact k314 _ (if_pos hc188_313).symm
      · refine Goes.step (fun t k => XS.icmpYes X312.here hx rfl (pc0 := 188) (pc' := 195) rfl (hb hby at_188) rfl (feq hc188_313).2 (by decide) (by decide) k) ?_
        show Goes _ _ _ _ _ _ _ (T312.setTop (mkF m 195 #[.val (.int p0), .val (.int p1), .val (.int p2), .val (.int x2_0), .val (.int x4_0), .val (.int (0 : Int32)), .val (.int (0 : Int32)), .val (.ref b237), .val (.ref b243), .val (.ref b252), .val (.ref b263), .val (.ref b275), .val (.ref b290), .val (.int x311_0), .val (.int (1 : Int32)), .val (.ref b290)] []))
        refine Goes.step (fun t k => XS.iconst X312.here hx rfl (hb hby at_195) k) ?_
        show Goes _ _ _ _ _ _ _ (T312.setTop (mkF m 196 #[.val (.int p0), .val (.int p1), .val (.int p2), .val (.int x2_0), .val (.int x4_0), .val (.int (0 : Int32)), .val (.int (0 : Int32)), .val (.ref b237), .val (.ref b243), .val (.ref b252), .val (.ref b263), .val (.ref b275), .val (.ref b290), .val (.int x311_0), .val (.int (1 : Int32)), .val (.ref b290)] [(.int (0 : Int32))]))
        exact k314 _ (if_neg hc188_313).symm
    intro x314_0 hx314_0
    refine Goes.step (fun t k => XS.istore X312.here hx rfl (hb hby at_196) rfl (l' := #[.val (.int p0), .val (.int p1), .val (.int p2), .val (.int x2_0), .val (.int x4_0), .val (.int (0 : Int32)), .val (.int (0 : Int32)), .val (.ref b237), .val (.ref b243), .val (.ref b252), .val (.ref b263), .val (.ref b275), .val (.ref b290), .val (.int x311_0), .val (.int x314_0), .val (.ref b290)]) rfl k) ?_
    show Goes _ _ _ _ _ _ _ (T312.setTop (mkF m 198 #[.val (.int p0), .val (.int p1), .val (.int p2), .val (.int x2_0), .val (.int x4_0), .val (.int (0 : Int32)), .val (.int (0 : Int32)), .val (.ref b237), .val (.ref b243), .val (.ref b252), .val (.ref b263), .val (.ref b275), .val (.ref b290), .val (.int x311_0), .val (.int x314_0), .val (.ref b290)] []))
    refine Goes.step (fun t k => XS.goto X312.here hx rfl (pc0 := 198) (pc' := 246) rfl (hb hby at_198) (by decide) (by decide) k) ?_
    show Goes _ _ _ _ _ _ _ (T312.setTop (mkF m 246 #[.val (.int p0), .val (.int p1), .val (.int p2), .val (.int x2_0), .val (.int x4_0), .val (.int (0 : Int32)), .val (.int (0 : Int32)), .val (.ref b237), .val (.ref b243), .val (.ref b252), .val (.ref b263), .val (.ref b275), .val (.ref b290), .val (.int x311_0), .val (.int x314_0), .val (.ref b290)] []))
    refine Goes.step (fun t k => XS.aload X312.here hx rfl (hb hby at_246) rfl rfl k) ?_
    show Goes _ _ _ _ _ _ _ (T312.setTop (mkF m 248 #[.val (.int p0), .val (.int p1), .val (.int p2), .val (.int x2_0), .val (.int x4_0), .val (.int (0 : Int32)), .val (.int (0 : Int32)), .val (.ref b237), .val (.ref b243), .val (.ref b252), .val (.ref b263), .val (.ref b275), .val (.ref b290), .val (.int x311_0), .val (.int x314_0), .val (.ref b290)] [(.ref b275)]))
    refine Goes.step (fun t k => XS.aload X312.here hx rfl (hb hby at_248) rfl rfl k) ?_
    show Goes _ _ _ _ _ _ _ (T312.setTop (mkF m 250 #[.val (.int p0), .val (.int p1), .val (.int p2), .val (.int x2_0), .val (.int x4_0), .val (.int (0 : Int32)), .val (.int (0 : Int32)), .val (.ref b237), .val (.ref b243), .val (.ref b252), .val (.ref b263), .val (.ref b275), .val (.ref b290), .val (.int x311_0), .val (.int x314_0), .val (.ref b290)] [(.ref b275), (.ref b275)]))
    obtain ⟨cq315, kq315, q315a, q315b, q315c⟩ := isOf hZ e312 F307
    obtain ⟨_, _, ⟨T315, L315, k315, n315⟩, -, X315, ⟨Lc315, hQ315, l315, y315, z315⟩, st315⟩ := X312.virtualBack hx (y := (⟨"com/example/vigilant_schema/vigilantschema/Node$BooleanNode", "equals", "(Ljava/lang/Object;)Z"⟩ : MethodName)) (z := (⟨"com/example/vigilant_schema/vigilantschema/Node$BooleanNode", "equals", "(Ljava/lang/Object;)Z"⟩ : MethodName)) hown (mvT hZ (hw _ (List.mem_of_getElem? (i := 41) rfl))) (mvT hZ (hw _ (List.mem_of_getElem? (i := 42) rfl))) (notFace_of_selects (args := #[]) (mvT hZ (hw _ (List.mem_of_getElem? (i := 44) rfl)))) (mvT hZ (hw _ (List.mem_of_getElem? (i := 44) rfl))) (mvT hZ (hw _ (List.mem_of_getElem? (i := 43) rfl))) (by decide) (backOf (W := 0) (rm8B l Z tA hw [] b275 b275 (nar .boolean x2_0) (nar .boolean x2_0) h301 F307 F308 F308) hZ (hw _ (List.mem_of_getElem? (i := 45) rfl)) (hw _ (List.mem_of_getElem? (i := 32) rfl)) (by decide) (by decide)) q315a q315c (g := (mkF m 250 #[.val (.int p0), .val (.int p1), .val (.int p2), .val (.int x2_0), .val (.int x4_0), .val (.int (0 : Int32)), .val (.int (0 : Int32)), .val (.ref b237), .val (.ref b243), .val (.ref b252), .val (.ref b263), .val (.ref b275), .val (.ref b290), .val (.int x311_0), .val (.int x314_0), .val (.ref b290)] [(.ref b275), (.ref b275)])) rfl (by rw [hml]; rfl) (Steps.refl _) (argsL := [(.ref b275)]) (rest := []) (lenOf own_pd2 rfl) rfl (by show 2 * 0 + _ ≤ _; exact Nat.le_of_eq rfl) (hb hby at_250) (fun _ _ => ⟨rfl, e312, (by decide : 8 + 0 ≤ _), (by decide : 20 + 0 ≤ _)⟩)
    dsimp only [Pt.U, Pt.locs, Pt.cells, Pt.slots] at X315 l315 y315 z315 st315 hQ315
    rw [l315, y315, z315] at X315
    obtain ⟨rfl, rfl, e315⟩ := hQ315
    try rw [List.append_nil] at X315
    change Stand _ _ _ _ _ _ _ _ _ _ _ _ 8 20 at X315
    refine Goes.step (fun t k => st315.trans k) ?_
    show Goes _ _ _ _ _ _ _ (T315.setTop (mkF m 253 #[.val (.int p0), .val (.int p1), .val (.int p2), .val (.int x2_0), .val (.int x4_0), .val (.int (0 : Int32)), .val (.int (0 : Int32)), .val (.ref b237), .val (.ref b243), .val (.ref b252), .val (.ref b263), .val (.ref b275), .val (.ref b290), .val (.int x311_0), .val (.int x314_0), .val (.ref b290)] [(.int (f8B (nar .boolean x2_0) (nar .boolean x2_0)))]))
    refine Goes.step (fun t k => XS.istore X315.here hx rfl (hb hby at_253) rfl (l' := #[.val (.int p0), .val (.int p1), .val (.int p2), .val (.int x2_0), .val (.int x4_0), .val (.int (0 : Int32)), .val (.int (0 : Int32)), .val (.ref b237), .val (.ref b243), .val (.ref b252), .val (.ref b263), .val (.ref b275), .val (.ref b290), .val (.int x311_0), .val (.int x314_0), .val (.int (f8B (nar .boolean x2_0) (nar .boolean x2_0)))]) rfl k) ?_
    show Goes _ _ _ _ _ _ _ (T315.setTop (mkF m 255 #[.val (.int p0), .val (.int p1), .val (.int p2), .val (.int x2_0), .val (.int x4_0), .val (.int (0 : Int32)), .val (.int (0 : Int32)), .val (.ref b237), .val (.ref b243), .val (.ref b252), .val (.ref b263), .val (.ref b275), .val (.ref b290), .val (.int x311_0), .val (.int x314_0), .val (.int (f8B (nar .boolean x2_0) (nar .boolean x2_0)))] []))
    generalize hy316 : (f8B (nar .boolean x2_0) (nar .boolean x2_0)) = y316
    refine Goes.step (fun t k => XS.iload X315.here hx rfl (hb hby at_255) rfl k) ?_
    show Goes _ _ _ _ _ _ _ (T315.setTop (mkF m 257 #[.val (.int p0), .val (.int p1), .val (.int p2), .val (.int x2_0), .val (.int x4_0), .val (.int (0 : Int32)), .val (.int (0 : Int32)), .val (.ref b237), .val (.ref b243), .val (.ref b252), .val (.ref b263), .val (.ref b275), .val (.ref b290), .val (.int x311_0), .val (.int x314_0), .val (.int y316)] [(.int y316)]))
    suffices k321 : ∀ (T321 : State) (L321 : List Loc) (x321_0 : Int32), Stand p l e room_1 s m #[(.int p0), (.int p1), (.int p2)] below meth c T321 L321 8 20 → T321.heap = h301 → Fr n0 L321 → x321_0 = (if y316 = (0 : Int32) then (0 : Int32) else (if x314_0 = (0 : Int32) then (0 : Int32) else (if (f8B (nar .boolean x4_0) (nar .boolean x2_0)) = x311_0 then (1 : Int32) else (0 : Int32)))) → Goes p e below s (Q0 Z p0 p1 p2 wC h0 n0) kC0 kS0 (T321.setTop (mkF m 282 #[.val (.int p0), .val (.int p1), .val (.int p2), .val (.int x2_0), .val (.int x4_0), .val (.int (0 : Int32)), .val (.int (0 : Int32)), .val (.ref b237), .val (.ref b243), .val (.ref b252), .val (.ref b263), .val (.ref b275), .val (.ref b290), .val (.int x311_0), .val (.int x314_0), .val (.int y316)] [(.int x321_0)])) by
      by_cases hc257_317 : y316 = (0 : Int32)
      · refine Goes.step (fun t k => XS.ifYes X315.here hx rfl (pc0 := 257) (pc' := 281) rfl (hb hby at_257) rfl ((if0 _ _).trans (teq hc257_317).1) (by decide) (by decide) k) ?_
        show Goes _ _ _ _ _ _ _ (T315.setTop (mkF m 281 #[.val (.int p0), .val (.int p1), .val (.int p2), .val (.int x2_0), .val (.int x4_0), .val (.int (0 : Int32)), .val (.int (0 : Int32)), .val (.ref b237), .val (.ref b243), .val (.ref b252), .val (.ref b263), .val (.ref b275), .val (.ref b290), .val (.int x311_0), .val (.int x314_0), .val (.int y316)] []))
        refine Goes.step (fun t k => XS.iconst X315.here hx rfl (hb hby at_281) k) ?_
        show Goes _ _ _ _ _ _ _ (T315.setTop (mkF m 282 #[.val (.int p0), .val (.int p1), .val (.int p2), .val (.int x2_0), .val (.int x4_0), .val (.int (0 : Int32)), .val (.int (0 : Int32)), .val (.ref b237), .val (.ref b243), .val (.ref b252), .val (.ref b263), .val (.ref b275), .val (.ref b290), .val (.int x311_0), .val (.int x314_0), .val (.int y316)] [(.int (0 : Int32))]))
        exact k321 _ _ _ X315 e315 N301 (if_pos hc257_317).symm
      · refine Goes.step (fun t k => XS.ifNo X315.here hx rfl (hb hby at_257) rfl ((if0 _ _).trans (feq hc257_317).1) k) ?_
        show Goes _ _ _ _ _ _ _ (T315.setTop (mkF m 260 #[.val (.int p0), .val (.int p1), .val (.int p2), .val (.int x2_0), .val (.int x4_0), .val (.int (0 : Int32)), .val (.int (0 : Int32)), .val (.ref b237), .val (.ref b243), .val (.ref b252), .val (.ref b263), .val (.ref b275), .val (.ref b290), .val (.int x311_0), .val (.int x314_0), .val (.int y316)] []))
        refine Goes.step (fun t k => XS.iload X315.here hx rfl (hb hby at_260) rfl k) ?_
        show Goes _ _ _ _ _ _ _ (T315.setTop (mkF m 262 #[.val (.int p0), .val (.int p1), .val (.int p2), .val (.int x2_0), .val (.int x4_0), .val (.int (0 : Int32)), .val (.int (0 : Int32)), .val (.ref b237), .val (.ref b243), .val (.ref b252), .val (.ref b263), .val (.ref b275), .val (.ref b290), .val (.int x311_0), .val (.int x314_0), .val (.int y316)] [(.int x314_0)]))
        by_cases hc262_318 : x314_0 = (0 : Int32)
        · refine Goes.step (fun t k => XS.ifYes X315.here hx rfl (pc0 := 262) (pc' := 281) rfl (hb hby at_262) rfl ((if0 _ _).trans (teq hc262_318).1) (by decide) (by decide) k) ?_
          show Goes _ _ _ _ _ _ _ (T315.setTop (mkF m 281 #[.val (.int p0), .val (.int p1), .val (.int p2), .val (.int x2_0), .val (.int x4_0), .val (.int (0 : Int32)), .val (.int (0 : Int32)), .val (.ref b237), .val (.ref b243), .val (.ref b252), .val (.ref b263), .val (.ref b275), .val (.ref b290), .val (.int x311_0), .val (.int x314_0), .val (.int y316)] []))
          refine Goes.step (fun t k => XS.iconst X315.here hx rfl (hb hby at_281) k) ?_
          show Goes _ _ _ _ _ _ _ (T315.setTop (mkF m 282 #[.val (.int p0), .val (.int p1), .val (.int p2), .val (.int x2_0), .val (.int x4_0), .val (.int (0 : Int32)), .val (.int (0 : Int32)), .val (.ref b237), .val (.ref b243), .val (.ref b252), .val (.ref b263), .val (.ref b275), .val (.ref b290), .val (.int x311_0), .val (.int x314_0), .val (.int y316)] [(.int (0 : Int32))]))
          exact k321 _ _ _ X315 e315 N301 ((if_neg hc257_317).trans (if_pos hc262_318)).symm
        · refine Goes.step (fun t k => XS.ifNo X315.here hx rfl (hb hby at_262) rfl ((if0 _ _).trans (feq hc262_318).1) k) ?_
          show Goes _ _ _ _ _ _ _ (T315.setTop (mkF m 265 #[.val (.int p0), .val (.int p1), .val (.int p2), .val (.int x2_0), .val (.int x4_0), .val (.int (0 : Int32)), .val (.int (0 : Int32)), .val (.ref b237), .val (.ref b243), .val (.ref b252), .val (.ref b263), .val (.ref b275), .val (.ref b290), .val (.int x311_0), .val (.int x314_0), .val (.int y316)] []))
          refine Goes.step (fun t k => XS.aload X315.here hx rfl (hb hby at_265) rfl rfl k) ?_
          show Goes _ _ _ _ _ _ _ (T315.setTop (mkF m 267 #[.val (.int p0), .val (.int p1), .val (.int p2), .val (.int x2_0), .val (.int x4_0), .val (.int (0 : Int32)), .val (.int (0 : Int32)), .val (.ref b237), .val (.ref b243), .val (.ref b252), .val (.ref b263), .val (.ref b275), .val (.ref b290), .val (.int x311_0), .val (.int x314_0), .val (.int y316)] [(.ref b275)]))
          refine Goes.step (fun t k => XS.aload X315.here hx rfl (hb hby at_267) rfl rfl k) ?_
          show Goes _ _ _ _ _ _ _ (T315.setTop (mkF m 269 #[.val (.int p0), .val (.int p1), .val (.int p2), .val (.int x2_0), .val (.int x4_0), .val (.int (0 : Int32)), .val (.int (0 : Int32)), .val (.ref b237), .val (.ref b243), .val (.ref b252), .val (.ref b263), .val (.ref b275), .val (.ref b290), .val (.int x311_0), .val (.int x314_0), .val (.int y316)] [(.ref b290), (.ref b275)]))
          obtain ⟨cq319, kq319, q319a, q319b, q319c⟩ := isOf hZ e315 F307
          obtain ⟨_, _, ⟨T319, L319, k319, n319⟩, -, X319, ⟨Lc319, hQ319, l319, y319, z319⟩, st319⟩ := X315.virtualBack hx (y := (⟨"com/example/vigilant_schema/vigilantschema/Node$BooleanNode", "equals", "(Ljava/lang/Object;)Z"⟩ : MethodName)) (z := (⟨"com/example/vigilant_schema/vigilantschema/Node$BooleanNode", "equals", "(Ljava/lang/Object;)Z"⟩ : MethodName)) hown (mvT hZ (hw _ (List.mem_of_getElem? (i := 41) rfl))) (mvT hZ (hw _ (List.mem_of_getElem? (i := 42) rfl))) (notFace_of_selects (args := #[]) (mvT hZ (hw _ (List.mem_of_getElem? (i := 44) rfl)))) (mvT hZ (hw _ (List.mem_of_getElem? (i := 44) rfl))) (mvT hZ (hw _ (List.mem_of_getElem? (i := 43) rfl))) (by decide) (backOf (W := 0) (rm8B l Z tA hw [] b275 b290 (nar .boolean x4_0) (nar .boolean x2_0) h301 G301_0 G301_1 F308) hZ (hw _ (List.mem_of_getElem? (i := 45) rfl)) (hw _ (List.mem_of_getElem? (i := 32) rfl)) (by decide) (by decide)) q319a q319c (g := (mkF m 269 #[.val (.int p0), .val (.int p1), .val (.int p2), .val (.int x2_0), .val (.int x4_0), .val (.int (0 : Int32)), .val (.int (0 : Int32)), .val (.ref b237), .val (.ref b243), .val (.ref b252), .val (.ref b263), .val (.ref b275), .val (.ref b290), .val (.int x311_0), .val (.int x314_0), .val (.int y316)] [(.ref b290), (.ref b275)])) rfl (by rw [hml]; rfl) (Steps.refl _) (argsL := [(.ref b290)]) (rest := []) (lenOf own_pd2 rfl) rfl (by show 2 * 0 + _ ≤ _; exact Nat.le_of_eq rfl) (hb hby at_269) (fun _ _ => ⟨rfl, e315, (by decide : 8 + 0 ≤ _), (by decide : 20 + 0 ≤ _)⟩)
          dsimp only [Pt.U, Pt.locs, Pt.cells, Pt.slots] at X319 l319 y319 z319 st319 hQ319
          rw [l319, y319, z319] at X319
          obtain ⟨rfl, rfl, e319⟩ := hQ319
          try rw [List.append_nil] at X319
          change Stand _ _ _ _ _ _ _ _ _ _ _ _ 8 20 at X319
          refine Goes.step (fun t k => st319.trans k) ?_
          show Goes _ _ _ _ _ _ _ (T319.setTop (mkF m 272 #[.val (.int p0), .val (.int p1), .val (.int p2), .val (.int x2_0), .val (.int x4_0), .val (.int (0 : Int32)), .val (.int (0 : Int32)), .val (.ref b237), .val (.ref b243), .val (.ref b252), .val (.ref b263), .val (.ref b275), .val (.ref b290), .val (.int x311_0), .val (.int x314_0), .val (.int y316)] [(.int (f8B (nar .boolean x4_0) (nar .boolean x2_0)))]))
          refine Goes.step (fun t k => XS.iload X319.here hx rfl (hb hby at_272) rfl k) ?_
          show Goes _ _ _ _ _ _ _ (T319.setTop (mkF m 274 #[.val (.int p0), .val (.int p1), .val (.int p2), .val (.int x2_0), .val (.int x4_0), .val (.int (0 : Int32)), .val (.int (0 : Int32)), .val (.ref b237), .val (.ref b243), .val (.ref b252), .val (.ref b263), .val (.ref b275), .val (.ref b290), .val (.int x311_0), .val (.int x314_0), .val (.int y316)] [(.int x311_0), (.int (f8B (nar .boolean x4_0) (nar .boolean x2_0)))]))
          by_cases hc274_320 : (f8B (nar .boolean x4_0) (nar .boolean x2_0)) = x311_0
          · refine Goes.step (fun t k => XS.icmpNo X319.here hx rfl (hb hby at_274) rfl (teq hc274_320).2 k) ?_
            show Goes _ _ _ _ _ _ _ (T319.setTop (mkF m 277 #[.val (.int p0), .val (.int p1), .val (.int p2), .val (.int x2_0), .val (.int x4_0), .val (.int (0 : Int32)), .val (.int (0 : Int32)), .val (.ref b237), .val (.ref b243), .val (.ref b252), .val (.ref b263), .val (.ref b275), .val (.ref b290), .val (.int x311_0), .val (.int x314_0), .val (.int y316)] []))
            refine Goes.step (fun t k => XS.iconst X319.here hx rfl (hb hby at_277) k) ?_
            show Goes _ _ _ _ _ _ _ (T319.setTop (mkF m 278 #[.val (.int p0), .val (.int p1), .val (.int p2), .val (.int x2_0), .val (.int x4_0), .val (.int (0 : Int32)), .val (.int (0 : Int32)), .val (.ref b237), .val (.ref b243), .val (.ref b252), .val (.ref b263), .val (.ref b275), .val (.ref b290), .val (.int x311_0), .val (.int x314_0), .val (.int y316)] [(.int (1 : Int32))]))
            refine Goes.step (fun t k => XS.goto X319.here hx rfl (pc0 := 278) (pc' := 282) rfl (hb hby at_278) (by decide) (by decide) k) ?_
            show Goes _ _ _ _ _ _ _ (T319.setTop (mkF m 282 #[.val (.int p0), .val (.int p1), .val (.int p2), .val (.int x2_0), .val (.int x4_0), .val (.int (0 : Int32)), .val (.int (0 : Int32)), .val (.ref b237), .val (.ref b243), .val (.ref b252), .val (.ref b263), .val (.ref b275), .val (.ref b290), .val (.int x311_0), .val (.int x314_0), .val (.int y316)] [(.int (1 : Int32))]))
            exact k321 _ _ _ X319 e319 N301 ((if_neg hc257_317).trans ((if_neg hc262_318).trans (if_pos hc274_320))).symm
          · refine Goes.step (fun t k => XS.icmpYes X319.here hx rfl (pc0 := 274) (pc' := 281) rfl (hb hby at_274) rfl (feq hc274_320).2 (by decide) (by decide) k) ?_
            show Goes _ _ _ _ _ _ _ (T319.setTop (mkF m 281 #[.val (.int p0), .val (.int p1), .val (.int p2), .val (.int x2_0), .val (.int x4_0), .val (.int (0 : Int32)), .val (.int (0 : Int32)), .val (.ref b237), .val (.ref b243), .val (.ref b252), .val (.ref b263), .val (.ref b275), .val (.ref b290), .val (.int x311_0), .val (.int x314_0), .val (.int y316)] []))
            refine Goes.step (fun t k => XS.iconst X319.here hx rfl (hb hby at_281) k) ?_
            show Goes _ _ _ _ _ _ _ (T319.setTop (mkF m 282 #[.val (.int p0), .val (.int p1), .val (.int p2), .val (.int x2_0), .val (.int x4_0), .val (.int (0 : Int32)), .val (.int (0 : Int32)), .val (.ref b237), .val (.ref b243), .val (.ref b252), .val (.ref b263), .val (.ref b275), .val (.ref b290), .val (.int x311_0), .val (.int x314_0), .val (.int y316)] [(.int (0 : Int32))]))
            exact k321 _ _ _ X319 e319 N301 ((if_neg hc257_317).trans ((if_neg hc262_318).trans (if_neg hc274_320))).symm
    intro T321 L321 x321_0 X321 e321 N321 hx321_0
    exact Goes.retZ X321 hx Bd.notSynchronized (r := (1 : Int32)) Bd.returns (by simp) (hb hby at_282) (own_plain_5 p0 x2_0 x4_0 x311_0 x314_0 y316 x321_0 hx2_0 hx4_0 hx311_0 hx314_0 hy316 hx321_0) ⟨rfl, N321⟩ (by decide) (by decide)
  · show Goes _ _ _ _ _ _ _ (s₁.setTop (mkF m 45 #[.val (.int p0), .val (.int p1), .val (.int p2), .val (.int x2_0), .val (.int x4_0), .val (.int (0 : Int32)), .val (.int (1 : Int32)), .unset, .unset, .unset, .unset, .unset, .unset, .unset, .unset, .unset] []))
    refine Goes.step (fun t k => XS.iconst X0.here hx rfl (hb hby at_45) k) ?_
    show Goes _ _ _ _ _ _ _ (s₁.setTop (mkF m 46 #[.val (.int p0), .val (.int p1), .val (.int p2), .val (.int x2_0), .val (.int x4_0), .val (.int (0 : Int32)), .val (.int (1 : Int32)), .unset, .unset, .unset, .unset, .unset, .unset, .unset, .unset, .unset] [(.int (2 : Int32))]))
    obtain ⟨T322, h322, k322, X322, e322, E322, A322, st322⟩ := newP X0 hx hZ (hw _ (List.mem_of_getElem? (i := 0) rfl)) e0 (g := (mkF m 46 #[.val (.int p0), .val (.int p1), .val (.int p2), .val (.int x2_0), .val (.int x4_0), .val (.int (0 : Int32)), .val (.int (1 : Int32)), .unset, .unset, .unset, .unset, .unset, .unset, .unset, .unset, .unset] [(.int (2 : Int32))])) rfl (hb hby at_46) rfl (by decide) (cap := 2) (by decide) (by decide) (by decide) (by decide)
    obtain ⟨b322, g322⟩ : ∃ z, z = h0.size := ⟨_, rfl⟩
    rw [← g322] at A322 st322
    have Zs322 : n0 ≤ b322 := Nat.le_trans Z0 (Nat.le_of_eq g322.symm)
    have Zh322 : h0.size ≤ b322 := Nat.le_trans (Keep.refl h0 []).1 (Nat.le_of_eq g322.symm)
    have F323 := S_c.ext E322
    have K322 := (Keep.refl h0 []).ext E322
    have Z322 := Nat.le_trans Z0 E322.1
    have V322 : Ara Z h322 b322 .char [(.int (0 : Int32)), (.int (0 : Int32))] := Ara.new A322 (by decide) rfl (fun _ q => nomatch q)
    refine Goes.step (fun t k => st322 t k) ?_
    show Goes _ _ _ _ _ _ _ (T322.setTop (mkF m 48 #[.val (.int p0), .val (.int p1), .val (.int p2), .val (.int x2_0), .val (.int x4_0), .val (.int (0 : Int32)), .val (.int (1 : Int32)), .unset, .unset, .unset, .unset, .unset, .unset, .unset, .unset, .unset] [(.ref b322)]))
    refine Goes.step (fun t k => XS.dup X322.here hx rfl (hb hby at_48) rfl rfl k) ?_
    show Goes _ _ _ _ _ _ _ (T322.setTop (mkF m 49 #[.val (.int p0), .val (.int p1), .val (.int p2), .val (.int x2_0), .val (.int x4_0), .val (.int (0 : Int32)), .val (.int (1 : Int32)), .unset, .unset, .unset, .unset, .unset, .unset, .unset, .unset, .unset] [(.ref b322), (.ref b322)]))
    refine Goes.step (fun t k => XS.iconst X322.here hx rfl (hb hby at_49) k) ?_
    show Goes _ _ _ _ _ _ _ (T322.setTop (mkF m 50 #[.val (.int p0), .val (.int p1), .val (.int p2), .val (.int x2_0), .val (.int x4_0), .val (.int (0 : Int32)), .val (.int (1 : Int32)), .unset, .unset, .unset, .unset, .unset, .unset, .unset, .unset, .unset] [(.int (0 : Int32)), (.ref b322), (.ref b322)]))
    refine Goes.step (fun t k => XS.iloadN X322.here hx rfl (hb hby at_50) rfl k) ?_
    show Goes _ _ _ _ _ _ _ (T322.setTop (mkF m 51 #[.val (.int p0), .val (.int p1), .val (.int p2), .val (.int x2_0), .val (.int x4_0), .val (.int (0 : Int32)), .val (.int (1 : Int32)), .unset, .unset, .unset, .unset, .unset, .unset, .unset, .unset, .unset] [(.int p1), (.int (0 : Int32)), (.ref b322), (.ref b322)]))
    refine Goes.step (fun t k => XS.sipush X322.here hx rfl (hb hby at_51) k) ?_
    show Goes _ _ _ _ _ _ _ (T322.setTop (mkF m 54 #[.val (.int p0), .val (.int p1), .val (.int p2), .val (.int x2_0), .val (.int x4_0), .val (.int (0 : Int32)), .val (.int (1 : Int32)), .unset, .unset, .unset, .unset, .unset, .unset, .unset, .unset, .unset] [(.int (255 : Int32)), (.int p1), (.int (0 : Int32)), (.ref b322), (.ref b322)]))
    refine Goes.step (fun t k => XS.iand X322.here hx rfl (hb hby at_54) rfl k) ?_
    show Goes _ _ _ _ _ _ _ (T322.setTop (mkF m 55 #[.val (.int p0), .val (.int p1), .val (.int p2), .val (.int x2_0), .val (.int x4_0), .val (.int (0 : Int32)), .val (.int (1 : Int32)), .unset, .unset, .unset, .unset, .unset, .unset, .unset, .unset, .unset] [(.int (p1 &&& (255 : Int32))), (.int (0 : Int32)), (.ref b322), (.ref b322)]))
    refine Goes.step (fun t k => XS.i2c X322.here hx rfl (hb hby at_55) rfl k) ?_
    show Goes _ _ _ _ _ _ _ (T322.setTop (mkF m 56 #[.val (.int p0), .val (.int p1), .val (.int p2), .val (.int x2_0), .val (.int x4_0), .val (.int (0 : Int32)), .val (.int (1 : Int32)), .unset, .unset, .unset, .unset, .unset, .unset, .unset, .unset, .unset] [(.int ((p1 &&& (255 : Int32)).toUInt32.toUInt16.toUInt32.toInt32)), (.int (0 : Int32)), (.ref b322), (.ref b322)]))
    obtain ⟨cl324, Ar324, q324, ll324, ff324, oo324⟩ := id V322
    have hn324 : ¬ (0 : Int32) < 0 := by decide
    have hl324 : ((0 : Int32)).toNatClampNeg < ([(.int (0 : Int32)), (.int (0 : Int32))] : List Value).length := by exact Nat.le_of_ble_eq_true rfl
    obtain ⟨T324, h324, X324, e324, W324, st324⟩ := stC X322 hx hZ e322 Ar324 (j := (0 : Int32)) (inb q324 hn324 hl324) (g := (mkF m 56 #[.val (.int p0), .val (.int p1), .val (.int p2), .val (.int x2_0), .val (.int x4_0), .val (.int (0 : Int32)), .val (.int (1 : Int32)), .unset, .unset, .unset, .unset, .unset, .unset, .unset, .unset, .unset] [(.int ((p1 &&& (255 : Int32)).toUInt32.toUInt16.toUInt32.toInt32)), (.int (0 : Int32)), (.ref b322), (.ref b322)])) rfl rfl (hb hby at_56)
    have V324 : Ara Z h324 b322 .char [(.int (nar .char ((p1 &&& (255 : Int32)).toUInt32.toUInt16.toUInt32.toInt32))), (.int (0 : Int32))] := Ara.same (j := (0 : Int32)) Ar324 q324 ll324 ff324 oo324 (fits_nar_char _) W324
    have F325 := F323.wr W324
    have K324 := K322.wr W324 (Or.inr Zh322)
    have N324 := Fr.snoc X324 N0 Zs322
    have Z324 := Nat.le_trans Z322 (Nat.le_of_eq W324.size.symm)
    refine Goes.step (fun t k => st324 t k) ?_
    show Goes _ _ _ _ _ _ _ (T324.setTop (mkF m 57 #[.val (.int p0), .val (.int p1), .val (.int p2), .val (.int x2_0), .val (.int x4_0), .val (.int (0 : Int32)), .val (.int (1 : Int32)), .unset, .unset, .unset, .unset, .unset, .unset, .unset, .unset, .unset] [(.ref b322)]))
    refine Goes.step (fun t k => XS.dup X324.here hx rfl (hb hby at_57) rfl rfl k) ?_
    show Goes _ _ _ _ _ _ _ (T324.setTop (mkF m 58 #[.val (.int p0), .val (.int p1), .val (.int p2), .val (.int x2_0), .val (.int x4_0), .val (.int (0 : Int32)), .val (.int (1 : Int32)), .unset, .unset, .unset, .unset, .unset, .unset, .unset, .unset, .unset] [(.ref b322), (.ref b322)]))
    refine Goes.step (fun t k => XS.iconst X324.here hx rfl (hb hby at_58) k) ?_
    show Goes _ _ _ _ _ _ _ (T324.setTop (mkF m 59 #[.val (.int p0), .val (.int p1), .val (.int p2), .val (.int x2_0), .val (.int x4_0), .val (.int (0 : Int32)), .val (.int (1 : Int32)), .unset, .unset, .unset, .unset, .unset, .unset, .unset, .unset, .unset] [(.int (1 : Int32)), (.ref b322), (.ref b322)]))
    refine Goes.step (fun t k => XS.iloadN X324.here hx rfl (hb hby at_59) rfl k) ?_
    show Goes _ _ _ _ _ _ _ (T324.setTop (mkF m 60 #[.val (.int p0), .val (.int p1), .val (.int p2), .val (.int x2_0), .val (.int x4_0), .val (.int (0 : Int32)), .val (.int (1 : Int32)), .unset, .unset, .unset, .unset, .unset, .unset, .unset, .unset, .unset] [(.int p1), (.int (1 : Int32)), (.ref b322), (.ref b322)]))
    refine Goes.step (fun t k => XS.bipush X324.here hx rfl (hb hby at_60) k) ?_
    show Goes _ _ _ _ _ _ _ (T324.setTop (mkF m 62 #[.val (.int p0), .val (.int p1), .val (.int p2), .val (.int x2_0), .val (.int x4_0), .val (.int (0 : Int32)), .val (.int (1 : Int32)), .unset, .unset, .unset, .unset, .unset, .unset, .unset, .unset, .unset] [(.int (8 : Int32)), (.int p1), (.int (1 : Int32)), (.ref b322), (.ref b322)]))
    refine Goes.step (fun t k => XS.iushr X324.here hx rfl (hb hby at_62) rfl k) ?_
    show Goes _ _ _ _ _ _ _ (T324.setTop (mkF m 63 #[.val (.int p0), .val (.int p1), .val (.int p2), .val (.int x2_0), .val (.int x4_0), .val (.int (0 : Int32)), .val (.int (1 : Int32)), .unset, .unset, .unset, .unset, .unset, .unset, .unset, .unset, .unset] [(.int ((p1.toUInt32 >>> ((8 : Int32) &&& 31).toUInt32).toInt32)), (.int (1 : Int32)), (.ref b322), (.ref b322)]))
    refine Goes.step (fun t k => XS.sipush X324.here hx rfl (hb hby at_63) k) ?_
    show Goes _ _ _ _ _ _ _ (T324.setTop (mkF m 66 #[.val (.int p0), .val (.int p1), .val (.int p2), .val (.int x2_0), .val (.int x4_0), .val (.int (0 : Int32)), .val (.int (1 : Int32)), .unset, .unset, .unset, .unset, .unset, .unset, .unset, .unset, .unset] [(.int (255 : Int32)), (.int ((p1.toUInt32 >>> ((8 : Int32) &&& 31).toUInt32).toInt32)), (.int (1 : Int32)), (.ref b322), (.ref b322)]))
    refine Goes.step (fun t k => XS.iand X324.here hx rfl (hb hby at_66) rfl k) ?_
    show Goes _ _ _ _ _ _ _ (T324.setTop (mkF m 67 #[.val (.int p0), .val (.int p1), .val (.int p2), .val (.int x2_0), .val (.int x4_0), .val (.int (0 : Int32)), .val (.int (1 : Int32)), .unset, .unset, .unset, .unset, .unset, .unset, .unset, .unset, .unset] [(.int (((p1.toUInt32 >>> ((8 : Int32) &&& 31).toUInt32).toInt32) &&& (255 : Int32))), (.int (1 : Int32)), (.ref b322), (.ref b322)]))
    refine Goes.step (fun t k => XS.i2c X324.here hx rfl (hb hby at_67) rfl k) ?_
    show Goes _ _ _ _ _ _ _ (T324.setTop (mkF m 68 #[.val (.int p0), .val (.int p1), .val (.int p2), .val (.int x2_0), .val (.int x4_0), .val (.int (0 : Int32)), .val (.int (1 : Int32)), .unset, .unset, .unset, .unset, .unset, .unset, .unset, .unset, .unset] [(.int ((((p1.toUInt32 >>> ((8 : Int32) &&& 31).toUInt32).toInt32) &&& (255 : Int32)).toUInt32.toUInt16.toUInt32.toInt32)), (.int (1 : Int32)), (.ref b322), (.ref b322)]))
    obtain ⟨cl326, Ar326, q326, ll326, ff326, oo326⟩ := id V324
    have hn326 : ¬ (1 : Int32) < 0 := by decide
    have hl326 : ((1 : Int32)).toNatClampNeg < ([(.int (nar .char ((p1 &&& (255 : Int32)).toUInt32.toUInt16.toUInt32.toInt32))), (.int (0 : Int32))] : List Value).length := by exact Nat.le_of_ble_eq_true rfl
    obtain ⟨T326, h326, X326, e326, W326, st326⟩ := stC X324 hx hZ e324 Ar326 (j := (1 : Int32)) (inb q326 hn326 hl326) (g := (mkF m 68 #[.val (.int p0), .val (.int p1), .val (.int p2), .val (.int x2_0), .val (.int x4_0), .val (.int (0 : Int32)), .val (.int (1 : Int32)), .unset, .unset, .unset, .unset, .unset, .unset, .unset, .unset, .unset] [(.int ((((p1.toUInt32 >>> ((8 : Int32) &&& 31).toUInt32).toInt32) &&& (255 : Int32)).toUInt32.toUInt16.toUInt32.toInt32)), (.int (1 : Int32)), (.ref b322), (.ref b322)])) rfl rfl (hb hby at_68)
    have V326 : Ara Z h326 b322 .char [(.int (nar .char ((p1 &&& (255 : Int32)).toUInt32.toUInt16.toUInt32.toInt32))), (.int (nar .char ((((p1.toUInt32 >>> ((8 : Int32) &&& 31).toUInt32).toInt32) &&& (255 : Int32)).toUInt32.toUInt16.toUInt32.toInt32)))] := Ara.same (j := (1 : Int32)) Ar326 q326 ll326 ff326 oo326 (fits_nar_char _) W326
    have F327 := F325.wr W326
    have K326 := K324.wr W326 (Or.inr Zh322)
    have N326 := Fr.snoc X326 N324 Zs322
    have Z326 := Nat.le_trans Z324 (Nat.le_of_eq W326.size.symm)
    refine Goes.step (fun t k => st326 t k) ?_
    show Goes _ _ _ _ _ _ _ (T326.setTop (mkF m 69 #[.val (.int p0), .val (.int p1), .val (.int p2), .val (.int x2_0), .val (.int x4_0), .val (.int (0 : Int32)), .val (.int (1 : Int32)), .unset, .unset, .unset, .unset, .unset, .unset, .unset, .unset, .unset] [(.ref b322)]))
    refine Goes.step (fun t k => XS.astore X326.here hx rfl (hb hby at_69) rfl rfl (l' := #[.val (.int p0), .val (.int p1), .val (.int p2), .val (.int x2_0), .val (.int x4_0), .val (.int (0 : Int32)), .val (.int (1 : Int32)), .val (.ref b322), .unset, .unset, .unset, .unset, .unset, .unset, .unset, .unset]) rfl k) ?_
    show Goes _ _ _ _ _ _ _ (T326.setTop (mkF m 71 #[.val (.int p0), .val (.int p1), .val (.int p2), .val (.int x2_0), .val (.int x4_0), .val (.int (0 : Int32)), .val (.int (1 : Int32)), .val (.ref b322), .unset, .unset, .unset, .unset, .unset, .unset, .unset, .unset] []))
    refine Goes.step (fun t k => XS.iconst X326.here hx rfl (hb hby at_71) k) ?_
    show Goes _ _ _ _ _ _ _ (T326.setTop (mkF m 72 #[.val (.int p0), .val (.int p1), .val (.int p2), .val (.int x2_0), .val (.int x4_0), .val (.int (0 : Int32)), .val (.int (1 : Int32)), .val (.ref b322), .unset, .unset, .unset, .unset, .unset, .unset, .unset, .unset] [(.int (2 : Int32))]))
    obtain ⟨T328, h328, k328, X328, e328, E328, A328, st328⟩ := newP X326 hx hZ (hw _ (List.mem_of_getElem? (i := 0) rfl)) e326 (g := (mkF m 72 #[.val (.int p0), .val (.int p1), .val (.int p2), .val (.int x2_0), .val (.int x4_0), .val (.int (0 : Int32)), .val (.int (1 : Int32)), .val (.ref b322), .unset, .unset, .unset, .unset, .unset, .unset, .unset, .unset] [(.int (2 : Int32))])) rfl (hb hby at_72) rfl (by decide) (cap := 2) (by decide) (by decide) (by decide) (by decide)
    obtain ⟨b328, g328⟩ : ∃ z, z = h326.size := ⟨_, rfl⟩
    rw [← g328] at A328 st328
    have ne_b322_b328 : b322 ≠ b328 := Nat.ne_of_lt (Nat.lt_of_lt_of_le V326.lt (Nat.le_of_eq g328.symm))
    have Zs328 : n0 ≤ b328 := Nat.le_trans Z326 (Nat.le_of_eq g328.symm)
    have Zh328 : h0.size ≤ b328 := Nat.le_trans K326.1 (Nat.le_of_eq g328.symm)
    have F329 := F327.ext E328
    have F330 := V326.ext E328
    have K328 := K326.ext E328
    have Z328 := Nat.le_trans Z326 E328.1
    have V328 : Ara Z h328 b328 .char [(.int (0 : Int32)), (.int (0 : Int32))] := Ara.new A328 (by decide) rfl (fun _ q => nomatch q)
    refine Goes.step (fun t k => st328 t k) ?_
    show Goes _ _ _ _ _ _ _ (T328.setTop (mkF m 74 #[.val (.int p0), .val (.int p1), .val (.int p2), .val (.int x2_0), .val (.int x4_0), .val (.int (0 : Int32)), .val (.int (1 : Int32)), .val (.ref b322), .unset, .unset, .unset, .unset, .unset, .unset, .unset, .unset] [(.ref b328)]))
    refine Goes.step (fun t k => XS.dup X328.here hx rfl (hb hby at_74) rfl rfl k) ?_
    show Goes _ _ _ _ _ _ _ (T328.setTop (mkF m 75 #[.val (.int p0), .val (.int p1), .val (.int p2), .val (.int x2_0), .val (.int x4_0), .val (.int (0 : Int32)), .val (.int (1 : Int32)), .val (.ref b322), .unset, .unset, .unset, .unset, .unset, .unset, .unset, .unset] [(.ref b328), (.ref b328)]))
    refine Goes.step (fun t k => XS.iconst X328.here hx rfl (hb hby at_75) k) ?_
    show Goes _ _ _ _ _ _ _ (T328.setTop (mkF m 76 #[.val (.int p0), .val (.int p1), .val (.int p2), .val (.int x2_0), .val (.int x4_0), .val (.int (0 : Int32)), .val (.int (1 : Int32)), .val (.ref b322), .unset, .unset, .unset, .unset, .unset, .unset, .unset, .unset] [(.int (0 : Int32)), (.ref b328), (.ref b328)]))
    refine Goes.step (fun t k => XS.iloadN X328.here hx rfl (hb hby at_76) rfl k) ?_
    show Goes _ _ _ _ _ _ _ (T328.setTop (mkF m 77 #[.val (.int p0), .val (.int p1), .val (.int p2), .val (.int x2_0), .val (.int x4_0), .val (.int (0 : Int32)), .val (.int (1 : Int32)), .val (.ref b322), .unset, .unset, .unset, .unset, .unset, .unset, .unset, .unset] [(.int p2), (.int (0 : Int32)), (.ref b328), (.ref b328)]))
    refine Goes.step (fun t k => XS.sipush X328.here hx rfl (hb hby at_77) k) ?_
    show Goes _ _ _ _ _ _ _ (T328.setTop (mkF m 80 #[.val (.int p0), .val (.int p1), .val (.int p2), .val (.int x2_0), .val (.int x4_0), .val (.int (0 : Int32)), .val (.int (1 : Int32)), .val (.ref b322), .unset, .unset, .unset, .unset, .unset, .unset, .unset, .unset] [(.int (255 : Int32)), (.int p2), (.int (0 : Int32)), (.ref b328), (.ref b328)]))
    refine Goes.step (fun t k => XS.iand X328.here hx rfl (hb hby at_80) rfl k) ?_
    show Goes _ _ _ _ _ _ _ (T328.setTop (mkF m 81 #[.val (.int p0), .val (.int p1), .val (.int p2), .val (.int x2_0), .val (.int x4_0), .val (.int (0 : Int32)), .val (.int (1 : Int32)), .val (.ref b322), .unset, .unset, .unset, .unset, .unset, .unset, .unset, .unset] [(.int (p2 &&& (255 : Int32))), (.int (0 : Int32)), (.ref b328), (.ref b328)]))
    refine Goes.step (fun t k => XS.i2c X328.here hx rfl (hb hby at_81) rfl k) ?_
    show Goes _ _ _ _ _ _ _ (T328.setTop (mkF m 82 #[.val (.int p0), .val (.int p1), .val (.int p2), .val (.int x2_0), .val (.int x4_0), .val (.int (0 : Int32)), .val (.int (1 : Int32)), .val (.ref b322), .unset, .unset, .unset, .unset, .unset, .unset, .unset, .unset] [(.int ((p2 &&& (255 : Int32)).toUInt32.toUInt16.toUInt32.toInt32)), (.int (0 : Int32)), (.ref b328), (.ref b328)]))
    obtain ⟨cl331, Ar331, q331, ll331, ff331, oo331⟩ := id V328
    have hn331 : ¬ (0 : Int32) < 0 := by decide
    have hl331 : ((0 : Int32)).toNatClampNeg < ([(.int (0 : Int32)), (.int (0 : Int32))] : List Value).length := by exact Nat.le_of_ble_eq_true rfl
    obtain ⟨T331, h331, X331, e331, W331, st331⟩ := stC X328 hx hZ e328 Ar331 (j := (0 : Int32)) (inb q331 hn331 hl331) (g := (mkF m 82 #[.val (.int p0), .val (.int p1), .val (.int p2), .val (.int x2_0), .val (.int x4_0), .val (.int (0 : Int32)), .val (.int (1 : Int32)), .val (.ref b322), .unset, .unset, .unset, .unset, .unset, .unset, .unset, .unset] [(.int ((p2 &&& (255 : Int32)).toUInt32.toUInt16.toUInt32.toInt32)), (.int (0 : Int32)), (.ref b328), (.ref b328)])) rfl rfl (hb hby at_82)
    have V331 : Ara Z h331 b328 .char [(.int (nar .char ((p2 &&& (255 : Int32)).toUInt32.toUInt16.toUInt32.toInt32))), (.int (0 : Int32))] := Ara.same (j := (0 : Int32)) Ar331 q331 ll331 ff331 oo331 (fits_nar_char _) W331
    have F332 := F329.wr W331
    have F333 := F330.other W331 ne_b322_b328
    have K331 := K328.wr W331 (Or.inr Zh328)
    have N331 := Fr.snoc X331 N326 Zs328
    have Z331 := Nat.le_trans Z328 (Nat.le_of_eq W331.size.symm)
    refine Goes.step (fun t k => st331 t k) ?_
    show Goes _ _ _ _ _ _ _ (T331.setTop (mkF m 83 #[.val (.int p0), .val (.int p1), .val (.int p2), .val (.int x2_0), .val (.int x4_0), .val (.int (0 : Int32)), .val (.int (1 : Int32)), .val (.ref b322), .unset, .unset, .unset, .unset, .unset, .unset, .unset, .unset] [(.ref b328)]))
    refine Goes.step (fun t k => XS.dup X331.here hx rfl (hb hby at_83) rfl rfl k) ?_
    show Goes _ _ _ _ _ _ _ (T331.setTop (mkF m 84 #[.val (.int p0), .val (.int p1), .val (.int p2), .val (.int x2_0), .val (.int x4_0), .val (.int (0 : Int32)), .val (.int (1 : Int32)), .val (.ref b322), .unset, .unset, .unset, .unset, .unset, .unset, .unset, .unset] [(.ref b328), (.ref b328)]))
    refine Goes.step (fun t k => XS.iconst X331.here hx rfl (hb hby at_84) k) ?_
    show Goes _ _ _ _ _ _ _ (T331.setTop (mkF m 85 #[.val (.int p0), .val (.int p1), .val (.int p2), .val (.int x2_0), .val (.int x4_0), .val (.int (0 : Int32)), .val (.int (1 : Int32)), .val (.ref b322), .unset, .unset, .unset, .unset, .unset, .unset, .unset, .unset] [(.int (1 : Int32)), (.ref b328), (.ref b328)]))
    refine Goes.step (fun t k => XS.iloadN X331.here hx rfl (hb hby at_85) rfl k) ?_
    show Goes _ _ _ _ _ _ _ (T331.setTop (mkF m 86 #[.val (.int p0), .val (.int p1), .val (.int p2), .val (.int x2_0), .val (.int x4_0), .val (.int (0 : Int32)), .val (.int (1 : Int32)), .val (.ref b322), .unset, .unset, .unset, .unset, .unset, .unset, .unset, .unset] [(.int p2), (.int (1 : Int32)), (.ref b328), (.ref b328)]))
    refine Goes.step (fun t k => XS.bipush X331.here hx rfl (hb hby at_86) k) ?_
    show Goes _ _ _ _ _ _ _ (T331.setTop (mkF m 88 #[.val (.int p0), .val (.int p1), .val (.int p2), .val (.int x2_0), .val (.int x4_0), .val (.int (0 : Int32)), .val (.int (1 : Int32)), .val (.ref b322), .unset, .unset, .unset, .unset, .unset, .unset, .unset, .unset] [(.int (8 : Int32)), (.int p2), (.int (1 : Int32)), (.ref b328), (.ref b328)]))
    refine Goes.step (fun t k => XS.iushr X331.here hx rfl (hb hby at_88) rfl k) ?_
    show Goes _ _ _ _ _ _ _ (T331.setTop (mkF m 89 #[.val (.int p0), .val (.int p1), .val (.int p2), .val (.int x2_0), .val (.int x4_0), .val (.int (0 : Int32)), .val (.int (1 : Int32)), .val (.ref b322), .unset, .unset, .unset, .unset, .unset, .unset, .unset, .unset] [(.int ((p2.toUInt32 >>> ((8 : Int32) &&& 31).toUInt32).toInt32)), (.int (1 : Int32)), (.ref b328), (.ref b328)]))
    refine Goes.step (fun t k => XS.sipush X331.here hx rfl (hb hby at_89) k) ?_
    show Goes _ _ _ _ _ _ _ (T331.setTop (mkF m 92 #[.val (.int p0), .val (.int p1), .val (.int p2), .val (.int x2_0), .val (.int x4_0), .val (.int (0 : Int32)), .val (.int (1 : Int32)), .val (.ref b322), .unset, .unset, .unset, .unset, .unset, .unset, .unset, .unset] [(.int (255 : Int32)), (.int ((p2.toUInt32 >>> ((8 : Int32) &&& 31).toUInt32).toInt32)), (.int (1 : Int32)), (.ref b328), (.ref b328)]))
    refine Goes.step (fun t k => XS.iand X331.here hx rfl (hb hby at_92) rfl k) ?_
    show Goes _ _ _ _ _ _ _ (T331.setTop (mkF m 93 #[.val (.int p0), .val (.int p1), .val (.int p2), .val (.int x2_0), .val (.int x4_0), .val (.int (0 : Int32)), .val (.int (1 : Int32)), .val (.ref b322), .unset, .unset, .unset, .unset, .unset, .unset, .unset, .unset] [(.int (((p2.toUInt32 >>> ((8 : Int32) &&& 31).toUInt32).toInt32) &&& (255 : Int32))), (.int (1 : Int32)), (.ref b328), (.ref b328)]))
    refine Goes.step (fun t k => XS.i2c X331.here hx rfl (hb hby at_93) rfl k) ?_
    show Goes _ _ _ _ _ _ _ (T331.setTop (mkF m 94 #[.val (.int p0), .val (.int p1), .val (.int p2), .val (.int x2_0), .val (.int x4_0), .val (.int (0 : Int32)), .val (.int (1 : Int32)), .val (.ref b322), .unset, .unset, .unset, .unset, .unset, .unset, .unset, .unset] [(.int ((((p2.toUInt32 >>> ((8 : Int32) &&& 31).toUInt32).toInt32) &&& (255 : Int32)).toUInt32.toUInt16.toUInt32.toInt32)), (.int (1 : Int32)), (.ref b328), (.ref b328)]))
    obtain ⟨cl334, Ar334, q334, ll334, ff334, oo334⟩ := id V331
    have hn334 : ¬ (1 : Int32) < 0 := by decide
    have hl334 : ((1 : Int32)).toNatClampNeg < ([(.int (nar .char ((p2 &&& (255 : Int32)).toUInt32.toUInt16.toUInt32.toInt32))), (.int (0 : Int32))] : List Value).length := by exact Nat.le_of_ble_eq_true rfl
    obtain ⟨T334, h334, X334, e334, W334, st334⟩ := stC X331 hx hZ e331 Ar334 (j := (1 : Int32)) (inb q334 hn334 hl334) (g := (mkF m 94 #[.val (.int p0), .val (.int p1), .val (.int p2), .val (.int x2_0), .val (.int x4_0), .val (.int (0 : Int32)), .val (.int (1 : Int32)), .val (.ref b322), .unset, .unset, .unset, .unset, .unset, .unset, .unset, .unset] [(.int ((((p2.toUInt32 >>> ((8 : Int32) &&& 31).toUInt32).toInt32) &&& (255 : Int32)).toUInt32.toUInt16.toUInt32.toInt32)), (.int (1 : Int32)), (.ref b328), (.ref b328)])) rfl rfl (hb hby at_94)
    have V334 : Ara Z h334 b328 .char [(.int (nar .char ((p2 &&& (255 : Int32)).toUInt32.toUInt16.toUInt32.toInt32))), (.int (nar .char ((((p2.toUInt32 >>> ((8 : Int32) &&& 31).toUInt32).toInt32) &&& (255 : Int32)).toUInt32.toUInt16.toUInt32.toInt32)))] := Ara.same (j := (1 : Int32)) Ar334 q334 ll334 ff334 oo334 (fits_nar_char _) W334
    have F335 := F332.wr W334
    have F336 := F333.other W334 ne_b322_b328
    have K334 := K331.wr W334 (Or.inr Zh328)
    have N334 := Fr.snoc X334 N331 Zs328
    have Z334 := Nat.le_trans Z331 (Nat.le_of_eq W334.size.symm)
    refine Goes.step (fun t k => st334 t k) ?_
    show Goes _ _ _ _ _ _ _ (T334.setTop (mkF m 95 #[.val (.int p0), .val (.int p1), .val (.int p2), .val (.int x2_0), .val (.int x4_0), .val (.int (0 : Int32)), .val (.int (1 : Int32)), .val (.ref b322), .unset, .unset, .unset, .unset, .unset, .unset, .unset, .unset] [(.ref b328)]))
    refine Goes.step (fun t k => XS.astore X334.here hx rfl (hb hby at_95) rfl rfl (l' := #[.val (.int p0), .val (.int p1), .val (.int p2), .val (.int x2_0), .val (.int x4_0), .val (.int (0 : Int32)), .val (.int (1 : Int32)), .val (.ref b322), .val (.ref b328), .unset, .unset, .unset, .unset, .unset, .unset, .unset]) rfl k) ?_
    show Goes _ _ _ _ _ _ _ (T334.setTop (mkF m 97 #[.val (.int p0), .val (.int p1), .val (.int p2), .val (.int x2_0), .val (.int x4_0), .val (.int (0 : Int32)), .val (.int (1 : Int32)), .val (.ref b322), .val (.ref b328), .unset, .unset, .unset, .unset, .unset, .unset, .unset] []))
    obtain ⟨T337, h337, X337, e337, E337, A337, D337, -, st337⟩ := newO X334 hx hZ hown (hw _ (List.mem_of_getElem? (i := 1) rfl)) (hw _ (List.mem_of_getElem? (i := 2) rfl)) (hw _ (List.mem_of_getElem? (i := 3) rfl)) e334 (g := (mkF m 97 #[.val (.int p0), .val (.int p1), .val (.int p2), .val (.int x2_0), .val (.int x4_0), .val (.int (0 : Int32)), .val (.int (1 : Int32)), .val (.ref b322), .val (.ref b328), .unset, .unset, .unset, .unset, .unset, .unset, .unset] [])) rfl (hb hby at_97) (by decide) (by decide)
    obtain ⟨b337, g337⟩ : ∃ z, z = h334.size := ⟨_, rfl⟩
    rw [← g337] at A337 D337 st337
    have ne_b322_b337 : b322 ≠ b337 := Nat.ne_of_lt (Nat.lt_of_lt_of_le F336.lt (Nat.le_of_eq g337.symm))
    have ne_b328_b337 : b328 ≠ b337 := Nat.ne_of_lt (Nat.lt_of_lt_of_le V334.lt (Nat.le_of_eq g337.symm))
    have Zs337 : n0 ≤ b337 := Nat.le_trans Z334 (Nat.le_of_eq g337.symm)
    have Zh337 : h0.size ≤ b337 := Nat.le_trans K334.1 (Nat.le_of_eq g337.symm)
    have F338 := F335.ext E337
    have F339 := F336.ext E337
    have F340 := V334.ext E337
    have K337 := K334.ext E337
    have Z337 := Nat.le_trans Z334 E337.1
    have F341 : Fld Z h337 b337 "java/lang/String" "coder" "B" (.int (0 : Int32)) := D337 (Or.inr (hw _ (List.mem_of_getElem? (i := 27) rfl))) (ty := .byte) (by decide)
    have F342 : Fld Z h337 b337 "java/lang/String" "value" "[B" .null := D337 (Or.inr (hw _ (List.mem_of_getElem? (i := 29) rfl))) (ty := (.array .byte)) (by decide)
    refine Goes.step (fun t k => st337 t k) ?_
    show Goes _ _ _ _ _ _ _ (T337.setTop (mkF m 100 #[.val (.int p0), .val (.int p1), .val (.int p2), .val (.int x2_0), .val (.int x4_0), .val (.int (0 : Int32)), .val (.int (1 : Int32)), .val (.ref b322), .val (.ref b328), .unset, .unset, .unset, .unset, .unset, .unset, .unset] [(.ref b337)]))
    refine Goes.step (fun t k => XS.dup X337.here hx rfl (hb hby at_100) rfl rfl k) ?_
    show Goes _ _ _ _ _ _ _ (T337.setTop (mkF m 101 #[.val (.int p0), .val (.int p1), .val (.int p2), .val (.int x2_0), .val (.int x4_0), .val (.int (0 : Int32)), .val (.int (1 : Int32)), .val (.ref b322), .val (.ref b328), .unset, .unset, .unset, .unset, .unset, .unset, .unset] [(.ref b337), (.ref b337)]))
    refine Goes.step (fun t k => XS.aload X337.here hx rfl (hb hby at_101) rfl rfl k) ?_
    show Goes _ _ _ _ _ _ _ (T337.setTop (mkF m 103 #[.val (.int p0), .val (.int p1), .val (.int p2), .val (.int x2_0), .val (.int x4_0), .val (.int (0 : Int32)), .val (.int (1 : Int32)), .val (.ref b322), .val (.ref b328), .unset, .unset, .unset, .unset, .unset, .unset, .unset] [(.ref b322), (.ref b337), (.ref b337)]))
    obtain ⟨kc343, Kc343⟩ := own_arv (N := (2 : Int32)) (.int (0 : Int32)) F339 (by decide) rfl
    have hlat343 : ∀ c ∈ [(nar .char ((p1 &&& (255 : Int32)).toUInt32.toUInt16.toUInt32.toInt32)), (nar .char ((((p1.toUInt32 >>> ((8 : Int32) &&& 31).toUInt32).toInt32) &&& (255 : Int32)).toUInt32.toUInt16.toUInt32.toInt32))], ¬ c < 0 ∧ ¬ (255 : Int32) < c := by
      intro c hc
      simp only [List.mem_cons, List.not_mem_nil, or_false] at hc
      rcases hc with rfl | rfl <;> exact own_lat _
    obtain ⟨_, _, ⟨T343, L343, k343, n343⟩, -, X343, ⟨Lc343, hQ343, l343, y343, z343⟩, st343⟩ := X337.specialBack hx (y := (⟨"java/lang/String", "<init>", "([C)V"⟩ : MethodName)) rfl hown (mvT hZ (hw _ (List.mem_of_getElem? (i := 4) rfl))) (mvT hZ (hw _ (List.mem_of_getElem? (i := 5) rfl))) (mvT hZ (hw _ (List.mem_of_getElem? (i := 6) rfl))) (by decide) (StrChars.Road.backV (W := 1) hZ hws (kI := 4) (hw _ (List.mem_of_getElem? (i := 2) rfl)) (cs := [(nar .char ((p1 &&& (255 : Int32)).toUInt32.toUInt16.toUInt32.toInt32)), (nar .char ((((p1.toUInt32 >>> ((8 : Int32) &&& 31).toUInt32).toInt32) &&& (255 : Int32)).toUInt32.toUInt16.toUInt32.toInt32))]) (bs := [((nar .char ((p1 &&& (255 : Int32)).toUInt32.toUInt16.toUInt32.toInt32))).toInt8.toInt32, ((nar .char ((((p1.toUInt32 >>> ((8 : Int32) &&& 31).toUInt32).toInt32) &&& (255 : Int32)).toUInt32.toUInt16.toUInt32.toInt32))).toInt8.toInt32]) (n := 2) (n0 := n0) Zs337 Z337 A337 F342 F341 Kc343 F338 P3 rfl rfl (by decide) (by decide) hlat343 rfl (by decide) (by decide)) (g := (mkF m 103 #[.val (.int p0), .val (.int p1), .val (.int p2), .val (.int x2_0), .val (.int x4_0), .val (.int (0 : Int32)), .val (.int (1 : Int32)), .val (.ref b322), .val (.ref b328), .unset, .unset, .unset, .unset, .unset, .unset, .unset] [(.ref b322), (.ref b337), (.ref b337)])) rfl (by rw [hml]; rfl) (Steps.refl _) (a := b337) (argsL := [(.ref b322)]) (rest := [(.ref b337)]) (lenOf own_pd0 rfl) rfl (by show 2 * 0 + _ ≤ _; exact Nat.le_of_eq rfl) (hb hby at_103) (fun _ _ => ⟨rfl, e337, (by decide : 3 + 1 ≤ _), (by decide : 8 + 2 ≤ _)⟩)
    dsimp only [Pt.U, Pt.locs, Pt.cells, Pt.slots] at X343 l343 y343 z343 st343 hQ343
    rw [l343, y343, z343] at X343
    replace hQ343 := own_qv hQ343
    generalize e343 : T343.heap = h343 at hQ343
    obtain ⟨rfl, Nq343, Kq343, G343_0⟩ := hQ343
    have F344 := own_sta_keep F338 Kq343 (allS (notsta_exa A337) all0)
    have F345 := F339.keep Kq343 (ninS ne_b322_b337 nin0)
    have F346 := F340.keep Kq343 (ninS ne_b328_b337 nin0)
    have N343 := Fr.app N334 Nq343
    have K343 := K337.trans Kq343 (allS (Or.inr Zh337) all0)
    have Z343 := Nat.le_trans Z337 Kq343.1
    change Stand _ _ _ _ _ _ _ _ _ _ _ _ 4 10 at X343
    refine Goes.step (fun t k => st343.trans k) ?_
    show Goes _ _ _ _ _ _ _ (T343.setTop (mkF m 106 #[.val (.int p0), .val (.int p1), .val (.int p2), .val (.int x2_0), .val (.int x4_0), .val (.int (0 : Int32)), .val (.int (1 : Int32)), .val (.ref b322), .val (.ref b328), .unset, .unset, .unset, .unset, .unset, .unset, .unset] [(.ref b337)]))
    refine Goes.step (fun t k => XS.astore X343.here hx rfl (hb hby at_106) rfl rfl (l' := #[.val (.int p0), .val (.int p1), .val (.int p2), .val (.int x2_0), .val (.int x4_0), .val (.int (0 : Int32)), .val (.int (1 : Int32)), .val (.ref b322), .val (.ref b328), .val (.ref b337), .unset, .unset, .unset, .unset, .unset, .unset]) rfl k) ?_
    show Goes _ _ _ _ _ _ _ (T343.setTop (mkF m 108 #[.val (.int p0), .val (.int p1), .val (.int p2), .val (.int x2_0), .val (.int x4_0), .val (.int (0 : Int32)), .val (.int (1 : Int32)), .val (.ref b322), .val (.ref b328), .val (.ref b337), .unset, .unset, .unset, .unset, .unset, .unset] []))
    refine Goes.step (fun t k => XS.iload X343.here hx rfl (hb hby at_108) rfl k) ?_
    show Goes _ _ _ _ _ _ _ (T343.setTop (mkF m 110 #[.val (.int p0), .val (.int p1), .val (.int p2), .val (.int x2_0), .val (.int x4_0), .val (.int (0 : Int32)), .val (.int (1 : Int32)), .val (.ref b322), .val (.ref b328), .val (.ref b337), .unset, .unset, .unset, .unset, .unset, .unset] [(.int (0 : Int32))]))
    refine Goes.step (fun t k => XS.ifYes X343.here hx rfl (pc0 := 110) (pc' := 118) rfl (hb hby at_110) rfl ((if0 _ _).trans (teq (by decide)).1) (by decide) (by decide) k) ?_
    show Goes _ _ _ _ _ _ _ (T343.setTop (mkF m 118 #[.val (.int p0), .val (.int p1), .val (.int p2), .val (.int x2_0), .val (.int x4_0), .val (.int (0 : Int32)), .val (.int (1 : Int32)), .val (.ref b322), .val (.ref b328), .val (.ref b337), .unset, .unset, .unset, .unset, .unset, .unset] []))
    obtain ⟨T348, h348, X348, e348, E348, A348, D348, -, st348⟩ := newO X343 hx hZ hown (hw _ (List.mem_of_getElem? (i := 1) rfl)) (hw _ (List.mem_of_getElem? (i := 2) rfl)) (hw _ (List.mem_of_getElem? (i := 3) rfl)) e343 (g := (mkF m 118 #[.val (.int p0), .val (.int p1), .val (.int p2), .val (.int x2_0), .val (.int x4_0), .val (.int (0 : Int32)), .val (.int (1 : Int32)), .val (.ref b322), .val (.ref b328), .val (.ref b337), .unset, .unset, .unset, .unset, .unset, .unset] [])) rfl (hb hby at_118) (by decide) (by decide)
    obtain ⟨b348, g348⟩ : ∃ z, z = h343.size := ⟨_, rfl⟩
    rw [← g348] at A348 D348 st348
    have ne_b322_b348 : b322 ≠ b348 := Nat.ne_of_lt (Nat.lt_of_lt_of_le F345.lt (Nat.le_of_eq g348.symm))
    have ne_b328_b348 : b328 ≠ b348 := Nat.ne_of_lt (Nat.lt_of_lt_of_le F346.lt (Nat.le_of_eq g348.symm))
    have ne_b337_b348 : b337 ≠ b348 := Nat.ne_of_lt (Nat.lt_of_lt_of_le G343_0.lt (Nat.le_of_eq g348.symm))
    have Zs348 : n0 ≤ b348 := Nat.le_trans Z343 (Nat.le_of_eq g348.symm)
    have Zh348 : h0.size ≤ b348 := Nat.le_trans K343.1 (Nat.le_of_eq g348.symm)
    have F349 := F344.ext E348
    have F350 := F345.ext E348
    have F351 := F346.ext E348
    have F352 := G343_0.ext E348
    have K348 := K343.ext E348
    have Z348 := Nat.le_trans Z343 E348.1
    have F353 : Fld Z h348 b348 "java/lang/String" "coder" "B" (.int (0 : Int32)) := D348 (Or.inr (hw _ (List.mem_of_getElem? (i := 27) rfl))) (ty := .byte) (by decide)
    have F354 : Fld Z h348 b348 "java/lang/String" "value" "[B" .null := D348 (Or.inr (hw _ (List.mem_of_getElem? (i := 29) rfl))) (ty := (.array .byte)) (by decide)
    refine Goes.step (fun t k => st348 t k) ?_
    show Goes _ _ _ _ _ _ _ (T348.setTop (mkF m 121 #[.val (.int p0), .val (.int p1), .val (.int p2), .val (.int x2_0), .val (.int x4_0), .val (.int (0 : Int32)), .val (.int (1 : Int32)), .val (.ref b322), .val (.ref b328), .val (.ref b337), .unset, .unset, .unset, .unset, .unset, .unset] [(.ref b348)]))
    refine Goes.step (fun t k => XS.dup X348.here hx rfl (hb hby at_121) rfl rfl k) ?_
    show Goes _ _ _ _ _ _ _ (T348.setTop (mkF m 122 #[.val (.int p0), .val (.int p1), .val (.int p2), .val (.int x2_0), .val (.int x4_0), .val (.int (0 : Int32)), .val (.int (1 : Int32)), .val (.ref b322), .val (.ref b328), .val (.ref b337), .unset, .unset, .unset, .unset, .unset, .unset] [(.ref b348), (.ref b348)]))
    refine Goes.step (fun t k => XS.aload X348.here hx rfl (hb hby at_122) rfl rfl k) ?_
    show Goes _ _ _ _ _ _ _ (T348.setTop (mkF m 124 #[.val (.int p0), .val (.int p1), .val (.int p2), .val (.int x2_0), .val (.int x4_0), .val (.int (0 : Int32)), .val (.int (1 : Int32)), .val (.ref b322), .val (.ref b328), .val (.ref b337), .unset, .unset, .unset, .unset, .unset, .unset] [(.ref b328), (.ref b348), (.ref b348)]))
    obtain ⟨kc355, Kc355⟩ := own_arv (N := (2 : Int32)) (.int (0 : Int32)) F351 (by decide) rfl
    have hlat355 : ∀ c ∈ [(nar .char ((p2 &&& (255 : Int32)).toUInt32.toUInt16.toUInt32.toInt32)), (nar .char ((((p2.toUInt32 >>> ((8 : Int32) &&& 31).toUInt32).toInt32) &&& (255 : Int32)).toUInt32.toUInt16.toUInt32.toInt32))], ¬ c < 0 ∧ ¬ (255 : Int32) < c := by
      intro c hc
      simp only [List.mem_cons, List.not_mem_nil, or_false] at hc
      rcases hc with rfl | rfl <;> exact own_lat _
    obtain ⟨_, _, ⟨T355, L355, k355, n355⟩, -, X355, ⟨Lc355, hQ355, l355, y355, z355⟩, st355⟩ := X348.specialBack hx (y := (⟨"java/lang/String", "<init>", "([C)V"⟩ : MethodName)) rfl hown (mvT hZ (hw _ (List.mem_of_getElem? (i := 4) rfl))) (mvT hZ (hw _ (List.mem_of_getElem? (i := 5) rfl))) (mvT hZ (hw _ (List.mem_of_getElem? (i := 6) rfl))) (by decide) (StrChars.Road.backV (W := 1) hZ hws (kI := 4) (hw _ (List.mem_of_getElem? (i := 2) rfl)) (cs := [(nar .char ((p2 &&& (255 : Int32)).toUInt32.toUInt16.toUInt32.toInt32)), (nar .char ((((p2.toUInt32 >>> ((8 : Int32) &&& 31).toUInt32).toInt32) &&& (255 : Int32)).toUInt32.toUInt16.toUInt32.toInt32))]) (bs := [((nar .char ((p2 &&& (255 : Int32)).toUInt32.toUInt16.toUInt32.toInt32))).toInt8.toInt32, ((nar .char ((((p2.toUInt32 >>> ((8 : Int32) &&& 31).toUInt32).toInt32) &&& (255 : Int32)).toUInt32.toUInt16.toUInt32.toInt32))).toInt8.toInt32]) (n := 2) (n0 := n0) Zs348 Z348 A348 F354 F353 Kc355 F349 P3 rfl rfl (by decide) (by decide) hlat355 rfl (by decide) (by decide)) (g := (mkF m 124 #[.val (.int p0), .val (.int p1), .val (.int p2), .val (.int x2_0), .val (.int x4_0), .val (.int (0 : Int32)), .val (.int (1 : Int32)), .val (.ref b322), .val (.ref b328), .val (.ref b337), .unset, .unset, .unset, .unset, .unset, .unset] [(.ref b328), (.ref b348), (.ref b348)])) rfl (by rw [hml]; rfl) (Steps.refl _) (a := b348) (argsL := [(.ref b328)]) (rest := [(.ref b348)]) (lenOf own_pd0 rfl) rfl (by show 2 * 0 + _ ≤ _; exact Nat.le_of_eq rfl) (hb hby at_124) (fun _ _ => ⟨rfl, e348, (by decide : 5 + 1 ≤ _), (by decide : 14 + 2 ≤ _)⟩)
    dsimp only [Pt.U, Pt.locs, Pt.cells, Pt.slots] at X355 l355 y355 z355 st355 hQ355
    rw [l355, y355, z355] at X355
    replace hQ355 := own_qv hQ355
    generalize e355 : T355.heap = h355 at hQ355
    obtain ⟨rfl, Nq355, Kq355, G355_0⟩ := hQ355
    have F356 := own_sta_keep F349 Kq355 (allS (notsta_exa A348) all0)
    have F357 := F350.keep Kq355 (ninS ne_b322_b348 nin0)
    have F358 := F351.keep Kq355 (ninS ne_b328_b348 nin0)
    have F359 := F352.keep Kq355
    have N355 := Fr.app N343 Nq355
    have K355 := K348.trans Kq355 (allS (Or.inr Zh348) all0)
    have Z355 := Nat.le_trans Z348 Kq355.1
    change Stand _ _ _ _ _ _ _ _ _ _ _ _ 6 16 at X355
    refine Goes.step (fun t k => st355.trans k) ?_
    show Goes _ _ _ _ _ _ _ (T355.setTop (mkF m 127 #[.val (.int p0), .val (.int p1), .val (.int p2), .val (.int x2_0), .val (.int x4_0), .val (.int (0 : Int32)), .val (.int (1 : Int32)), .val (.ref b322), .val (.ref b328), .val (.ref b337), .unset, .unset, .unset, .unset, .unset, .unset] [(.ref b348)]))
    refine Goes.step (fun t k => XS.astore X355.here hx rfl (hb hby at_127) rfl rfl (l' := #[.val (.int p0), .val (.int p1), .val (.int p2), .val (.int x2_0), .val (.int x4_0), .val (.int (0 : Int32)), .val (.int (1 : Int32)), .val (.ref b322), .val (.ref b328), .val (.ref b337), .val (.ref b348), .unset, .unset, .unset, .unset, .unset]) rfl k) ?_
    show Goes _ _ _ _ _ _ _ (T355.setTop (mkF m 129 #[.val (.int p0), .val (.int p1), .val (.int p2), .val (.int x2_0), .val (.int x4_0), .val (.int (0 : Int32)), .val (.int (1 : Int32)), .val (.ref b322), .val (.ref b328), .val (.ref b337), .val (.ref b348), .unset, .unset, .unset, .unset, .unset] []))
    obtain ⟨T360, h360, X360, e360, E360, A360, D360, -, st360⟩ := newO X355 hx hZ hown (hw _ (List.mem_of_getElem? (i := 30) rfl)) (hw _ (List.mem_of_getElem? (i := 31) rfl)) (hw _ (List.mem_of_getElem? (i := 32) rfl)) e355 (g := (mkF m 129 #[.val (.int p0), .val (.int p1), .val (.int p2), .val (.int x2_0), .val (.int x4_0), .val (.int (0 : Int32)), .val (.int (1 : Int32)), .val (.ref b322), .val (.ref b328), .val (.ref b337), .val (.ref b348), .unset, .unset, .unset, .unset, .unset] [])) rfl (hb hby at_129) (by decide) (by decide)
    obtain ⟨b360, g360⟩ : ∃ z, z = h355.size := ⟨_, rfl⟩
    rw [← g360] at A360 D360 st360
    have ne_b322_b360 : b322 ≠ b360 := Nat.ne_of_lt (Nat.lt_of_lt_of_le F357.lt (Nat.le_of_eq g360.symm))
    have ne_b328_b360 : b328 ≠ b360 := Nat.ne_of_lt (Nat.lt_of_lt_of_le F358.lt (Nat.le_of_eq g360.symm))
    have ne_b337_b360 : b337 ≠ b360 := Nat.ne_of_lt (Nat.lt_of_lt_of_le F359.lt (Nat.le_of_eq g360.symm))
    have ne_b348_b360 : b348 ≠ b360 := Nat.ne_of_lt (Nat.lt_of_lt_of_le G355_0.lt (Nat.le_of_eq g360.symm))
    have Zs360 : n0 ≤ b360 := Nat.le_trans Z355 (Nat.le_of_eq g360.symm)
    have Zh360 : h0.size ≤ b360 := Nat.le_trans K355.1 (Nat.le_of_eq g360.symm)
    have F361 := F356.ext E360
    have F362 := F357.ext E360
    have F363 := F358.ext E360
    have F364 := F359.ext E360
    have F365 := G355_0.ext E360
    have K360 := K355.ext E360
    have Z360 := Nat.le_trans Z355 E360.1
    have F366 : Fld Z h360 b360 "com/example/vigilant_schema/vigilantschema/Node$BooleanNode" "value" "Z" (.int (0 : Int32)) := D360 (Or.inr (hw _ (List.mem_of_getElem? (i := 38) rfl))) (ty := .boolean) (by decide)
    have F367 : Fld Z h360 b360 "com/example/vigilant_schema/vigilantschema/Node$BooleanNode" "written" "Ljava/lang/String;" .null := D360 (Or.inr (hw _ (List.mem_of_getElem? (i := 40) rfl))) (ty := (.object "java/lang/String")) (by decide)
    refine Goes.step (fun t k => st360 t k) ?_
    show Goes _ _ _ _ _ _ _ (T360.setTop (mkF m 132 #[.val (.int p0), .val (.int p1), .val (.int p2), .val (.int x2_0), .val (.int x4_0), .val (.int (0 : Int32)), .val (.int (1 : Int32)), .val (.ref b322), .val (.ref b328), .val (.ref b337), .val (.ref b348), .unset, .unset, .unset, .unset, .unset] [(.ref b360)]))
    refine Goes.step (fun t k => XS.dup X360.here hx rfl (hb hby at_132) rfl rfl k) ?_
    show Goes _ _ _ _ _ _ _ (T360.setTop (mkF m 133 #[.val (.int p0), .val (.int p1), .val (.int p2), .val (.int x2_0), .val (.int x4_0), .val (.int (0 : Int32)), .val (.int (1 : Int32)), .val (.ref b322), .val (.ref b328), .val (.ref b337), .val (.ref b348), .unset, .unset, .unset, .unset, .unset] [(.ref b360), (.ref b360)]))
    refine Goes.step (fun t k => XS.iloadN X360.here hx rfl (hb hby at_133) rfl k) ?_
    show Goes _ _ _ _ _ _ _ (T360.setTop (mkF m 134 #[.val (.int p0), .val (.int p1), .val (.int p2), .val (.int x2_0), .val (.int x4_0), .val (.int (0 : Int32)), .val (.int (1 : Int32)), .val (.ref b322), .val (.ref b328), .val (.ref b337), .val (.ref b348), .unset, .unset, .unset, .unset, .unset] [(.int x2_0), (.ref b360), (.ref b360)]))
    refine Goes.step (fun t k => XS.aload X360.here hx rfl (hb hby at_134) rfl rfl k) ?_
    show Goes _ _ _ _ _ _ _ (T360.setTop (mkF m 136 #[.val (.int p0), .val (.int p1), .val (.int p2), .val (.int x2_0), .val (.int x4_0), .val (.int (0 : Int32)), .val (.int (1 : Int32)), .val (.ref b322), .val (.ref b328), .val (.ref b337), .val (.ref b348), .unset, .unset, .unset, .unset, .unset] [(.ref b337), (.int x2_0), (.ref b360), (.ref b360)]))
    obtain ⟨_, _, ⟨T368, L368, k368, n368⟩, -, X368, ⟨Lc368, hQ368, l368, y368, z368⟩, st368⟩ := X360.specialBack hx (y := (⟨"com/example/vigilant_schema/vigilantschema/Node$BooleanNode", "<init>", "(ZLjava/lang/String;)V"⟩ : MethodName)) rfl hown (mvT hZ (hw _ (List.mem_of_getElem? (i := 33) rfl))) (mvT hZ (hw _ (List.mem_of_getElem? (i := 34) rfl))) (mvT hZ (hw _ (List.mem_of_getElem? (i := 35) rfl))) (by decide) (backOf (W := 1) (rm7 l Z tA hw [] b360 x2_0 b337 h360 n0 Z360 A360 F366 F367 Zs360) hZ (hw _ (List.mem_of_getElem? (i := 35) rfl)) (hw _ (List.mem_of_getElem? (i := 32) rfl)) (by decide) (by decide)) (g := (mkF m 136 #[.val (.int p0), .val (.int p1), .val (.int p2), .val (.int x2_0), .val (.int x4_0), .val (.int (0 : Int32)), .val (.int (1 : Int32)), .val (.ref b322), .val (.ref b328), .val (.ref b337), .val (.ref b348), .unset, .unset, .unset, .unset, .unset] [(.ref b337), (.int x2_0), (.ref b360), (.ref b360)])) rfl (by rw [hml]; rfl) (Steps.refl _) (a := b360) (argsL := [(.int x2_0), (.ref b337)]) (rest := [(.ref b360)]) (lenOf own_pd1 rfl) rfl (by show 2 * 0 + _ ≤ _; exact Nat.le_of_eq rfl) (hb hby at_136) (fun _ _ => ⟨rfl, e360, (by decide : 7 + 0 ≤ _), (by decide : 18 + 0 ≤ _)⟩)
    dsimp only [Pt.U, Pt.locs, Pt.cells, Pt.slots] at X368 l368 y368 z368 st368 hQ368
    rw [l368, y368, z368] at X368
    generalize e368 : T368.heap = h368 at hQ368
    obtain ⟨rfl, Nq368, Kq368, G368_0, G368_1, G368_2⟩ := hQ368
    have F369 := own_sta_keep F361 Kq368 (allS (notsta_exa A360) all0)
    have F370 := F362.keep Kq368 (ninS ne_b322_b360 nin0)
    have F371 := F363.keep Kq368 (ninS ne_b328_b360 nin0)
    have F372 := F364.keep Kq368
    have F373 := F365.keep Kq368
    have N368 := Fr.app N355 Nq368
    have K368 := K360.trans Kq368 (allS (Or.inr Zh360) all0)
    have Z368 := Nat.le_trans Z360 Kq368.1
    change Stand _ _ _ _ _ _ _ _ _ _ _ _ 7 18 at X368
    refine Goes.step (fun t k => st368.trans k) ?_
    show Goes _ _ _ _ _ _ _ (T368.setTop (mkF m 139 #[.val (.int p0), .val (.int p1), .val (.int p2), .val (.int x2_0), .val (.int x4_0), .val (.int (0 : Int32)), .val (.int (1 : Int32)), .val (.ref b322), .val (.ref b328), .val (.ref b337), .val (.ref b348), .unset, .unset, .unset, .unset, .unset] [(.ref b360)]))
    refine Goes.step (fun t k => XS.astore X368.here hx rfl (hb hby at_139) rfl rfl (l' := #[.val (.int p0), .val (.int p1), .val (.int p2), .val (.int x2_0), .val (.int x4_0), .val (.int (0 : Int32)), .val (.int (1 : Int32)), .val (.ref b322), .val (.ref b328), .val (.ref b337), .val (.ref b348), .val (.ref b360), .unset, .unset, .unset, .unset]) rfl k) ?_
    show Goes _ _ _ _ _ _ _ (T368.setTop (mkF m 141 #[.val (.int p0), .val (.int p1), .val (.int p2), .val (.int x2_0), .val (.int x4_0), .val (.int (0 : Int32)), .val (.int (1 : Int32)), .val (.ref b322), .val (.ref b328), .val (.ref b337), .val (.ref b348), .val (.ref b360), .unset, .unset, .unset, .unset] []))
    refine Goes.step (fun t k => XS.iconst X368.here hx rfl (hb hby at_141) k) ?_
    show Goes _ _ _ _ _ _ _ (T368.setTop (mkF m 142 #[.val (.int p0), .val (.int p1), .val (.int p2), .val (.int x2_0), .val (.int x4_0), .val (.int (0 : Int32)), .val (.int (1 : Int32)), .val (.ref b322), .val (.ref b328), .val (.ref b337), .val (.ref b348), .val (.ref b360), .unset, .unset, .unset, .unset] [(.int (1 : Int32))]))
    refine Goes.step (fun t k => XS.istore X368.here hx rfl (hb hby at_142) rfl (l' := #[.val (.int p0), .val (.int p1), .val (.int p2), .val (.int x2_0), .val (.int x4_0), .val (.int (0 : Int32)), .val (.int (1 : Int32)), .val (.ref b322), .val (.ref b328), .val (.ref b337), .val (.ref b348), .val (.ref b360), .unset, .unset, .val (.int (1 : Int32)), .unset]) rfl k) ?_
    show Goes _ _ _ _ _ _ _ (T368.setTop (mkF m 144 #[.val (.int p0), .val (.int p1), .val (.int p2), .val (.int x2_0), .val (.int x4_0), .val (.int (0 : Int32)), .val (.int (1 : Int32)), .val (.ref b322), .val (.ref b328), .val (.ref b337), .val (.ref b348), .val (.ref b360), .unset, .unset, .val (.int (1 : Int32)), .unset] []))
    refine Goes.step (fun t k => XS.iload X368.here hx rfl (hb hby at_144) rfl k) ?_
    show Goes _ _ _ _ _ _ _ (T368.setTop (mkF m 146 #[.val (.int p0), .val (.int p1), .val (.int p2), .val (.int x2_0), .val (.int x4_0), .val (.int (0 : Int32)), .val (.int (1 : Int32)), .val (.ref b322), .val (.ref b328), .val (.ref b337), .val (.ref b348), .val (.ref b360), .unset, .unset, .val (.int (1 : Int32)), .unset] [(.int (1 : Int32))]))
    refine Goes.step (fun t k => XS.ifYes X368.here hx rfl (pc0 := 146) (pc' := 201) rfl (hb hby at_146) rfl ((if0 _ _).trans (feq (by decide)).2) (by decide) (by decide) k) ?_
    show Goes _ _ _ _ _ _ _ (T368.setTop (mkF m 201 #[.val (.int p0), .val (.int p1), .val (.int p2), .val (.int x2_0), .val (.int x4_0), .val (.int (0 : Int32)), .val (.int (1 : Int32)), .val (.ref b322), .val (.ref b328), .val (.ref b337), .val (.ref b348), .val (.ref b360), .unset, .unset, .val (.int (1 : Int32)), .unset] []))
    refine Goes.step (fun t k => XS.iload X368.here hx rfl (hb hby at_201) rfl k) ?_
    show Goes _ _ _ _ _ _ _ (T368.setTop (mkF m 203 #[.val (.int p0), .val (.int p1), .val (.int p2), .val (.int x2_0), .val (.int x4_0), .val (.int (0 : Int32)), .val (.int (1 : Int32)), .val (.ref b322), .val (.ref b328), .val (.ref b337), .val (.ref b348), .val (.ref b360), .unset, .unset, .val (.int (1 : Int32)), .unset] [(.int (1 : Int32))]))
    refine Goes.step (fun t k => XS.iconst X368.here hx rfl (hb hby at_203) k) ?_
    show Goes _ _ _ _ _ _ _ (T368.setTop (mkF m 204 #[.val (.int p0), .val (.int p1), .val (.int p2), .val (.int x2_0), .val (.int x4_0), .val (.int (0 : Int32)), .val (.int (1 : Int32)), .val (.ref b322), .val (.ref b328), .val (.ref b337), .val (.ref b348), .val (.ref b360), .unset, .unset, .val (.int (1 : Int32)), .unset] [(.int (1 : Int32)), (.int (1 : Int32))]))
    refine Goes.step (fun t k => XS.icmpNo X368.here hx rfl (hb hby at_204) rfl (teq (by decide)).2 k) ?_
    show Goes _ _ _ _ _ _ _ (T368.setTop (mkF m 207 #[.val (.int p0), .val (.int p1), .val (.int p2), .val (.int x2_0), .val (.int x4_0), .val (.int (0 : Int32)), .val (.int (1 : Int32)), .val (.ref b322), .val (.ref b328), .val (.ref b337), .val (.ref b348), .val (.ref b360), .unset, .unset, .val (.int (1 : Int32)), .unset] []))
    refine Goes.step (fun t k => XS.aconstNull X368.here hx rfl (hb hby at_207) k) ?_
    show Goes _ _ _ _ _ _ _ (T368.setTop (mkF m 208 #[.val (.int p0), .val (.int p1), .val (.int p2), .val (.int x2_0), .val (.int x4_0), .val (.int (0 : Int32)), .val (.int (1 : Int32)), .val (.ref b322), .val (.ref b328), .val (.ref b337), .val (.ref b348), .val (.ref b360), .unset, .unset, .val (.int (1 : Int32)), .unset] [.null]))
    refine Goes.step (fun t k => XS.astore X368.here hx rfl (hb hby at_208) rfl rfl (l' := #[.val (.int p0), .val (.int p1), .val (.int p2), .val (.int x2_0), .val (.int x4_0), .val (.int (0 : Int32)), .val (.int (1 : Int32)), .val (.ref b322), .val (.ref b328), .val (.ref b337), .val (.ref b348), .val (.ref b360), .val .null, .unset, .val (.int (1 : Int32)), .unset]) rfl k) ?_
    show Goes _ _ _ _ _ _ _ (T368.setTop (mkF m 210 #[.val (.int p0), .val (.int p1), .val (.int p2), .val (.int x2_0), .val (.int x4_0), .val (.int (0 : Int32)), .val (.int (1 : Int32)), .val (.ref b322), .val (.ref b328), .val (.ref b337), .val (.ref b348), .val (.ref b360), .val .null, .unset, .val (.int (1 : Int32)), .unset] []))
    refine Goes.step (fun t k => XS.iconst X368.here hx rfl (hb hby at_210) k) ?_
    show Goes _ _ _ _ _ _ _ (T368.setTop (mkF m 211 #[.val (.int p0), .val (.int p1), .val (.int p2), .val (.int x2_0), .val (.int x4_0), .val (.int (0 : Int32)), .val (.int (1 : Int32)), .val (.ref b322), .val (.ref b328), .val (.ref b337), .val (.ref b348), .val (.ref b360), .val .null, .unset, .val (.int (1 : Int32)), .unset] [(.int (0 : Int32))]))
    refine Goes.step (fun t k => XS.istore X368.here hx rfl (hb hby at_211) rfl (l' := #[.val (.int p0), .val (.int p1), .val (.int p2), .val (.int x2_0), .val (.int x4_0), .val (.int (0 : Int32)), .val (.int (1 : Int32)), .val (.ref b322), .val (.ref b328), .val (.ref b337), .val (.ref b348), .val (.ref b360), .val .null, .val (.int (0 : Int32)), .val (.int (1 : Int32)), .unset]) rfl k) ?_
    show Goes _ _ _ _ _ _ _ (T368.setTop (mkF m 213 #[.val (.int p0), .val (.int p1), .val (.int p2), .val (.int x2_0), .val (.int x4_0), .val (.int (0 : Int32)), .val (.int (1 : Int32)), .val (.ref b322), .val (.ref b328), .val (.ref b337), .val (.ref b348), .val (.ref b360), .val .null, .val (.int (0 : Int32)), .val (.int (1 : Int32)), .unset] []))
    refine Goes.step (fun t k => XS.goto X368.here hx rfl (pc0 := 213) (pc' := 246) rfl (hb hby at_213) (by decide) (by decide) k) ?_
    show Goes _ _ _ _ _ _ _ (T368.setTop (mkF m 246 #[.val (.int p0), .val (.int p1), .val (.int p2), .val (.int x2_0), .val (.int x4_0), .val (.int (0 : Int32)), .val (.int (1 : Int32)), .val (.ref b322), .val (.ref b328), .val (.ref b337), .val (.ref b348), .val (.ref b360), .val .null, .val (.int (0 : Int32)), .val (.int (1 : Int32)), .unset] []))
    refine Goes.step (fun t k => XS.aload X368.here hx rfl (hb hby at_246) rfl rfl k) ?_
    show Goes _ _ _ _ _ _ _ (T368.setTop (mkF m 248 #[.val (.int p0), .val (.int p1), .val (.int p2), .val (.int x2_0), .val (.int x4_0), .val (.int (0 : Int32)), .val (.int (1 : Int32)), .val (.ref b322), .val (.ref b328), .val (.ref b337), .val (.ref b348), .val (.ref b360), .val .null, .val (.int (0 : Int32)), .val (.int (1 : Int32)), .unset] [(.ref b360)]))
    refine Goes.step (fun t k => XS.aload X368.here hx rfl (hb hby at_248) rfl rfl k) ?_
    show Goes _ _ _ _ _ _ _ (T368.setTop (mkF m 250 #[.val (.int p0), .val (.int p1), .val (.int p2), .val (.int x2_0), .val (.int x4_0), .val (.int (0 : Int32)), .val (.int (1 : Int32)), .val (.ref b322), .val (.ref b328), .val (.ref b337), .val (.ref b348), .val (.ref b360), .val .null, .val (.int (0 : Int32)), .val (.int (1 : Int32)), .unset] [(.ref b360), (.ref b360)]))
    obtain ⟨cq376, kq376, q376a, q376b, q376c⟩ := isOf hZ e368 G368_0
    obtain ⟨_, _, ⟨T376, L376, k376, n376⟩, -, X376, ⟨Lc376, hQ376, l376, y376, z376⟩, st376⟩ := X368.virtualBack hx (y := (⟨"com/example/vigilant_schema/vigilantschema/Node$BooleanNode", "equals", "(Ljava/lang/Object;)Z"⟩ : MethodName)) (z := (⟨"com/example/vigilant_schema/vigilantschema/Node$BooleanNode", "equals", "(Ljava/lang/Object;)Z"⟩ : MethodName)) hown (mvT hZ (hw _ (List.mem_of_getElem? (i := 41) rfl))) (mvT hZ (hw _ (List.mem_of_getElem? (i := 42) rfl))) (notFace_of_selects (args := #[]) (mvT hZ (hw _ (List.mem_of_getElem? (i := 44) rfl)))) (mvT hZ (hw _ (List.mem_of_getElem? (i := 44) rfl))) (mvT hZ (hw _ (List.mem_of_getElem? (i := 43) rfl))) (by decide) (backOf (W := 0) (rm8B l Z tA hw [] b360 b360 (nar .boolean x2_0) (nar .boolean x2_0) h368 G368_0 G368_1 G368_1) hZ (hw _ (List.mem_of_getElem? (i := 45) rfl)) (hw _ (List.mem_of_getElem? (i := 32) rfl)) (by decide) (by decide)) q376a q376c (g := (mkF m 250 #[.val (.int p0), .val (.int p1), .val (.int p2), .val (.int x2_0), .val (.int x4_0), .val (.int (0 : Int32)), .val (.int (1 : Int32)), .val (.ref b322), .val (.ref b328), .val (.ref b337), .val (.ref b348), .val (.ref b360), .val .null, .val (.int (0 : Int32)), .val (.int (1 : Int32)), .unset] [(.ref b360), (.ref b360)])) rfl (by rw [hml]; rfl) (Steps.refl _) (argsL := [(.ref b360)]) (rest := []) (lenOf own_pd2 rfl) rfl (by show 2 * 0 + _ ≤ _; exact Nat.le_of_eq rfl) (hb hby at_250) (fun _ _ => ⟨rfl, e368, (by decide : 7 + 0 ≤ _), (by decide : 18 + 0 ≤ _)⟩)
    dsimp only [Pt.U, Pt.locs, Pt.cells, Pt.slots] at X376 l376 y376 z376 st376 hQ376
    rw [l376, y376, z376] at X376
    obtain ⟨rfl, rfl, e376⟩ := hQ376
    try rw [List.append_nil] at X376
    change Stand _ _ _ _ _ _ _ _ _ _ _ _ 7 18 at X376
    refine Goes.step (fun t k => st376.trans k) ?_
    show Goes _ _ _ _ _ _ _ (T376.setTop (mkF m 253 #[.val (.int p0), .val (.int p1), .val (.int p2), .val (.int x2_0), .val (.int x4_0), .val (.int (0 : Int32)), .val (.int (1 : Int32)), .val (.ref b322), .val (.ref b328), .val (.ref b337), .val (.ref b348), .val (.ref b360), .val .null, .val (.int (0 : Int32)), .val (.int (1 : Int32)), .unset] [(.int (f8B (nar .boolean x2_0) (nar .boolean x2_0)))]))
    refine Goes.step (fun t k => XS.istore X376.here hx rfl (hb hby at_253) rfl (l' := #[.val (.int p0), .val (.int p1), .val (.int p2), .val (.int x2_0), .val (.int x4_0), .val (.int (0 : Int32)), .val (.int (1 : Int32)), .val (.ref b322), .val (.ref b328), .val (.ref b337), .val (.ref b348), .val (.ref b360), .val .null, .val (.int (0 : Int32)), .val (.int (1 : Int32)), .val (.int (f8B (nar .boolean x2_0) (nar .boolean x2_0)))]) rfl k) ?_
    show Goes _ _ _ _ _ _ _ (T376.setTop (mkF m 255 #[.val (.int p0), .val (.int p1), .val (.int p2), .val (.int x2_0), .val (.int x4_0), .val (.int (0 : Int32)), .val (.int (1 : Int32)), .val (.ref b322), .val (.ref b328), .val (.ref b337), .val (.ref b348), .val (.ref b360), .val .null, .val (.int (0 : Int32)), .val (.int (1 : Int32)), .val (.int (f8B (nar .boolean x2_0) (nar .boolean x2_0)))] []))
    generalize hy377 : (f8B (nar .boolean x2_0) (nar .boolean x2_0)) = y377
    refine Goes.step (fun t k => XS.iload X376.here hx rfl (hb hby at_255) rfl k) ?_
    show Goes _ _ _ _ _ _ _ (T376.setTop (mkF m 257 #[.val (.int p0), .val (.int p1), .val (.int p2), .val (.int x2_0), .val (.int x4_0), .val (.int (0 : Int32)), .val (.int (1 : Int32)), .val (.ref b322), .val (.ref b328), .val (.ref b337), .val (.ref b348), .val (.ref b360), .val .null, .val (.int (0 : Int32)), .val (.int (1 : Int32)), .val (.int y377)] [(.int y377)]))
    suffices k382 : ∀ (T382 : State) (L382 : List Loc) (x382_0 : Int32), Stand p l e room_1 s m #[(.int p0), (.int p1), (.int p2)] below meth c T382 L382 7 18 → T382.heap = h368 → Fr n0 L382 → x382_0 = (if y377 = (0 : Int32) then (0 : Int32) else (if f8O = (0 : Int32) then (1 : Int32) else (0 : Int32))) → Goes p e below s (Q0 Z p0 p1 p2 wC h0 n0) kC0 kS0 (T382.setTop (mkF m 282 #[.val (.int p0), .val (.int p1), .val (.int p2), .val (.int x2_0), .val (.int x4_0), .val (.int (0 : Int32)), .val (.int (1 : Int32)), .val (.ref b322), .val (.ref b328), .val (.ref b337), .val (.ref b348), .val (.ref b360), .val .null, .val (.int (0 : Int32)), .val (.int (1 : Int32)), .val (.int y377)] [(.int x382_0)])) by
      by_cases hc257_378 : y377 = (0 : Int32)
      · refine Goes.step (fun t k => XS.ifYes X376.here hx rfl (pc0 := 257) (pc' := 281) rfl (hb hby at_257) rfl ((if0 _ _).trans (teq hc257_378).1) (by decide) (by decide) k) ?_
        show Goes _ _ _ _ _ _ _ (T376.setTop (mkF m 281 #[.val (.int p0), .val (.int p1), .val (.int p2), .val (.int x2_0), .val (.int x4_0), .val (.int (0 : Int32)), .val (.int (1 : Int32)), .val (.ref b322), .val (.ref b328), .val (.ref b337), .val (.ref b348), .val (.ref b360), .val .null, .val (.int (0 : Int32)), .val (.int (1 : Int32)), .val (.int y377)] []))
        refine Goes.step (fun t k => XS.iconst X376.here hx rfl (hb hby at_281) k) ?_
        show Goes _ _ _ _ _ _ _ (T376.setTop (mkF m 282 #[.val (.int p0), .val (.int p1), .val (.int p2), .val (.int x2_0), .val (.int x4_0), .val (.int (0 : Int32)), .val (.int (1 : Int32)), .val (.ref b322), .val (.ref b328), .val (.ref b337), .val (.ref b348), .val (.ref b360), .val .null, .val (.int (0 : Int32)), .val (.int (1 : Int32)), .val (.int y377)] [(.int (0 : Int32))]))
        exact k382 _ _ _ X376 e376 N368 (if_pos hc257_378).symm
      · refine Goes.step (fun t k => XS.ifNo X376.here hx rfl (hb hby at_257) rfl ((if0 _ _).trans (feq hc257_378).1) k) ?_
        show Goes _ _ _ _ _ _ _ (T376.setTop (mkF m 260 #[.val (.int p0), .val (.int p1), .val (.int p2), .val (.int x2_0), .val (.int x4_0), .val (.int (0 : Int32)), .val (.int (1 : Int32)), .val (.ref b322), .val (.ref b328), .val (.ref b337), .val (.ref b348), .val (.ref b360), .val .null, .val (.int (0 : Int32)), .val (.int (1 : Int32)), .val (.int y377)] []))
        refine Goes.step (fun t k => XS.iload X376.here hx rfl (hb hby at_260) rfl k) ?_
        show Goes _ _ _ _ _ _ _ (T376.setTop (mkF m 262 #[.val (.int p0), .val (.int p1), .val (.int p2), .val (.int x2_0), .val (.int x4_0), .val (.int (0 : Int32)), .val (.int (1 : Int32)), .val (.ref b322), .val (.ref b328), .val (.ref b337), .val (.ref b348), .val (.ref b360), .val .null, .val (.int (0 : Int32)), .val (.int (1 : Int32)), .val (.int y377)] [(.int (1 : Int32))]))
        refine Goes.step (fun t k => XS.ifNo X376.here hx rfl (hb hby at_262) rfl ((if0 _ _).trans (feq (by decide)).1) k) ?_
        show Goes _ _ _ _ _ _ _ (T376.setTop (mkF m 265 #[.val (.int p0), .val (.int p1), .val (.int p2), .val (.int x2_0), .val (.int x4_0), .val (.int (0 : Int32)), .val (.int (1 : Int32)), .val (.ref b322), .val (.ref b328), .val (.ref b337), .val (.ref b348), .val (.ref b360), .val .null, .val (.int (0 : Int32)), .val (.int (1 : Int32)), .val (.int y377)] []))
        refine Goes.step (fun t k => XS.aload X376.here hx rfl (hb hby at_265) rfl rfl k) ?_
        show Goes _ _ _ _ _ _ _ (T376.setTop (mkF m 267 #[.val (.int p0), .val (.int p1), .val (.int p2), .val (.int x2_0), .val (.int x4_0), .val (.int (0 : Int32)), .val (.int (1 : Int32)), .val (.ref b322), .val (.ref b328), .val (.ref b337), .val (.ref b348), .val (.ref b360), .val .null, .val (.int (0 : Int32)), .val (.int (1 : Int32)), .val (.int y377)] [(.ref b360)]))
        refine Goes.step (fun t k => XS.aload X376.here hx rfl (hb hby at_267) rfl rfl k) ?_
        show Goes _ _ _ _ _ _ _ (T376.setTop (mkF m 269 #[.val (.int p0), .val (.int p1), .val (.int p2), .val (.int x2_0), .val (.int x4_0), .val (.int (0 : Int32)), .val (.int (1 : Int32)), .val (.ref b322), .val (.ref b328), .val (.ref b337), .val (.ref b348), .val (.ref b360), .val .null, .val (.int (0 : Int32)), .val (.int (1 : Int32)), .val (.int y377)] [.null, (.ref b360)]))
        obtain ⟨cq380, kq380, q380a, q380b, q380c⟩ := isOf hZ e376 G368_0
        obtain ⟨_, _, ⟨T380, L380, k380, n380⟩, -, X380, ⟨Lc380, hQ380, l380, y380, z380⟩, st380⟩ := X376.virtualBack hx (y := (⟨"com/example/vigilant_schema/vigilantschema/Node$BooleanNode", "equals", "(Ljava/lang/Object;)Z"⟩ : MethodName)) (z := (⟨"com/example/vigilant_schema/vigilantschema/Node$BooleanNode", "equals", "(Ljava/lang/Object;)Z"⟩ : MethodName)) hown (mvT hZ (hw _ (List.mem_of_getElem? (i := 41) rfl))) (mvT hZ (hw _ (List.mem_of_getElem? (i := 42) rfl))) (notFace_of_selects (args := #[]) (mvT hZ (hw _ (List.mem_of_getElem? (i := 44) rfl)))) (mvT hZ (hw _ (List.mem_of_getElem? (i := 44) rfl))) (mvT hZ (hw _ (List.mem_of_getElem? (i := 43) rfl))) (by decide) (backOf (W := 0) (rm8O l Z tA hw [] b360 h368) hZ (hw _ (List.mem_of_getElem? (i := 45) rfl)) (hw _ (List.mem_of_getElem? (i := 32) rfl)) (by decide) (by decide)) q380a q380c (g := (mkF m 269 #[.val (.int p0), .val (.int p1), .val (.int p2), .val (.int x2_0), .val (.int x4_0), .val (.int (0 : Int32)), .val (.int (1 : Int32)), .val (.ref b322), .val (.ref b328), .val (.ref b337), .val (.ref b348), .val (.ref b360), .val .null, .val (.int (0 : Int32)), .val (.int (1 : Int32)), .val (.int y377)] [.null, (.ref b360)])) rfl (by rw [hml]; rfl) (Steps.refl _) (argsL := [.null]) (rest := []) (lenOf own_pd2 rfl) rfl (by show 2 * 0 + _ ≤ _; exact Nat.le_of_eq rfl) (hb hby at_269) (fun _ _ => ⟨rfl, e376, (by decide : 7 + 0 ≤ _), (by decide : 18 + 0 ≤ _)⟩)
        dsimp only [Pt.U, Pt.locs, Pt.cells, Pt.slots] at X380 l380 y380 z380 st380 hQ380
        rw [l380, y380, z380] at X380
        obtain ⟨rfl, rfl, e380⟩ := hQ380
        try rw [List.append_nil] at X380
        change Stand _ _ _ _ _ _ _ _ _ _ _ _ 7 18 at X380
        refine Goes.step (fun t k => st380.trans k) ?_
        show Goes _ _ _ _ _ _ _ (T380.setTop (mkF m 272 #[.val (.int p0), .val (.int p1), .val (.int p2), .val (.int x2_0), .val (.int x4_0), .val (.int (0 : Int32)), .val (.int (1 : Int32)), .val (.ref b322), .val (.ref b328), .val (.ref b337), .val (.ref b348), .val (.ref b360), .val .null, .val (.int (0 : Int32)), .val (.int (1 : Int32)), .val (.int y377)] [(.int f8O)]))
        refine Goes.step (fun t k => XS.iload X380.here hx rfl (hb hby at_272) rfl k) ?_
        show Goes _ _ _ _ _ _ _ (T380.setTop (mkF m 274 #[.val (.int p0), .val (.int p1), .val (.int p2), .val (.int x2_0), .val (.int x4_0), .val (.int (0 : Int32)), .val (.int (1 : Int32)), .val (.ref b322), .val (.ref b328), .val (.ref b337), .val (.ref b348), .val (.ref b360), .val .null, .val (.int (0 : Int32)), .val (.int (1 : Int32)), .val (.int y377)] [(.int (0 : Int32)), (.int f8O)]))
        by_cases hc274_381 : f8O = (0 : Int32)
        · refine Goes.step (fun t k => XS.icmpNo X380.here hx rfl (hb hby at_274) rfl (teq hc274_381).2 k) ?_
          show Goes _ _ _ _ _ _ _ (T380.setTop (mkF m 277 #[.val (.int p0), .val (.int p1), .val (.int p2), .val (.int x2_0), .val (.int x4_0), .val (.int (0 : Int32)), .val (.int (1 : Int32)), .val (.ref b322), .val (.ref b328), .val (.ref b337), .val (.ref b348), .val (.ref b360), .val .null, .val (.int (0 : Int32)), .val (.int (1 : Int32)), .val (.int y377)] []))
          refine Goes.step (fun t k => XS.iconst X380.here hx rfl (hb hby at_277) k) ?_
          show Goes _ _ _ _ _ _ _ (T380.setTop (mkF m 278 #[.val (.int p0), .val (.int p1), .val (.int p2), .val (.int x2_0), .val (.int x4_0), .val (.int (0 : Int32)), .val (.int (1 : Int32)), .val (.ref b322), .val (.ref b328), .val (.ref b337), .val (.ref b348), .val (.ref b360), .val .null, .val (.int (0 : Int32)), .val (.int (1 : Int32)), .val (.int y377)] [(.int (1 : Int32))]))
          refine Goes.step (fun t k => XS.goto X380.here hx rfl (pc0 := 278) (pc' := 282) rfl (hb hby at_278) (by decide) (by decide) k) ?_
          show Goes _ _ _ _ _ _ _ (T380.setTop (mkF m 282 #[.val (.int p0), .val (.int p1), .val (.int p2), .val (.int x2_0), .val (.int x4_0), .val (.int (0 : Int32)), .val (.int (1 : Int32)), .val (.ref b322), .val (.ref b328), .val (.ref b337), .val (.ref b348), .val (.ref b360), .val .null, .val (.int (0 : Int32)), .val (.int (1 : Int32)), .val (.int y377)] [(.int (1 : Int32))]))
          exact k382 _ _ _ X380 e380 N368 ((if_neg hc257_378).trans (if_pos hc274_381)).symm
        · refine Goes.step (fun t k => XS.icmpYes X380.here hx rfl (pc0 := 274) (pc' := 281) rfl (hb hby at_274) rfl (feq hc274_381).2 (by decide) (by decide) k) ?_
          show Goes _ _ _ _ _ _ _ (T380.setTop (mkF m 281 #[.val (.int p0), .val (.int p1), .val (.int p2), .val (.int x2_0), .val (.int x4_0), .val (.int (0 : Int32)), .val (.int (1 : Int32)), .val (.ref b322), .val (.ref b328), .val (.ref b337), .val (.ref b348), .val (.ref b360), .val .null, .val (.int (0 : Int32)), .val (.int (1 : Int32)), .val (.int y377)] []))
          refine Goes.step (fun t k => XS.iconst X380.here hx rfl (hb hby at_281) k) ?_
          show Goes _ _ _ _ _ _ _ (T380.setTop (mkF m 282 #[.val (.int p0), .val (.int p1), .val (.int p2), .val (.int x2_0), .val (.int x4_0), .val (.int (0 : Int32)), .val (.int (1 : Int32)), .val (.ref b322), .val (.ref b328), .val (.ref b337), .val (.ref b348), .val (.ref b360), .val .null, .val (.int (0 : Int32)), .val (.int (1 : Int32)), .val (.int y377)] [(.int (0 : Int32))]))
          exact k382 _ _ _ X380 e380 N368 ((if_neg hc257_378).trans (if_neg hc274_381)).symm
    intro T382 L382 x382_0 X382 e382 N382 hx382_0
    exact Goes.retZ X382 hx Bd.notSynchronized (r := (1 : Int32)) Bd.returns (by simp) (hb hby at_282) (own_plain_6 p0 x2_0 y377 x382_0 hx2_0 hy377 hx382_0) ⟨rfl, N382⟩ (by decide) (by decide)
  · show Goes _ _ _ _ _ _ _ (s₁.setTop (mkF m 45 #[.val (.int p0), .val (.int p1), .val (.int p2), .val (.int x2_0), .val (.int x4_0), .val (.int (0 : Int32)), .val (.int (2 : Int32)), .unset, .unset, .unset, .unset, .unset, .unset, .unset, .unset, .unset] []))
    refine Goes.step (fun t k => XS.iconst X0.here hx rfl (hb hby at_45) k) ?_
    show Goes _ _ _ _ _ _ _ (s₁.setTop (mkF m 46 #[.val (.int p0), .val (.int p1), .val (.int p2), .val (.int x2_0), .val (.int x4_0), .val (.int (0 : Int32)), .val (.int (2 : Int32)), .unset, .unset, .unset, .unset, .unset, .unset, .unset, .unset, .unset] [(.int (2 : Int32))]))
    obtain ⟨T383, h383, k383, X383, e383, E383, A383, st383⟩ := newP X0 hx hZ (hw _ (List.mem_of_getElem? (i := 0) rfl)) e0 (g := (mkF m 46 #[.val (.int p0), .val (.int p1), .val (.int p2), .val (.int x2_0), .val (.int x4_0), .val (.int (0 : Int32)), .val (.int (2 : Int32)), .unset, .unset, .unset, .unset, .unset, .unset, .unset, .unset, .unset] [(.int (2 : Int32))])) rfl (hb hby at_46) rfl (by decide) (cap := 2) (by decide) (by decide) (by decide) (by decide)
    obtain ⟨b383, g383⟩ : ∃ z, z = h0.size := ⟨_, rfl⟩
    rw [← g383] at A383 st383
    have Zs383 : n0 ≤ b383 := Nat.le_trans Z0 (Nat.le_of_eq g383.symm)
    have Zh383 : h0.size ≤ b383 := Nat.le_trans (Keep.refl h0 []).1 (Nat.le_of_eq g383.symm)
    have F384 := S_c.ext E383
    have K383 := (Keep.refl h0 []).ext E383
    have Z383 := Nat.le_trans Z0 E383.1
    have V383 : Ara Z h383 b383 .char [(.int (0 : Int32)), (.int (0 : Int32))] := Ara.new A383 (by decide) rfl (fun _ q => nomatch q)
    refine Goes.step (fun t k => st383 t k) ?_
    show Goes _ _ _ _ _ _ _ (T383.setTop (mkF m 48 #[.val (.int p0), .val (.int p1), .val (.int p2), .val (.int x2_0), .val (.int x4_0), .val (.int (0 : Int32)), .val (.int (2 : Int32)), .unset, .unset, .unset, .unset, .unset, .unset, .unset, .unset, .unset] [(.ref b383)]))
    refine Goes.step (fun t k => XS.dup X383.here hx rfl (hb hby at_48) rfl rfl k) ?_
    show Goes _ _ _ _ _ _ _ (T383.setTop (mkF m 49 #[.val (.int p0), .val (.int p1), .val (.int p2), .val (.int x2_0), .val (.int x4_0), .val (.int (0 : Int32)), .val (.int (2 : Int32)), .unset, .unset, .unset, .unset, .unset, .unset, .unset, .unset, .unset] [(.ref b383), (.ref b383)]))
    refine Goes.step (fun t k => XS.iconst X383.here hx rfl (hb hby at_49) k) ?_
    show Goes _ _ _ _ _ _ _ (T383.setTop (mkF m 50 #[.val (.int p0), .val (.int p1), .val (.int p2), .val (.int x2_0), .val (.int x4_0), .val (.int (0 : Int32)), .val (.int (2 : Int32)), .unset, .unset, .unset, .unset, .unset, .unset, .unset, .unset, .unset] [(.int (0 : Int32)), (.ref b383), (.ref b383)]))
    refine Goes.step (fun t k => XS.iloadN X383.here hx rfl (hb hby at_50) rfl k) ?_
    show Goes _ _ _ _ _ _ _ (T383.setTop (mkF m 51 #[.val (.int p0), .val (.int p1), .val (.int p2), .val (.int x2_0), .val (.int x4_0), .val (.int (0 : Int32)), .val (.int (2 : Int32)), .unset, .unset, .unset, .unset, .unset, .unset, .unset, .unset, .unset] [(.int p1), (.int (0 : Int32)), (.ref b383), (.ref b383)]))
    refine Goes.step (fun t k => XS.sipush X383.here hx rfl (hb hby at_51) k) ?_
    show Goes _ _ _ _ _ _ _ (T383.setTop (mkF m 54 #[.val (.int p0), .val (.int p1), .val (.int p2), .val (.int x2_0), .val (.int x4_0), .val (.int (0 : Int32)), .val (.int (2 : Int32)), .unset, .unset, .unset, .unset, .unset, .unset, .unset, .unset, .unset] [(.int (255 : Int32)), (.int p1), (.int (0 : Int32)), (.ref b383), (.ref b383)]))
    refine Goes.step (fun t k => XS.iand X383.here hx rfl (hb hby at_54) rfl k) ?_
    show Goes _ _ _ _ _ _ _ (T383.setTop (mkF m 55 #[.val (.int p0), .val (.int p1), .val (.int p2), .val (.int x2_0), .val (.int x4_0), .val (.int (0 : Int32)), .val (.int (2 : Int32)), .unset, .unset, .unset, .unset, .unset, .unset, .unset, .unset, .unset] [(.int (p1 &&& (255 : Int32))), (.int (0 : Int32)), (.ref b383), (.ref b383)]))
    refine Goes.step (fun t k => XS.i2c X383.here hx rfl (hb hby at_55) rfl k) ?_
    show Goes _ _ _ _ _ _ _ (T383.setTop (mkF m 56 #[.val (.int p0), .val (.int p1), .val (.int p2), .val (.int x2_0), .val (.int x4_0), .val (.int (0 : Int32)), .val (.int (2 : Int32)), .unset, .unset, .unset, .unset, .unset, .unset, .unset, .unset, .unset] [(.int ((p1 &&& (255 : Int32)).toUInt32.toUInt16.toUInt32.toInt32)), (.int (0 : Int32)), (.ref b383), (.ref b383)]))
    obtain ⟨cl385, Ar385, q385, ll385, ff385, oo385⟩ := id V383
    have hn385 : ¬ (0 : Int32) < 0 := by decide
    have hl385 : ((0 : Int32)).toNatClampNeg < ([(.int (0 : Int32)), (.int (0 : Int32))] : List Value).length := by exact Nat.le_of_ble_eq_true rfl
    obtain ⟨T385, h385, X385, e385, W385, st385⟩ := stC X383 hx hZ e383 Ar385 (j := (0 : Int32)) (inb q385 hn385 hl385) (g := (mkF m 56 #[.val (.int p0), .val (.int p1), .val (.int p2), .val (.int x2_0), .val (.int x4_0), .val (.int (0 : Int32)), .val (.int (2 : Int32)), .unset, .unset, .unset, .unset, .unset, .unset, .unset, .unset, .unset] [(.int ((p1 &&& (255 : Int32)).toUInt32.toUInt16.toUInt32.toInt32)), (.int (0 : Int32)), (.ref b383), (.ref b383)])) rfl rfl (hb hby at_56)
    have V385 : Ara Z h385 b383 .char [(.int (nar .char ((p1 &&& (255 : Int32)).toUInt32.toUInt16.toUInt32.toInt32))), (.int (0 : Int32))] := Ara.same (j := (0 : Int32)) Ar385 q385 ll385 ff385 oo385 (fits_nar_char _) W385
    have F386 := F384.wr W385
    have K385 := K383.wr W385 (Or.inr Zh383)
    have N385 := Fr.snoc X385 N0 Zs383
    have Z385 := Nat.le_trans Z383 (Nat.le_of_eq W385.size.symm)
    refine Goes.step (fun t k => st385 t k) ?_
    show Goes _ _ _ _ _ _ _ (T385.setTop (mkF m 57 #[.val (.int p0), .val (.int p1), .val (.int p2), .val (.int x2_0), .val (.int x4_0), .val (.int (0 : Int32)), .val (.int (2 : Int32)), .unset, .unset, .unset, .unset, .unset, .unset, .unset, .unset, .unset] [(.ref b383)]))
    refine Goes.step (fun t k => XS.dup X385.here hx rfl (hb hby at_57) rfl rfl k) ?_
    show Goes _ _ _ _ _ _ _ (T385.setTop (mkF m 58 #[.val (.int p0), .val (.int p1), .val (.int p2), .val (.int x2_0), .val (.int x4_0), .val (.int (0 : Int32)), .val (.int (2 : Int32)), .unset, .unset, .unset, .unset, .unset, .unset, .unset, .unset, .unset] [(.ref b383), (.ref b383)]))
    refine Goes.step (fun t k => XS.iconst X385.here hx rfl (hb hby at_58) k) ?_
    show Goes _ _ _ _ _ _ _ (T385.setTop (mkF m 59 #[.val (.int p0), .val (.int p1), .val (.int p2), .val (.int x2_0), .val (.int x4_0), .val (.int (0 : Int32)), .val (.int (2 : Int32)), .unset, .unset, .unset, .unset, .unset, .unset, .unset, .unset, .unset] [(.int (1 : Int32)), (.ref b383), (.ref b383)]))
    refine Goes.step (fun t k => XS.iloadN X385.here hx rfl (hb hby at_59) rfl k) ?_
    show Goes _ _ _ _ _ _ _ (T385.setTop (mkF m 60 #[.val (.int p0), .val (.int p1), .val (.int p2), .val (.int x2_0), .val (.int x4_0), .val (.int (0 : Int32)), .val (.int (2 : Int32)), .unset, .unset, .unset, .unset, .unset, .unset, .unset, .unset, .unset] [(.int p1), (.int (1 : Int32)), (.ref b383), (.ref b383)]))
    refine Goes.step (fun t k => XS.bipush X385.here hx rfl (hb hby at_60) k) ?_
    show Goes _ _ _ _ _ _ _ (T385.setTop (mkF m 62 #[.val (.int p0), .val (.int p1), .val (.int p2), .val (.int x2_0), .val (.int x4_0), .val (.int (0 : Int32)), .val (.int (2 : Int32)), .unset, .unset, .unset, .unset, .unset, .unset, .unset, .unset, .unset] [(.int (8 : Int32)), (.int p1), (.int (1 : Int32)), (.ref b383), (.ref b383)]))
    refine Goes.step (fun t k => XS.iushr X385.here hx rfl (hb hby at_62) rfl k) ?_
    show Goes _ _ _ _ _ _ _ (T385.setTop (mkF m 63 #[.val (.int p0), .val (.int p1), .val (.int p2), .val (.int x2_0), .val (.int x4_0), .val (.int (0 : Int32)), .val (.int (2 : Int32)), .unset, .unset, .unset, .unset, .unset, .unset, .unset, .unset, .unset] [(.int ((p1.toUInt32 >>> ((8 : Int32) &&& 31).toUInt32).toInt32)), (.int (1 : Int32)), (.ref b383), (.ref b383)]))
    refine Goes.step (fun t k => XS.sipush X385.here hx rfl (hb hby at_63) k) ?_
    show Goes _ _ _ _ _ _ _ (T385.setTop (mkF m 66 #[.val (.int p0), .val (.int p1), .val (.int p2), .val (.int x2_0), .val (.int x4_0), .val (.int (0 : Int32)), .val (.int (2 : Int32)), .unset, .unset, .unset, .unset, .unset, .unset, .unset, .unset, .unset] [(.int (255 : Int32)), (.int ((p1.toUInt32 >>> ((8 : Int32) &&& 31).toUInt32).toInt32)), (.int (1 : Int32)), (.ref b383), (.ref b383)]))
    refine Goes.step (fun t k => XS.iand X385.here hx rfl (hb hby at_66) rfl k) ?_
    show Goes _ _ _ _ _ _ _ (T385.setTop (mkF m 67 #[.val (.int p0), .val (.int p1), .val (.int p2), .val (.int x2_0), .val (.int x4_0), .val (.int (0 : Int32)), .val (.int (2 : Int32)), .unset, .unset, .unset, .unset, .unset, .unset, .unset, .unset, .unset] [(.int (((p1.toUInt32 >>> ((8 : Int32) &&& 31).toUInt32).toInt32) &&& (255 : Int32))), (.int (1 : Int32)), (.ref b383), (.ref b383)]))
    refine Goes.step (fun t k => XS.i2c X385.here hx rfl (hb hby at_67) rfl k) ?_
    show Goes _ _ _ _ _ _ _ (T385.setTop (mkF m 68 #[.val (.int p0), .val (.int p1), .val (.int p2), .val (.int x2_0), .val (.int x4_0), .val (.int (0 : Int32)), .val (.int (2 : Int32)), .unset, .unset, .unset, .unset, .unset, .unset, .unset, .unset, .unset] [(.int ((((p1.toUInt32 >>> ((8 : Int32) &&& 31).toUInt32).toInt32) &&& (255 : Int32)).toUInt32.toUInt16.toUInt32.toInt32)), (.int (1 : Int32)), (.ref b383), (.ref b383)]))
    obtain ⟨cl387, Ar387, q387, ll387, ff387, oo387⟩ := id V385
    have hn387 : ¬ (1 : Int32) < 0 := by decide
    have hl387 : ((1 : Int32)).toNatClampNeg < ([(.int (nar .char ((p1 &&& (255 : Int32)).toUInt32.toUInt16.toUInt32.toInt32))), (.int (0 : Int32))] : List Value).length := by exact Nat.le_of_ble_eq_true rfl
    obtain ⟨T387, h387, X387, e387, W387, st387⟩ := stC X385 hx hZ e385 Ar387 (j := (1 : Int32)) (inb q387 hn387 hl387) (g := (mkF m 68 #[.val (.int p0), .val (.int p1), .val (.int p2), .val (.int x2_0), .val (.int x4_0), .val (.int (0 : Int32)), .val (.int (2 : Int32)), .unset, .unset, .unset, .unset, .unset, .unset, .unset, .unset, .unset] [(.int ((((p1.toUInt32 >>> ((8 : Int32) &&& 31).toUInt32).toInt32) &&& (255 : Int32)).toUInt32.toUInt16.toUInt32.toInt32)), (.int (1 : Int32)), (.ref b383), (.ref b383)])) rfl rfl (hb hby at_68)
    have V387 : Ara Z h387 b383 .char [(.int (nar .char ((p1 &&& (255 : Int32)).toUInt32.toUInt16.toUInt32.toInt32))), (.int (nar .char ((((p1.toUInt32 >>> ((8 : Int32) &&& 31).toUInt32).toInt32) &&& (255 : Int32)).toUInt32.toUInt16.toUInt32.toInt32)))] := Ara.same (j := (1 : Int32)) Ar387 q387 ll387 ff387 oo387 (fits_nar_char _) W387
    have F388 := F386.wr W387
    have K387 := K385.wr W387 (Or.inr Zh383)
    have N387 := Fr.snoc X387 N385 Zs383
    have Z387 := Nat.le_trans Z385 (Nat.le_of_eq W387.size.symm)
    refine Goes.step (fun t k => st387 t k) ?_
    show Goes _ _ _ _ _ _ _ (T387.setTop (mkF m 69 #[.val (.int p0), .val (.int p1), .val (.int p2), .val (.int x2_0), .val (.int x4_0), .val (.int (0 : Int32)), .val (.int (2 : Int32)), .unset, .unset, .unset, .unset, .unset, .unset, .unset, .unset, .unset] [(.ref b383)]))
    refine Goes.step (fun t k => XS.astore X387.here hx rfl (hb hby at_69) rfl rfl (l' := #[.val (.int p0), .val (.int p1), .val (.int p2), .val (.int x2_0), .val (.int x4_0), .val (.int (0 : Int32)), .val (.int (2 : Int32)), .val (.ref b383), .unset, .unset, .unset, .unset, .unset, .unset, .unset, .unset]) rfl k) ?_
    show Goes _ _ _ _ _ _ _ (T387.setTop (mkF m 71 #[.val (.int p0), .val (.int p1), .val (.int p2), .val (.int x2_0), .val (.int x4_0), .val (.int (0 : Int32)), .val (.int (2 : Int32)), .val (.ref b383), .unset, .unset, .unset, .unset, .unset, .unset, .unset, .unset] []))
    refine Goes.step (fun t k => XS.iconst X387.here hx rfl (hb hby at_71) k) ?_
    show Goes _ _ _ _ _ _ _ (T387.setTop (mkF m 72 #[.val (.int p0), .val (.int p1), .val (.int p2), .val (.int x2_0), .val (.int x4_0), .val (.int (0 : Int32)), .val (.int (2 : Int32)), .val (.ref b383), .unset, .unset, .unset, .unset, .unset, .unset, .unset, .unset] [(.int (2 : Int32))]))
    obtain ⟨T389, h389, k389, X389, e389, E389, A389, st389⟩ := newP X387 hx hZ (hw _ (List.mem_of_getElem? (i := 0) rfl)) e387 (g := (mkF m 72 #[.val (.int p0), .val (.int p1), .val (.int p2), .val (.int x2_0), .val (.int x4_0), .val (.int (0 : Int32)), .val (.int (2 : Int32)), .val (.ref b383), .unset, .unset, .unset, .unset, .unset, .unset, .unset, .unset] [(.int (2 : Int32))])) rfl (hb hby at_72) rfl (by decide) (cap := 2) (by decide) (by decide) (by decide) (by decide)
    obtain ⟨b389, g389⟩ : ∃ z, z = h387.size := ⟨_, rfl⟩
    rw [← g389] at A389 st389
    have ne_b383_b389 : b383 ≠ b389 := Nat.ne_of_lt (Nat.lt_of_lt_of_le V387.lt (Nat.le_of_eq g389.symm))
    have Zs389 : n0 ≤ b389 := Nat.le_trans Z387 (Nat.le_of_eq g389.symm)
    have Zh389 : h0.size ≤ b389 := Nat.le_trans K387.1 (Nat.le_of_eq g389.symm)
    have F390 := F388.ext E389
    have F391 := V387.ext E389
    have K389 := K387.ext E389
    have Z389 := Nat.le_trans Z387 E389.1
    have V389 : Ara Z h389 b389 .char [(.int (0 : Int32)), (.int (0 : Int32))] := Ara.new A389 (by decide) rfl (fun _ q => nomatch q)
    refine Goes.step (fun t k => st389 t k) ?_
    show Goes _ _ _ _ _ _ _ (T389.setTop (mkF m 74 #[.val (.int p0), .val (.int p1), .val (.int p2), .val (.int x2_0), .val (.int x4_0), .val (.int (0 : Int32)), .val (.int (2 : Int32)), .val (.ref b383), .unset, .unset, .unset, .unset, .unset, .unset, .unset, .unset] [(.ref b389)]))
    refine Goes.step (fun t k => XS.dup X389.here hx rfl (hb hby at_74) rfl rfl k) ?_
    show Goes _ _ _ _ _ _ _ (T389.setTop (mkF m 75 #[.val (.int p0), .val (.int p1), .val (.int p2), .val (.int x2_0), .val (.int x4_0), .val (.int (0 : Int32)), .val (.int (2 : Int32)), .val (.ref b383), .unset, .unset, .unset, .unset, .unset, .unset, .unset, .unset] [(.ref b389), (.ref b389)]))
    refine Goes.step (fun t k => XS.iconst X389.here hx rfl (hb hby at_75) k) ?_
    show Goes _ _ _ _ _ _ _ (T389.setTop (mkF m 76 #[.val (.int p0), .val (.int p1), .val (.int p2), .val (.int x2_0), .val (.int x4_0), .val (.int (0 : Int32)), .val (.int (2 : Int32)), .val (.ref b383), .unset, .unset, .unset, .unset, .unset, .unset, .unset, .unset] [(.int (0 : Int32)), (.ref b389), (.ref b389)]))
    refine Goes.step (fun t k => XS.iloadN X389.here hx rfl (hb hby at_76) rfl k) ?_
    show Goes _ _ _ _ _ _ _ (T389.setTop (mkF m 77 #[.val (.int p0), .val (.int p1), .val (.int p2), .val (.int x2_0), .val (.int x4_0), .val (.int (0 : Int32)), .val (.int (2 : Int32)), .val (.ref b383), .unset, .unset, .unset, .unset, .unset, .unset, .unset, .unset] [(.int p2), (.int (0 : Int32)), (.ref b389), (.ref b389)]))
    refine Goes.step (fun t k => XS.sipush X389.here hx rfl (hb hby at_77) k) ?_
    show Goes _ _ _ _ _ _ _ (T389.setTop (mkF m 80 #[.val (.int p0), .val (.int p1), .val (.int p2), .val (.int x2_0), .val (.int x4_0), .val (.int (0 : Int32)), .val (.int (2 : Int32)), .val (.ref b383), .unset, .unset, .unset, .unset, .unset, .unset, .unset, .unset] [(.int (255 : Int32)), (.int p2), (.int (0 : Int32)), (.ref b389), (.ref b389)]))
    refine Goes.step (fun t k => XS.iand X389.here hx rfl (hb hby at_80) rfl k) ?_
    show Goes _ _ _ _ _ _ _ (T389.setTop (mkF m 81 #[.val (.int p0), .val (.int p1), .val (.int p2), .val (.int x2_0), .val (.int x4_0), .val (.int (0 : Int32)), .val (.int (2 : Int32)), .val (.ref b383), .unset, .unset, .unset, .unset, .unset, .unset, .unset, .unset] [(.int (p2 &&& (255 : Int32))), (.int (0 : Int32)), (.ref b389), (.ref b389)]))
    refine Goes.step (fun t k => XS.i2c X389.here hx rfl (hb hby at_81) rfl k) ?_
    show Goes _ _ _ _ _ _ _ (T389.setTop (mkF m 82 #[.val (.int p0), .val (.int p1), .val (.int p2), .val (.int x2_0), .val (.int x4_0), .val (.int (0 : Int32)), .val (.int (2 : Int32)), .val (.ref b383), .unset, .unset, .unset, .unset, .unset, .unset, .unset, .unset] [(.int ((p2 &&& (255 : Int32)).toUInt32.toUInt16.toUInt32.toInt32)), (.int (0 : Int32)), (.ref b389), (.ref b389)]))
    obtain ⟨cl392, Ar392, q392, ll392, ff392, oo392⟩ := id V389
    have hn392 : ¬ (0 : Int32) < 0 := by decide
    have hl392 : ((0 : Int32)).toNatClampNeg < ([(.int (0 : Int32)), (.int (0 : Int32))] : List Value).length := by exact Nat.le_of_ble_eq_true rfl
    obtain ⟨T392, h392, X392, e392, W392, st392⟩ := stC X389 hx hZ e389 Ar392 (j := (0 : Int32)) (inb q392 hn392 hl392) (g := (mkF m 82 #[.val (.int p0), .val (.int p1), .val (.int p2), .val (.int x2_0), .val (.int x4_0), .val (.int (0 : Int32)), .val (.int (2 : Int32)), .val (.ref b383), .unset, .unset, .unset, .unset, .unset, .unset, .unset, .unset] [(.int ((p2 &&& (255 : Int32)).toUInt32.toUInt16.toUInt32.toInt32)), (.int (0 : Int32)), (.ref b389), (.ref b389)])) rfl rfl (hb hby at_82)
    have V392 : Ara Z h392 b389 .char [(.int (nar .char ((p2 &&& (255 : Int32)).toUInt32.toUInt16.toUInt32.toInt32))), (.int (0 : Int32))] := Ara.same (j := (0 : Int32)) Ar392 q392 ll392 ff392 oo392 (fits_nar_char _) W392
    have F393 := F390.wr W392
    have F394 := F391.other W392 ne_b383_b389
    have K392 := K389.wr W392 (Or.inr Zh389)
    have N392 := Fr.snoc X392 N387 Zs389
    have Z392 := Nat.le_trans Z389 (Nat.le_of_eq W392.size.symm)
    refine Goes.step (fun t k => st392 t k) ?_
    show Goes _ _ _ _ _ _ _ (T392.setTop (mkF m 83 #[.val (.int p0), .val (.int p1), .val (.int p2), .val (.int x2_0), .val (.int x4_0), .val (.int (0 : Int32)), .val (.int (2 : Int32)), .val (.ref b383), .unset, .unset, .unset, .unset, .unset, .unset, .unset, .unset] [(.ref b389)]))
    refine Goes.step (fun t k => XS.dup X392.here hx rfl (hb hby at_83) rfl rfl k) ?_
    show Goes _ _ _ _ _ _ _ (T392.setTop (mkF m 84 #[.val (.int p0), .val (.int p1), .val (.int p2), .val (.int x2_0), .val (.int x4_0), .val (.int (0 : Int32)), .val (.int (2 : Int32)), .val (.ref b383), .unset, .unset, .unset, .unset, .unset, .unset, .unset, .unset] [(.ref b389), (.ref b389)]))
    refine Goes.step (fun t k => XS.iconst X392.here hx rfl (hb hby at_84) k) ?_
    show Goes _ _ _ _ _ _ _ (T392.setTop (mkF m 85 #[.val (.int p0), .val (.int p1), .val (.int p2), .val (.int x2_0), .val (.int x4_0), .val (.int (0 : Int32)), .val (.int (2 : Int32)), .val (.ref b383), .unset, .unset, .unset, .unset, .unset, .unset, .unset, .unset] [(.int (1 : Int32)), (.ref b389), (.ref b389)]))
    refine Goes.step (fun t k => XS.iloadN X392.here hx rfl (hb hby at_85) rfl k) ?_
    show Goes _ _ _ _ _ _ _ (T392.setTop (mkF m 86 #[.val (.int p0), .val (.int p1), .val (.int p2), .val (.int x2_0), .val (.int x4_0), .val (.int (0 : Int32)), .val (.int (2 : Int32)), .val (.ref b383), .unset, .unset, .unset, .unset, .unset, .unset, .unset, .unset] [(.int p2), (.int (1 : Int32)), (.ref b389), (.ref b389)]))
    refine Goes.step (fun t k => XS.bipush X392.here hx rfl (hb hby at_86) k) ?_
    show Goes _ _ _ _ _ _ _ (T392.setTop (mkF m 88 #[.val (.int p0), .val (.int p1), .val (.int p2), .val (.int x2_0), .val (.int x4_0), .val (.int (0 : Int32)), .val (.int (2 : Int32)), .val (.ref b383), .unset, .unset, .unset, .unset, .unset, .unset, .unset, .unset] [(.int (8 : Int32)), (.int p2), (.int (1 : Int32)), (.ref b389), (.ref b389)]))
    refine Goes.step (fun t k => XS.iushr X392.here hx rfl (hb hby at_88) rfl k) ?_
    show Goes _ _ _ _ _ _ _ (T392.setTop (mkF m 89 #[.val (.int p0), .val (.int p1), .val (.int p2), .val (.int x2_0), .val (.int x4_0), .val (.int (0 : Int32)), .val (.int (2 : Int32)), .val (.ref b383), .unset, .unset, .unset, .unset, .unset, .unset, .unset, .unset] [(.int ((p2.toUInt32 >>> ((8 : Int32) &&& 31).toUInt32).toInt32)), (.int (1 : Int32)), (.ref b389), (.ref b389)]))
    refine Goes.step (fun t k => XS.sipush X392.here hx rfl (hb hby at_89) k) ?_
    show Goes _ _ _ _ _ _ _ (T392.setTop (mkF m 92 #[.val (.int p0), .val (.int p1), .val (.int p2), .val (.int x2_0), .val (.int x4_0), .val (.int (0 : Int32)), .val (.int (2 : Int32)), .val (.ref b383), .unset, .unset, .unset, .unset, .unset, .unset, .unset, .unset] [(.int (255 : Int32)), (.int ((p2.toUInt32 >>> ((8 : Int32) &&& 31).toUInt32).toInt32)), (.int (1 : Int32)), (.ref b389), (.ref b389)]))
    refine Goes.step (fun t k => XS.iand X392.here hx rfl (hb hby at_92) rfl k) ?_
    show Goes _ _ _ _ _ _ _ (T392.setTop (mkF m 93 #[.val (.int p0), .val (.int p1), .val (.int p2), .val (.int x2_0), .val (.int x4_0), .val (.int (0 : Int32)), .val (.int (2 : Int32)), .val (.ref b383), .unset, .unset, .unset, .unset, .unset, .unset, .unset, .unset] [(.int (((p2.toUInt32 >>> ((8 : Int32) &&& 31).toUInt32).toInt32) &&& (255 : Int32))), (.int (1 : Int32)), (.ref b389), (.ref b389)]))
    refine Goes.step (fun t k => XS.i2c X392.here hx rfl (hb hby at_93) rfl k) ?_
    show Goes _ _ _ _ _ _ _ (T392.setTop (mkF m 94 #[.val (.int p0), .val (.int p1), .val (.int p2), .val (.int x2_0), .val (.int x4_0), .val (.int (0 : Int32)), .val (.int (2 : Int32)), .val (.ref b383), .unset, .unset, .unset, .unset, .unset, .unset, .unset, .unset] [(.int ((((p2.toUInt32 >>> ((8 : Int32) &&& 31).toUInt32).toInt32) &&& (255 : Int32)).toUInt32.toUInt16.toUInt32.toInt32)), (.int (1 : Int32)), (.ref b389), (.ref b389)]))
    obtain ⟨cl395, Ar395, q395, ll395, ff395, oo395⟩ := id V392
    have hn395 : ¬ (1 : Int32) < 0 := by decide
    have hl395 : ((1 : Int32)).toNatClampNeg < ([(.int (nar .char ((p2 &&& (255 : Int32)).toUInt32.toUInt16.toUInt32.toInt32))), (.int (0 : Int32))] : List Value).length := by exact Nat.le_of_ble_eq_true rfl
    obtain ⟨T395, h395, X395, e395, W395, st395⟩ := stC X392 hx hZ e392 Ar395 (j := (1 : Int32)) (inb q395 hn395 hl395) (g := (mkF m 94 #[.val (.int p0), .val (.int p1), .val (.int p2), .val (.int x2_0), .val (.int x4_0), .val (.int (0 : Int32)), .val (.int (2 : Int32)), .val (.ref b383), .unset, .unset, .unset, .unset, .unset, .unset, .unset, .unset] [(.int ((((p2.toUInt32 >>> ((8 : Int32) &&& 31).toUInt32).toInt32) &&& (255 : Int32)).toUInt32.toUInt16.toUInt32.toInt32)), (.int (1 : Int32)), (.ref b389), (.ref b389)])) rfl rfl (hb hby at_94)
    have V395 : Ara Z h395 b389 .char [(.int (nar .char ((p2 &&& (255 : Int32)).toUInt32.toUInt16.toUInt32.toInt32))), (.int (nar .char ((((p2.toUInt32 >>> ((8 : Int32) &&& 31).toUInt32).toInt32) &&& (255 : Int32)).toUInt32.toUInt16.toUInt32.toInt32)))] := Ara.same (j := (1 : Int32)) Ar395 q395 ll395 ff395 oo395 (fits_nar_char _) W395
    have F396 := F393.wr W395
    have F397 := F394.other W395 ne_b383_b389
    have K395 := K392.wr W395 (Or.inr Zh389)
    have N395 := Fr.snoc X395 N392 Zs389
    have Z395 := Nat.le_trans Z392 (Nat.le_of_eq W395.size.symm)
    refine Goes.step (fun t k => st395 t k) ?_
    show Goes _ _ _ _ _ _ _ (T395.setTop (mkF m 95 #[.val (.int p0), .val (.int p1), .val (.int p2), .val (.int x2_0), .val (.int x4_0), .val (.int (0 : Int32)), .val (.int (2 : Int32)), .val (.ref b383), .unset, .unset, .unset, .unset, .unset, .unset, .unset, .unset] [(.ref b389)]))
    refine Goes.step (fun t k => XS.astore X395.here hx rfl (hb hby at_95) rfl rfl (l' := #[.val (.int p0), .val (.int p1), .val (.int p2), .val (.int x2_0), .val (.int x4_0), .val (.int (0 : Int32)), .val (.int (2 : Int32)), .val (.ref b383), .val (.ref b389), .unset, .unset, .unset, .unset, .unset, .unset, .unset]) rfl k) ?_
    show Goes _ _ _ _ _ _ _ (T395.setTop (mkF m 97 #[.val (.int p0), .val (.int p1), .val (.int p2), .val (.int x2_0), .val (.int x4_0), .val (.int (0 : Int32)), .val (.int (2 : Int32)), .val (.ref b383), .val (.ref b389), .unset, .unset, .unset, .unset, .unset, .unset, .unset] []))
    obtain ⟨T398, h398, X398, e398, E398, A398, D398, -, st398⟩ := newO X395 hx hZ hown (hw _ (List.mem_of_getElem? (i := 1) rfl)) (hw _ (List.mem_of_getElem? (i := 2) rfl)) (hw _ (List.mem_of_getElem? (i := 3) rfl)) e395 (g := (mkF m 97 #[.val (.int p0), .val (.int p1), .val (.int p2), .val (.int x2_0), .val (.int x4_0), .val (.int (0 : Int32)), .val (.int (2 : Int32)), .val (.ref b383), .val (.ref b389), .unset, .unset, .unset, .unset, .unset, .unset, .unset] [])) rfl (hb hby at_97) (by decide) (by decide)
    obtain ⟨b398, g398⟩ : ∃ z, z = h395.size := ⟨_, rfl⟩
    rw [← g398] at A398 D398 st398
    have ne_b383_b398 : b383 ≠ b398 := Nat.ne_of_lt (Nat.lt_of_lt_of_le F397.lt (Nat.le_of_eq g398.symm))
    have ne_b389_b398 : b389 ≠ b398 := Nat.ne_of_lt (Nat.lt_of_lt_of_le V395.lt (Nat.le_of_eq g398.symm))
    have Zs398 : n0 ≤ b398 := Nat.le_trans Z395 (Nat.le_of_eq g398.symm)
    have Zh398 : h0.size ≤ b398 := Nat.le_trans K395.1 (Nat.le_of_eq g398.symm)
    have F399 := F396.ext E398
    have F400 := F397.ext E398
    have F401 := V395.ext E398
    have K398 := K395.ext E398
    have Z398 := Nat.le_trans Z395 E398.1
    have F402 : Fld Z h398 b398 "java/lang/String" "coder" "B" (.int (0 : Int32)) := D398 (Or.inr (hw _ (List.mem_of_getElem? (i := 27) rfl))) (ty := .byte) (by decide)
    have F403 : Fld Z h398 b398 "java/lang/String" "value" "[B" .null := D398 (Or.inr (hw _ (List.mem_of_getElem? (i := 29) rfl))) (ty := (.array .byte)) (by decide)
    refine Goes.step (fun t k => st398 t k) ?_
    show Goes _ _ _ _ _ _ _ (T398.setTop (mkF m 100 #[.val (.int p0), .val (.int p1), .val (.int p2), .val (.int x2_0), .val (.int x4_0), .val (.int (0 : Int32)), .val (.int (2 : Int32)), .val (.ref b383), .val (.ref b389), .unset, .unset, .unset, .unset, .unset, .unset, .unset] [(.ref b398)]))
    refine Goes.step (fun t k => XS.dup X398.here hx rfl (hb hby at_100) rfl rfl k) ?_
    show Goes _ _ _ _ _ _ _ (T398.setTop (mkF m 101 #[.val (.int p0), .val (.int p1), .val (.int p2), .val (.int x2_0), .val (.int x4_0), .val (.int (0 : Int32)), .val (.int (2 : Int32)), .val (.ref b383), .val (.ref b389), .unset, .unset, .unset, .unset, .unset, .unset, .unset] [(.ref b398), (.ref b398)]))
    refine Goes.step (fun t k => XS.aload X398.here hx rfl (hb hby at_101) rfl rfl k) ?_
    show Goes _ _ _ _ _ _ _ (T398.setTop (mkF m 103 #[.val (.int p0), .val (.int p1), .val (.int p2), .val (.int x2_0), .val (.int x4_0), .val (.int (0 : Int32)), .val (.int (2 : Int32)), .val (.ref b383), .val (.ref b389), .unset, .unset, .unset, .unset, .unset, .unset, .unset] [(.ref b383), (.ref b398), (.ref b398)]))
    obtain ⟨kc404, Kc404⟩ := own_arv (N := (2 : Int32)) (.int (0 : Int32)) F400 (by decide) rfl
    have hlat404 : ∀ c ∈ [(nar .char ((p1 &&& (255 : Int32)).toUInt32.toUInt16.toUInt32.toInt32)), (nar .char ((((p1.toUInt32 >>> ((8 : Int32) &&& 31).toUInt32).toInt32) &&& (255 : Int32)).toUInt32.toUInt16.toUInt32.toInt32))], ¬ c < 0 ∧ ¬ (255 : Int32) < c := by
      intro c hc
      simp only [List.mem_cons, List.not_mem_nil, or_false] at hc
      rcases hc with rfl | rfl <;> exact own_lat _
    obtain ⟨_, _, ⟨T404, L404, k404, n404⟩, -, X404, ⟨Lc404, hQ404, l404, y404, z404⟩, st404⟩ := X398.specialBack hx (y := (⟨"java/lang/String", "<init>", "([C)V"⟩ : MethodName)) rfl hown (mvT hZ (hw _ (List.mem_of_getElem? (i := 4) rfl))) (mvT hZ (hw _ (List.mem_of_getElem? (i := 5) rfl))) (mvT hZ (hw _ (List.mem_of_getElem? (i := 6) rfl))) (by decide) (StrChars.Road.backV (W := 1) hZ hws (kI := 4) (hw _ (List.mem_of_getElem? (i := 2) rfl)) (cs := [(nar .char ((p1 &&& (255 : Int32)).toUInt32.toUInt16.toUInt32.toInt32)), (nar .char ((((p1.toUInt32 >>> ((8 : Int32) &&& 31).toUInt32).toInt32) &&& (255 : Int32)).toUInt32.toUInt16.toUInt32.toInt32))]) (bs := [((nar .char ((p1 &&& (255 : Int32)).toUInt32.toUInt16.toUInt32.toInt32))).toInt8.toInt32, ((nar .char ((((p1.toUInt32 >>> ((8 : Int32) &&& 31).toUInt32).toInt32) &&& (255 : Int32)).toUInt32.toUInt16.toUInt32.toInt32))).toInt8.toInt32]) (n := 2) (n0 := n0) Zs398 Z398 A398 F403 F402 Kc404 F399 P3 rfl rfl (by decide) (by decide) hlat404 rfl (by decide) (by decide)) (g := (mkF m 103 #[.val (.int p0), .val (.int p1), .val (.int p2), .val (.int x2_0), .val (.int x4_0), .val (.int (0 : Int32)), .val (.int (2 : Int32)), .val (.ref b383), .val (.ref b389), .unset, .unset, .unset, .unset, .unset, .unset, .unset] [(.ref b383), (.ref b398), (.ref b398)])) rfl (by rw [hml]; rfl) (Steps.refl _) (a := b398) (argsL := [(.ref b383)]) (rest := [(.ref b398)]) (lenOf own_pd0 rfl) rfl (by show 2 * 0 + _ ≤ _; exact Nat.le_of_eq rfl) (hb hby at_103) (fun _ _ => ⟨rfl, e398, (by decide : 3 + 1 ≤ _), (by decide : 8 + 2 ≤ _)⟩)
    dsimp only [Pt.U, Pt.locs, Pt.cells, Pt.slots] at X404 l404 y404 z404 st404 hQ404
    rw [l404, y404, z404] at X404
    replace hQ404 := own_qv hQ404
    generalize e404 : T404.heap = h404 at hQ404
    obtain ⟨rfl, Nq404, Kq404, G404_0⟩ := hQ404
    have F405 := own_sta_keep F399 Kq404 (allS (notsta_exa A398) all0)
    have F406 := F400.keep Kq404 (ninS ne_b383_b398 nin0)
    have F407 := F401.keep Kq404 (ninS ne_b389_b398 nin0)
    have N404 := Fr.app N395 Nq404
    have K404 := K398.trans Kq404 (allS (Or.inr Zh398) all0)
    have Z404 := Nat.le_trans Z398 Kq404.1
    change Stand _ _ _ _ _ _ _ _ _ _ _ _ 4 10 at X404
    refine Goes.step (fun t k => st404.trans k) ?_
    show Goes _ _ _ _ _ _ _ (T404.setTop (mkF m 106 #[.val (.int p0), .val (.int p1), .val (.int p2), .val (.int x2_0), .val (.int x4_0), .val (.int (0 : Int32)), .val (.int (2 : Int32)), .val (.ref b383), .val (.ref b389), .unset, .unset, .unset, .unset, .unset, .unset, .unset] [(.ref b398)]))
    refine Goes.step (fun t k => XS.astore X404.here hx rfl (hb hby at_106) rfl rfl (l' := #[.val (.int p0), .val (.int p1), .val (.int p2), .val (.int x2_0), .val (.int x4_0), .val (.int (0 : Int32)), .val (.int (2 : Int32)), .val (.ref b383), .val (.ref b389), .val (.ref b398), .unset, .unset, .unset, .unset, .unset, .unset]) rfl k) ?_
    show Goes _ _ _ _ _ _ _ (T404.setTop (mkF m 108 #[.val (.int p0), .val (.int p1), .val (.int p2), .val (.int x2_0), .val (.int x4_0), .val (.int (0 : Int32)), .val (.int (2 : Int32)), .val (.ref b383), .val (.ref b389), .val (.ref b398), .unset, .unset, .unset, .unset, .unset, .unset] []))
    refine Goes.step (fun t k => XS.iload X404.here hx rfl (hb hby at_108) rfl k) ?_
    show Goes _ _ _ _ _ _ _ (T404.setTop (mkF m 110 #[.val (.int p0), .val (.int p1), .val (.int p2), .val (.int x2_0), .val (.int x4_0), .val (.int (0 : Int32)), .val (.int (2 : Int32)), .val (.ref b383), .val (.ref b389), .val (.ref b398), .unset, .unset, .unset, .unset, .unset, .unset] [(.int (0 : Int32))]))
    refine Goes.step (fun t k => XS.ifYes X404.here hx rfl (pc0 := 110) (pc' := 118) rfl (hb hby at_110) rfl ((if0 _ _).trans (teq (by decide)).1) (by decide) (by decide) k) ?_
    show Goes _ _ _ _ _ _ _ (T404.setTop (mkF m 118 #[.val (.int p0), .val (.int p1), .val (.int p2), .val (.int x2_0), .val (.int x4_0), .val (.int (0 : Int32)), .val (.int (2 : Int32)), .val (.ref b383), .val (.ref b389), .val (.ref b398), .unset, .unset, .unset, .unset, .unset, .unset] []))
    obtain ⟨T409, h409, X409, e409, E409, A409, D409, -, st409⟩ := newO X404 hx hZ hown (hw _ (List.mem_of_getElem? (i := 1) rfl)) (hw _ (List.mem_of_getElem? (i := 2) rfl)) (hw _ (List.mem_of_getElem? (i := 3) rfl)) e404 (g := (mkF m 118 #[.val (.int p0), .val (.int p1), .val (.int p2), .val (.int x2_0), .val (.int x4_0), .val (.int (0 : Int32)), .val (.int (2 : Int32)), .val (.ref b383), .val (.ref b389), .val (.ref b398), .unset, .unset, .unset, .unset, .unset, .unset] [])) rfl (hb hby at_118) (by decide) (by decide)
    obtain ⟨b409, g409⟩ : ∃ z, z = h404.size := ⟨_, rfl⟩
    rw [← g409] at A409 D409 st409
    have ne_b383_b409 : b383 ≠ b409 := Nat.ne_of_lt (Nat.lt_of_lt_of_le F406.lt (Nat.le_of_eq g409.symm))
    have ne_b389_b409 : b389 ≠ b409 := Nat.ne_of_lt (Nat.lt_of_lt_of_le F407.lt (Nat.le_of_eq g409.symm))
    have ne_b398_b409 : b398 ≠ b409 := Nat.ne_of_lt (Nat.lt_of_lt_of_le G404_0.lt (Nat.le_of_eq g409.symm))
    have Zs409 : n0 ≤ b409 := Nat.le_trans Z404 (Nat.le_of_eq g409.symm)
    have Zh409 : h0.size ≤ b409 := Nat.le_trans K404.1 (Nat.le_of_eq g409.symm)
    have F410 := F405.ext E409
    have F411 := F406.ext E409
    have F412 := F407.ext E409
    have F413 := G404_0.ext E409
    have K409 := K404.ext E409
    have Z409 := Nat.le_trans Z404 E409.1
    have F414 : Fld Z h409 b409 "java/lang/String" "coder" "B" (.int (0 : Int32)) := D409 (Or.inr (hw _ (List.mem_of_getElem? (i := 27) rfl))) (ty := .byte) (by decide)
    have F415 : Fld Z h409 b409 "java/lang/String" "value" "[B" .null := D409 (Or.inr (hw _ (List.mem_of_getElem? (i := 29) rfl))) (ty := (.array .byte)) (by decide)
    refine Goes.step (fun t k => st409 t k) ?_
    show Goes _ _ _ _ _ _ _ (T409.setTop (mkF m 121 #[.val (.int p0), .val (.int p1), .val (.int p2), .val (.int x2_0), .val (.int x4_0), .val (.int (0 : Int32)), .val (.int (2 : Int32)), .val (.ref b383), .val (.ref b389), .val (.ref b398), .unset, .unset, .unset, .unset, .unset, .unset] [(.ref b409)]))
    refine Goes.step (fun t k => XS.dup X409.here hx rfl (hb hby at_121) rfl rfl k) ?_
    show Goes _ _ _ _ _ _ _ (T409.setTop (mkF m 122 #[.val (.int p0), .val (.int p1), .val (.int p2), .val (.int x2_0), .val (.int x4_0), .val (.int (0 : Int32)), .val (.int (2 : Int32)), .val (.ref b383), .val (.ref b389), .val (.ref b398), .unset, .unset, .unset, .unset, .unset, .unset] [(.ref b409), (.ref b409)]))
    refine Goes.step (fun t k => XS.aload X409.here hx rfl (hb hby at_122) rfl rfl k) ?_
    show Goes _ _ _ _ _ _ _ (T409.setTop (mkF m 124 #[.val (.int p0), .val (.int p1), .val (.int p2), .val (.int x2_0), .val (.int x4_0), .val (.int (0 : Int32)), .val (.int (2 : Int32)), .val (.ref b383), .val (.ref b389), .val (.ref b398), .unset, .unset, .unset, .unset, .unset, .unset] [(.ref b389), (.ref b409), (.ref b409)]))
    obtain ⟨kc416, Kc416⟩ := own_arv (N := (2 : Int32)) (.int (0 : Int32)) F412 (by decide) rfl
    have hlat416 : ∀ c ∈ [(nar .char ((p2 &&& (255 : Int32)).toUInt32.toUInt16.toUInt32.toInt32)), (nar .char ((((p2.toUInt32 >>> ((8 : Int32) &&& 31).toUInt32).toInt32) &&& (255 : Int32)).toUInt32.toUInt16.toUInt32.toInt32))], ¬ c < 0 ∧ ¬ (255 : Int32) < c := by
      intro c hc
      simp only [List.mem_cons, List.not_mem_nil, or_false] at hc
      rcases hc with rfl | rfl <;> exact own_lat _
    obtain ⟨_, _, ⟨T416, L416, k416, n416⟩, -, X416, ⟨Lc416, hQ416, l416, y416, z416⟩, st416⟩ := X409.specialBack hx (y := (⟨"java/lang/String", "<init>", "([C)V"⟩ : MethodName)) rfl hown (mvT hZ (hw _ (List.mem_of_getElem? (i := 4) rfl))) (mvT hZ (hw _ (List.mem_of_getElem? (i := 5) rfl))) (mvT hZ (hw _ (List.mem_of_getElem? (i := 6) rfl))) (by decide) (StrChars.Road.backV (W := 1) hZ hws (kI := 4) (hw _ (List.mem_of_getElem? (i := 2) rfl)) (cs := [(nar .char ((p2 &&& (255 : Int32)).toUInt32.toUInt16.toUInt32.toInt32)), (nar .char ((((p2.toUInt32 >>> ((8 : Int32) &&& 31).toUInt32).toInt32) &&& (255 : Int32)).toUInt32.toUInt16.toUInt32.toInt32))]) (bs := [((nar .char ((p2 &&& (255 : Int32)).toUInt32.toUInt16.toUInt32.toInt32))).toInt8.toInt32, ((nar .char ((((p2.toUInt32 >>> ((8 : Int32) &&& 31).toUInt32).toInt32) &&& (255 : Int32)).toUInt32.toUInt16.toUInt32.toInt32))).toInt8.toInt32]) (n := 2) (n0 := n0) Zs409 Z409 A409 F415 F414 Kc416 F410 P3 rfl rfl (by decide) (by decide) hlat416 rfl (by decide) (by decide)) (g := (mkF m 124 #[.val (.int p0), .val (.int p1), .val (.int p2), .val (.int x2_0), .val (.int x4_0), .val (.int (0 : Int32)), .val (.int (2 : Int32)), .val (.ref b383), .val (.ref b389), .val (.ref b398), .unset, .unset, .unset, .unset, .unset, .unset] [(.ref b389), (.ref b409), (.ref b409)])) rfl (by rw [hml]; rfl) (Steps.refl _) (a := b409) (argsL := [(.ref b389)]) (rest := [(.ref b409)]) (lenOf own_pd0 rfl) rfl (by show 2 * 0 + _ ≤ _; exact Nat.le_of_eq rfl) (hb hby at_124) (fun _ _ => ⟨rfl, e409, (by decide : 5 + 1 ≤ _), (by decide : 14 + 2 ≤ _)⟩)
    dsimp only [Pt.U, Pt.locs, Pt.cells, Pt.slots] at X416 l416 y416 z416 st416 hQ416
    rw [l416, y416, z416] at X416
    replace hQ416 := own_qv hQ416
    generalize e416 : T416.heap = h416 at hQ416
    obtain ⟨rfl, Nq416, Kq416, G416_0⟩ := hQ416
    have F417 := own_sta_keep F410 Kq416 (allS (notsta_exa A409) all0)
    have F418 := F411.keep Kq416 (ninS ne_b383_b409 nin0)
    have F419 := F412.keep Kq416 (ninS ne_b389_b409 nin0)
    have F420 := F413.keep Kq416
    have N416 := Fr.app N404 Nq416
    have K416 := K409.trans Kq416 (allS (Or.inr Zh409) all0)
    have Z416 := Nat.le_trans Z409 Kq416.1
    change Stand _ _ _ _ _ _ _ _ _ _ _ _ 6 16 at X416
    refine Goes.step (fun t k => st416.trans k) ?_
    show Goes _ _ _ _ _ _ _ (T416.setTop (mkF m 127 #[.val (.int p0), .val (.int p1), .val (.int p2), .val (.int x2_0), .val (.int x4_0), .val (.int (0 : Int32)), .val (.int (2 : Int32)), .val (.ref b383), .val (.ref b389), .val (.ref b398), .unset, .unset, .unset, .unset, .unset, .unset] [(.ref b409)]))
    refine Goes.step (fun t k => XS.astore X416.here hx rfl (hb hby at_127) rfl rfl (l' := #[.val (.int p0), .val (.int p1), .val (.int p2), .val (.int x2_0), .val (.int x4_0), .val (.int (0 : Int32)), .val (.int (2 : Int32)), .val (.ref b383), .val (.ref b389), .val (.ref b398), .val (.ref b409), .unset, .unset, .unset, .unset, .unset]) rfl k) ?_
    show Goes _ _ _ _ _ _ _ (T416.setTop (mkF m 129 #[.val (.int p0), .val (.int p1), .val (.int p2), .val (.int x2_0), .val (.int x4_0), .val (.int (0 : Int32)), .val (.int (2 : Int32)), .val (.ref b383), .val (.ref b389), .val (.ref b398), .val (.ref b409), .unset, .unset, .unset, .unset, .unset] []))
    obtain ⟨T421, h421, X421, e421, E421, A421, D421, -, st421⟩ := newO X416 hx hZ hown (hw _ (List.mem_of_getElem? (i := 30) rfl)) (hw _ (List.mem_of_getElem? (i := 31) rfl)) (hw _ (List.mem_of_getElem? (i := 32) rfl)) e416 (g := (mkF m 129 #[.val (.int p0), .val (.int p1), .val (.int p2), .val (.int x2_0), .val (.int x4_0), .val (.int (0 : Int32)), .val (.int (2 : Int32)), .val (.ref b383), .val (.ref b389), .val (.ref b398), .val (.ref b409), .unset, .unset, .unset, .unset, .unset] [])) rfl (hb hby at_129) (by decide) (by decide)
    obtain ⟨b421, g421⟩ : ∃ z, z = h416.size := ⟨_, rfl⟩
    rw [← g421] at A421 D421 st421
    have ne_b383_b421 : b383 ≠ b421 := Nat.ne_of_lt (Nat.lt_of_lt_of_le F418.lt (Nat.le_of_eq g421.symm))
    have ne_b389_b421 : b389 ≠ b421 := Nat.ne_of_lt (Nat.lt_of_lt_of_le F419.lt (Nat.le_of_eq g421.symm))
    have ne_b398_b421 : b398 ≠ b421 := Nat.ne_of_lt (Nat.lt_of_lt_of_le F420.lt (Nat.le_of_eq g421.symm))
    have ne_b409_b421 : b409 ≠ b421 := Nat.ne_of_lt (Nat.lt_of_lt_of_le G416_0.lt (Nat.le_of_eq g421.symm))
    have Zs421 : n0 ≤ b421 := Nat.le_trans Z416 (Nat.le_of_eq g421.symm)
    have Zh421 : h0.size ≤ b421 := Nat.le_trans K416.1 (Nat.le_of_eq g421.symm)
    have F422 := F417.ext E421
    have F423 := F418.ext E421
    have F424 := F419.ext E421
    have F425 := F420.ext E421
    have F426 := G416_0.ext E421
    have K421 := K416.ext E421
    have Z421 := Nat.le_trans Z416 E421.1
    have F427 : Fld Z h421 b421 "com/example/vigilant_schema/vigilantschema/Node$BooleanNode" "value" "Z" (.int (0 : Int32)) := D421 (Or.inr (hw _ (List.mem_of_getElem? (i := 38) rfl))) (ty := .boolean) (by decide)
    have F428 : Fld Z h421 b421 "com/example/vigilant_schema/vigilantschema/Node$BooleanNode" "written" "Ljava/lang/String;" .null := D421 (Or.inr (hw _ (List.mem_of_getElem? (i := 40) rfl))) (ty := (.object "java/lang/String")) (by decide)
    refine Goes.step (fun t k => st421 t k) ?_
    show Goes _ _ _ _ _ _ _ (T421.setTop (mkF m 132 #[.val (.int p0), .val (.int p1), .val (.int p2), .val (.int x2_0), .val (.int x4_0), .val (.int (0 : Int32)), .val (.int (2 : Int32)), .val (.ref b383), .val (.ref b389), .val (.ref b398), .val (.ref b409), .unset, .unset, .unset, .unset, .unset] [(.ref b421)]))
    refine Goes.step (fun t k => XS.dup X421.here hx rfl (hb hby at_132) rfl rfl k) ?_
    show Goes _ _ _ _ _ _ _ (T421.setTop (mkF m 133 #[.val (.int p0), .val (.int p1), .val (.int p2), .val (.int x2_0), .val (.int x4_0), .val (.int (0 : Int32)), .val (.int (2 : Int32)), .val (.ref b383), .val (.ref b389), .val (.ref b398), .val (.ref b409), .unset, .unset, .unset, .unset, .unset] [(.ref b421), (.ref b421)]))
    refine Goes.step (fun t k => XS.iloadN X421.here hx rfl (hb hby at_133) rfl k) ?_
    show Goes _ _ _ _ _ _ _ (T421.setTop (mkF m 134 #[.val (.int p0), .val (.int p1), .val (.int p2), .val (.int x2_0), .val (.int x4_0), .val (.int (0 : Int32)), .val (.int (2 : Int32)), .val (.ref b383), .val (.ref b389), .val (.ref b398), .val (.ref b409), .unset, .unset, .unset, .unset, .unset] [(.int x2_0), (.ref b421), (.ref b421)]))
    refine Goes.step (fun t k => XS.aload X421.here hx rfl (hb hby at_134) rfl rfl k) ?_
    show Goes _ _ _ _ _ _ _ (T421.setTop (mkF m 136 #[.val (.int p0), .val (.int p1), .val (.int p2), .val (.int x2_0), .val (.int x4_0), .val (.int (0 : Int32)), .val (.int (2 : Int32)), .val (.ref b383), .val (.ref b389), .val (.ref b398), .val (.ref b409), .unset, .unset, .unset, .unset, .unset] [(.ref b398), (.int x2_0), (.ref b421), (.ref b421)]))
    obtain ⟨_, _, ⟨T429, L429, k429, n429⟩, -, X429, ⟨Lc429, hQ429, l429, y429, z429⟩, st429⟩ := X421.specialBack hx (y := (⟨"com/example/vigilant_schema/vigilantschema/Node$BooleanNode", "<init>", "(ZLjava/lang/String;)V"⟩ : MethodName)) rfl hown (mvT hZ (hw _ (List.mem_of_getElem? (i := 33) rfl))) (mvT hZ (hw _ (List.mem_of_getElem? (i := 34) rfl))) (mvT hZ (hw _ (List.mem_of_getElem? (i := 35) rfl))) (by decide) (backOf (W := 1) (rm7 l Z tA hw [] b421 x2_0 b398 h421 n0 Z421 A421 F427 F428 Zs421) hZ (hw _ (List.mem_of_getElem? (i := 35) rfl)) (hw _ (List.mem_of_getElem? (i := 32) rfl)) (by decide) (by decide)) (g := (mkF m 136 #[.val (.int p0), .val (.int p1), .val (.int p2), .val (.int x2_0), .val (.int x4_0), .val (.int (0 : Int32)), .val (.int (2 : Int32)), .val (.ref b383), .val (.ref b389), .val (.ref b398), .val (.ref b409), .unset, .unset, .unset, .unset, .unset] [(.ref b398), (.int x2_0), (.ref b421), (.ref b421)])) rfl (by rw [hml]; rfl) (Steps.refl _) (a := b421) (argsL := [(.int x2_0), (.ref b398)]) (rest := [(.ref b421)]) (lenOf own_pd1 rfl) rfl (by show 2 * 0 + _ ≤ _; exact Nat.le_of_eq rfl) (hb hby at_136) (fun _ _ => ⟨rfl, e421, (by decide : 7 + 0 ≤ _), (by decide : 18 + 0 ≤ _)⟩)
    dsimp only [Pt.U, Pt.locs, Pt.cells, Pt.slots] at X429 l429 y429 z429 st429 hQ429
    rw [l429, y429, z429] at X429
    generalize e429 : T429.heap = h429 at hQ429
    obtain ⟨rfl, Nq429, Kq429, G429_0, G429_1, G429_2⟩ := hQ429
    have F430 := own_sta_keep F422 Kq429 (allS (notsta_exa A421) all0)
    have F431 := F423.keep Kq429 (ninS ne_b383_b421 nin0)
    have F432 := F424.keep Kq429 (ninS ne_b389_b421 nin0)
    have F433 := F425.keep Kq429
    have F434 := F426.keep Kq429
    have N429 := Fr.app N416 Nq429
    have K429 := K421.trans Kq429 (allS (Or.inr Zh421) all0)
    have Z429 := Nat.le_trans Z421 Kq429.1
    change Stand _ _ _ _ _ _ _ _ _ _ _ _ 7 18 at X429
    refine Goes.step (fun t k => st429.trans k) ?_
    show Goes _ _ _ _ _ _ _ (T429.setTop (mkF m 139 #[.val (.int p0), .val (.int p1), .val (.int p2), .val (.int x2_0), .val (.int x4_0), .val (.int (0 : Int32)), .val (.int (2 : Int32)), .val (.ref b383), .val (.ref b389), .val (.ref b398), .val (.ref b409), .unset, .unset, .unset, .unset, .unset] [(.ref b421)]))
    refine Goes.step (fun t k => XS.astore X429.here hx rfl (hb hby at_139) rfl rfl (l' := #[.val (.int p0), .val (.int p1), .val (.int p2), .val (.int x2_0), .val (.int x4_0), .val (.int (0 : Int32)), .val (.int (2 : Int32)), .val (.ref b383), .val (.ref b389), .val (.ref b398), .val (.ref b409), .val (.ref b421), .unset, .unset, .unset, .unset]) rfl k) ?_
    show Goes _ _ _ _ _ _ _ (T429.setTop (mkF m 141 #[.val (.int p0), .val (.int p1), .val (.int p2), .val (.int x2_0), .val (.int x4_0), .val (.int (0 : Int32)), .val (.int (2 : Int32)), .val (.ref b383), .val (.ref b389), .val (.ref b398), .val (.ref b409), .val (.ref b421), .unset, .unset, .unset, .unset] []))
    refine Goes.step (fun t k => XS.iconst X429.here hx rfl (hb hby at_141) k) ?_
    show Goes _ _ _ _ _ _ _ (T429.setTop (mkF m 142 #[.val (.int p0), .val (.int p1), .val (.int p2), .val (.int x2_0), .val (.int x4_0), .val (.int (0 : Int32)), .val (.int (2 : Int32)), .val (.ref b383), .val (.ref b389), .val (.ref b398), .val (.ref b409), .val (.ref b421), .unset, .unset, .unset, .unset] [(.int (1 : Int32))]))
    refine Goes.step (fun t k => XS.istore X429.here hx rfl (hb hby at_142) rfl (l' := #[.val (.int p0), .val (.int p1), .val (.int p2), .val (.int x2_0), .val (.int x4_0), .val (.int (0 : Int32)), .val (.int (2 : Int32)), .val (.ref b383), .val (.ref b389), .val (.ref b398), .val (.ref b409), .val (.ref b421), .unset, .unset, .val (.int (1 : Int32)), .unset]) rfl k) ?_
    show Goes _ _ _ _ _ _ _ (T429.setTop (mkF m 144 #[.val (.int p0), .val (.int p1), .val (.int p2), .val (.int x2_0), .val (.int x4_0), .val (.int (0 : Int32)), .val (.int (2 : Int32)), .val (.ref b383), .val (.ref b389), .val (.ref b398), .val (.ref b409), .val (.ref b421), .unset, .unset, .val (.int (1 : Int32)), .unset] []))
    refine Goes.step (fun t k => XS.iload X429.here hx rfl (hb hby at_144) rfl k) ?_
    show Goes _ _ _ _ _ _ _ (T429.setTop (mkF m 146 #[.val (.int p0), .val (.int p1), .val (.int p2), .val (.int x2_0), .val (.int x4_0), .val (.int (0 : Int32)), .val (.int (2 : Int32)), .val (.ref b383), .val (.ref b389), .val (.ref b398), .val (.ref b409), .val (.ref b421), .unset, .unset, .val (.int (1 : Int32)), .unset] [(.int (2 : Int32))]))
    refine Goes.step (fun t k => XS.ifYes X429.here hx rfl (pc0 := 146) (pc' := 201) rfl (hb hby at_146) rfl ((if0 _ _).trans (feq (by decide)).2) (by decide) (by decide) k) ?_
    show Goes _ _ _ _ _ _ _ (T429.setTop (mkF m 201 #[.val (.int p0), .val (.int p1), .val (.int p2), .val (.int x2_0), .val (.int x4_0), .val (.int (0 : Int32)), .val (.int (2 : Int32)), .val (.ref b383), .val (.ref b389), .val (.ref b398), .val (.ref b409), .val (.ref b421), .unset, .unset, .val (.int (1 : Int32)), .unset] []))
    refine Goes.step (fun t k => XS.iload X429.here hx rfl (hb hby at_201) rfl k) ?_
    show Goes _ _ _ _ _ _ _ (T429.setTop (mkF m 203 #[.val (.int p0), .val (.int p1), .val (.int p2), .val (.int x2_0), .val (.int x4_0), .val (.int (0 : Int32)), .val (.int (2 : Int32)), .val (.ref b383), .val (.ref b389), .val (.ref b398), .val (.ref b409), .val (.ref b421), .unset, .unset, .val (.int (1 : Int32)), .unset] [(.int (2 : Int32))]))
    refine Goes.step (fun t k => XS.iconst X429.here hx rfl (hb hby at_203) k) ?_
    show Goes _ _ _ _ _ _ _ (T429.setTop (mkF m 204 #[.val (.int p0), .val (.int p1), .val (.int p2), .val (.int x2_0), .val (.int x4_0), .val (.int (0 : Int32)), .val (.int (2 : Int32)), .val (.ref b383), .val (.ref b389), .val (.ref b398), .val (.ref b409), .val (.ref b421), .unset, .unset, .val (.int (1 : Int32)), .unset] [(.int (1 : Int32)), (.int (2 : Int32))]))
    refine Goes.step (fun t k => XS.icmpYes X429.here hx rfl (pc0 := 204) (pc' := 216) rfl (hb hby at_204) rfl (feq (by decide)).2 (by decide) (by decide) k) ?_
    show Goes _ _ _ _ _ _ _ (T429.setTop (mkF m 216 #[.val (.int p0), .val (.int p1), .val (.int p2), .val (.int x2_0), .val (.int x4_0), .val (.int (0 : Int32)), .val (.int (2 : Int32)), .val (.ref b383), .val (.ref b389), .val (.ref b398), .val (.ref b409), .val (.ref b421), .unset, .unset, .val (.int (1 : Int32)), .unset] []))
    refine Goes.step (fun t k => XS.iload X429.here hx rfl (hb hby at_216) rfl k) ?_
    show Goes _ _ _ _ _ _ _ (T429.setTop (mkF m 218 #[.val (.int p0), .val (.int p1), .val (.int p2), .val (.int x2_0), .val (.int x4_0), .val (.int (0 : Int32)), .val (.int (2 : Int32)), .val (.ref b383), .val (.ref b389), .val (.ref b398), .val (.ref b409), .val (.ref b421), .unset, .unset, .val (.int (1 : Int32)), .unset] [(.int (2 : Int32))]))
    refine Goes.step (fun t k => XS.iconst X429.here hx rfl (hb hby at_218) k) ?_
    show Goes _ _ _ _ _ _ _ (T429.setTop (mkF m 219 #[.val (.int p0), .val (.int p1), .val (.int p2), .val (.int x2_0), .val (.int x4_0), .val (.int (0 : Int32)), .val (.int (2 : Int32)), .val (.ref b383), .val (.ref b389), .val (.ref b398), .val (.ref b409), .val (.ref b421), .unset, .unset, .val (.int (1 : Int32)), .unset] [(.int (2 : Int32)), (.int (2 : Int32))]))
    refine Goes.step (fun t k => XS.icmpNo X429.here hx rfl (hb hby at_219) rfl (teq (by decide)).2 k) ?_
    show Goes _ _ _ _ _ _ _ (T429.setTop (mkF m 222 #[.val (.int p0), .val (.int p1), .val (.int p2), .val (.int x2_0), .val (.int x4_0), .val (.int (0 : Int32)), .val (.int (2 : Int32)), .val (.ref b383), .val (.ref b389), .val (.ref b398), .val (.ref b409), .val (.ref b421), .unset, .unset, .val (.int (1 : Int32)), .unset] []))
    refine Goes.step (fun t k => XS.aload X429.here hx rfl (hb hby at_222) rfl rfl k) ?_
    show Goes _ _ _ _ _ _ _ (T429.setTop (mkF m 224 #[.val (.int p0), .val (.int p1), .val (.int p2), .val (.int x2_0), .val (.int x4_0), .val (.int (0 : Int32)), .val (.int (2 : Int32)), .val (.ref b383), .val (.ref b389), .val (.ref b398), .val (.ref b409), .val (.ref b421), .unset, .unset, .val (.int (1 : Int32)), .unset] [(.ref b409)]))
    refine Goes.step (fun t k => XS.astore X429.here hx rfl (hb hby at_224) rfl rfl (l' := #[.val (.int p0), .val (.int p1), .val (.int p2), .val (.int x2_0), .val (.int x4_0), .val (.int (0 : Int32)), .val (.int (2 : Int32)), .val (.ref b383), .val (.ref b389), .val (.ref b398), .val (.ref b409), .val (.ref b421), .val (.ref b409), .unset, .val (.int (1 : Int32)), .unset]) rfl k) ?_
    show Goes _ _ _ _ _ _ _ (T429.setTop (mkF m 226 #[.val (.int p0), .val (.int p1), .val (.int p2), .val (.int x2_0), .val (.int x4_0), .val (.int (0 : Int32)), .val (.int (2 : Int32)), .val (.ref b383), .val (.ref b389), .val (.ref b398), .val (.ref b409), .val (.ref b421), .val (.ref b409), .unset, .val (.int (1 : Int32)), .unset] []))
    refine Goes.step (fun t k => XS.iconst X429.here hx rfl (hb hby at_226) k) ?_
    show Goes _ _ _ _ _ _ _ (T429.setTop (mkF m 227 #[.val (.int p0), .val (.int p1), .val (.int p2), .val (.int x2_0), .val (.int x4_0), .val (.int (0 : Int32)), .val (.int (2 : Int32)), .val (.ref b383), .val (.ref b389), .val (.ref b398), .val (.ref b409), .val (.ref b421), .val (.ref b409), .unset, .val (.int (1 : Int32)), .unset] [(.int (0 : Int32))]))
    refine Goes.step (fun t k => XS.istore X429.here hx rfl (hb hby at_227) rfl (l' := #[.val (.int p0), .val (.int p1), .val (.int p2), .val (.int x2_0), .val (.int x4_0), .val (.int (0 : Int32)), .val (.int (2 : Int32)), .val (.ref b383), .val (.ref b389), .val (.ref b398), .val (.ref b409), .val (.ref b421), .val (.ref b409), .val (.int (0 : Int32)), .val (.int (1 : Int32)), .unset]) rfl k) ?_
    show Goes _ _ _ _ _ _ _ (T429.setTop (mkF m 229 #[.val (.int p0), .val (.int p1), .val (.int p2), .val (.int x2_0), .val (.int x4_0), .val (.int (0 : Int32)), .val (.int (2 : Int32)), .val (.ref b383), .val (.ref b389), .val (.ref b398), .val (.ref b409), .val (.ref b421), .val (.ref b409), .val (.int (0 : Int32)), .val (.int (1 : Int32)), .unset] []))
    refine Goes.step (fun t k => XS.goto X429.here hx rfl (pc0 := 229) (pc' := 246) rfl (hb hby at_229) (by decide) (by decide) k) ?_
    show Goes _ _ _ _ _ _ _ (T429.setTop (mkF m 246 #[.val (.int p0), .val (.int p1), .val (.int p2), .val (.int x2_0), .val (.int x4_0), .val (.int (0 : Int32)), .val (.int (2 : Int32)), .val (.ref b383), .val (.ref b389), .val (.ref b398), .val (.ref b409), .val (.ref b421), .val (.ref b409), .val (.int (0 : Int32)), .val (.int (1 : Int32)), .unset] []))
    refine Goes.step (fun t k => XS.aload X429.here hx rfl (hb hby at_246) rfl rfl k) ?_
    show Goes _ _ _ _ _ _ _ (T429.setTop (mkF m 248 #[.val (.int p0), .val (.int p1), .val (.int p2), .val (.int x2_0), .val (.int x4_0), .val (.int (0 : Int32)), .val (.int (2 : Int32)), .val (.ref b383), .val (.ref b389), .val (.ref b398), .val (.ref b409), .val (.ref b421), .val (.ref b409), .val (.int (0 : Int32)), .val (.int (1 : Int32)), .unset] [(.ref b421)]))
    refine Goes.step (fun t k => XS.aload X429.here hx rfl (hb hby at_248) rfl rfl k) ?_
    show Goes _ _ _ _ _ _ _ (T429.setTop (mkF m 250 #[.val (.int p0), .val (.int p1), .val (.int p2), .val (.int x2_0), .val (.int x4_0), .val (.int (0 : Int32)), .val (.int (2 : Int32)), .val (.ref b383), .val (.ref b389), .val (.ref b398), .val (.ref b409), .val (.ref b421), .val (.ref b409), .val (.int (0 : Int32)), .val (.int (1 : Int32)), .unset] [(.ref b421), (.ref b421)]))
    obtain ⟨cq438, kq438, q438a, q438b, q438c⟩ := isOf hZ e429 G429_0
    obtain ⟨_, _, ⟨T438, L438, k438, n438⟩, -, X438, ⟨Lc438, hQ438, l438, y438, z438⟩, st438⟩ := X429.virtualBack hx (y := (⟨"com/example/vigilant_schema/vigilantschema/Node$BooleanNode", "equals", "(Ljava/lang/Object;)Z"⟩ : MethodName)) (z := (⟨"com/example/vigilant_schema/vigilantschema/Node$BooleanNode", "equals", "(Ljava/lang/Object;)Z"⟩ : MethodName)) hown (mvT hZ (hw _ (List.mem_of_getElem? (i := 41) rfl))) (mvT hZ (hw _ (List.mem_of_getElem? (i := 42) rfl))) (notFace_of_selects (args := #[]) (mvT hZ (hw _ (List.mem_of_getElem? (i := 44) rfl)))) (mvT hZ (hw _ (List.mem_of_getElem? (i := 44) rfl))) (mvT hZ (hw _ (List.mem_of_getElem? (i := 43) rfl))) (by decide) (backOf (W := 0) (rm8B l Z tA hw [] b421 b421 (nar .boolean x2_0) (nar .boolean x2_0) h429 G429_0 G429_1 G429_1) hZ (hw _ (List.mem_of_getElem? (i := 45) rfl)) (hw _ (List.mem_of_getElem? (i := 32) rfl)) (by decide) (by decide)) q438a q438c (g := (mkF m 250 #[.val (.int p0), .val (.int p1), .val (.int p2), .val (.int x2_0), .val (.int x4_0), .val (.int (0 : Int32)), .val (.int (2 : Int32)), .val (.ref b383), .val (.ref b389), .val (.ref b398), .val (.ref b409), .val (.ref b421), .val (.ref b409), .val (.int (0 : Int32)), .val (.int (1 : Int32)), .unset] [(.ref b421), (.ref b421)])) rfl (by rw [hml]; rfl) (Steps.refl _) (argsL := [(.ref b421)]) (rest := []) (lenOf own_pd2 rfl) rfl (by show 2 * 0 + _ ≤ _; exact Nat.le_of_eq rfl) (hb hby at_250) (fun _ _ => ⟨rfl, e429, (by decide : 7 + 0 ≤ _), (by decide : 18 + 0 ≤ _)⟩)
    dsimp only [Pt.U, Pt.locs, Pt.cells, Pt.slots] at X438 l438 y438 z438 st438 hQ438
    rw [l438, y438, z438] at X438
    obtain ⟨rfl, rfl, e438⟩ := hQ438
    try rw [List.append_nil] at X438
    change Stand _ _ _ _ _ _ _ _ _ _ _ _ 7 18 at X438
    refine Goes.step (fun t k => st438.trans k) ?_
    show Goes _ _ _ _ _ _ _ (T438.setTop (mkF m 253 #[.val (.int p0), .val (.int p1), .val (.int p2), .val (.int x2_0), .val (.int x4_0), .val (.int (0 : Int32)), .val (.int (2 : Int32)), .val (.ref b383), .val (.ref b389), .val (.ref b398), .val (.ref b409), .val (.ref b421), .val (.ref b409), .val (.int (0 : Int32)), .val (.int (1 : Int32)), .unset] [(.int (f8B (nar .boolean x2_0) (nar .boolean x2_0)))]))
    refine Goes.step (fun t k => XS.istore X438.here hx rfl (hb hby at_253) rfl (l' := #[.val (.int p0), .val (.int p1), .val (.int p2), .val (.int x2_0), .val (.int x4_0), .val (.int (0 : Int32)), .val (.int (2 : Int32)), .val (.ref b383), .val (.ref b389), .val (.ref b398), .val (.ref b409), .val (.ref b421), .val (.ref b409), .val (.int (0 : Int32)), .val (.int (1 : Int32)), .val (.int (f8B (nar .boolean x2_0) (nar .boolean x2_0)))]) rfl k) ?_
    show Goes _ _ _ _ _ _ _ (T438.setTop (mkF m 255 #[.val (.int p0), .val (.int p1), .val (.int p2), .val (.int x2_0), .val (.int x4_0), .val (.int (0 : Int32)), .val (.int (2 : Int32)), .val (.ref b383), .val (.ref b389), .val (.ref b398), .val (.ref b409), .val (.ref b421), .val (.ref b409), .val (.int (0 : Int32)), .val (.int (1 : Int32)), .val (.int (f8B (nar .boolean x2_0) (nar .boolean x2_0)))] []))
    generalize hy439 : (f8B (nar .boolean x2_0) (nar .boolean x2_0)) = y439
    refine Goes.step (fun t k => XS.iload X438.here hx rfl (hb hby at_255) rfl k) ?_
    show Goes _ _ _ _ _ _ _ (T438.setTop (mkF m 257 #[.val (.int p0), .val (.int p1), .val (.int p2), .val (.int x2_0), .val (.int x4_0), .val (.int (0 : Int32)), .val (.int (2 : Int32)), .val (.ref b383), .val (.ref b389), .val (.ref b398), .val (.ref b409), .val (.ref b421), .val (.ref b409), .val (.int (0 : Int32)), .val (.int (1 : Int32)), .val (.int y439)] [(.int y439)]))
    suffices k444 : ∀ (T444 : State) (L444 : List Loc) (x444_0 : Int32), Stand p l e room_1 s m #[(.int p0), (.int p1), (.int p2)] below meth c T444 L444 7 18 → T444.heap = h429 → Fr n0 L444 → x444_0 = (if y439 = (0 : Int32) then (0 : Int32) else (if f8S = (0 : Int32) then (1 : Int32) else (0 : Int32))) → Goes p e below s (Q0 Z p0 p1 p2 wC h0 n0) kC0 kS0 (T444.setTop (mkF m 282 #[.val (.int p0), .val (.int p1), .val (.int p2), .val (.int x2_0), .val (.int x4_0), .val (.int (0 : Int32)), .val (.int (2 : Int32)), .val (.ref b383), .val (.ref b389), .val (.ref b398), .val (.ref b409), .val (.ref b421), .val (.ref b409), .val (.int (0 : Int32)), .val (.int (1 : Int32)), .val (.int y439)] [(.int x444_0)])) by
      by_cases hc257_440 : y439 = (0 : Int32)
      · refine Goes.step (fun t k => XS.ifYes X438.here hx rfl (pc0 := 257) (pc' := 281) rfl (hb hby at_257) rfl ((if0 _ _).trans (teq hc257_440).1) (by decide) (by decide) k) ?_
        show Goes _ _ _ _ _ _ _ (T438.setTop (mkF m 281 #[.val (.int p0), .val (.int p1), .val (.int p2), .val (.int x2_0), .val (.int x4_0), .val (.int (0 : Int32)), .val (.int (2 : Int32)), .val (.ref b383), .val (.ref b389), .val (.ref b398), .val (.ref b409), .val (.ref b421), .val (.ref b409), .val (.int (0 : Int32)), .val (.int (1 : Int32)), .val (.int y439)] []))
        refine Goes.step (fun t k => XS.iconst X438.here hx rfl (hb hby at_281) k) ?_
        show Goes _ _ _ _ _ _ _ (T438.setTop (mkF m 282 #[.val (.int p0), .val (.int p1), .val (.int p2), .val (.int x2_0), .val (.int x4_0), .val (.int (0 : Int32)), .val (.int (2 : Int32)), .val (.ref b383), .val (.ref b389), .val (.ref b398), .val (.ref b409), .val (.ref b421), .val (.ref b409), .val (.int (0 : Int32)), .val (.int (1 : Int32)), .val (.int y439)] [(.int (0 : Int32))]))
        exact k444 _ _ _ X438 e438 N429 (if_pos hc257_440).symm
      · refine Goes.step (fun t k => XS.ifNo X438.here hx rfl (hb hby at_257) rfl ((if0 _ _).trans (feq hc257_440).1) k) ?_
        show Goes _ _ _ _ _ _ _ (T438.setTop (mkF m 260 #[.val (.int p0), .val (.int p1), .val (.int p2), .val (.int x2_0), .val (.int x4_0), .val (.int (0 : Int32)), .val (.int (2 : Int32)), .val (.ref b383), .val (.ref b389), .val (.ref b398), .val (.ref b409), .val (.ref b421), .val (.ref b409), .val (.int (0 : Int32)), .val (.int (1 : Int32)), .val (.int y439)] []))
        refine Goes.step (fun t k => XS.iload X438.here hx rfl (hb hby at_260) rfl k) ?_
        show Goes _ _ _ _ _ _ _ (T438.setTop (mkF m 262 #[.val (.int p0), .val (.int p1), .val (.int p2), .val (.int x2_0), .val (.int x4_0), .val (.int (0 : Int32)), .val (.int (2 : Int32)), .val (.ref b383), .val (.ref b389), .val (.ref b398), .val (.ref b409), .val (.ref b421), .val (.ref b409), .val (.int (0 : Int32)), .val (.int (1 : Int32)), .val (.int y439)] [(.int (1 : Int32))]))
        refine Goes.step (fun t k => XS.ifNo X438.here hx rfl (hb hby at_262) rfl ((if0 _ _).trans (feq (by decide)).1) k) ?_
        show Goes _ _ _ _ _ _ _ (T438.setTop (mkF m 265 #[.val (.int p0), .val (.int p1), .val (.int p2), .val (.int x2_0), .val (.int x4_0), .val (.int (0 : Int32)), .val (.int (2 : Int32)), .val (.ref b383), .val (.ref b389), .val (.ref b398), .val (.ref b409), .val (.ref b421), .val (.ref b409), .val (.int (0 : Int32)), .val (.int (1 : Int32)), .val (.int y439)] []))
        refine Goes.step (fun t k => XS.aload X438.here hx rfl (hb hby at_265) rfl rfl k) ?_
        show Goes _ _ _ _ _ _ _ (T438.setTop (mkF m 267 #[.val (.int p0), .val (.int p1), .val (.int p2), .val (.int x2_0), .val (.int x4_0), .val (.int (0 : Int32)), .val (.int (2 : Int32)), .val (.ref b383), .val (.ref b389), .val (.ref b398), .val (.ref b409), .val (.ref b421), .val (.ref b409), .val (.int (0 : Int32)), .val (.int (1 : Int32)), .val (.int y439)] [(.ref b421)]))
        refine Goes.step (fun t k => XS.aload X438.here hx rfl (hb hby at_267) rfl rfl k) ?_
        show Goes _ _ _ _ _ _ _ (T438.setTop (mkF m 269 #[.val (.int p0), .val (.int p1), .val (.int p2), .val (.int x2_0), .val (.int x4_0), .val (.int (0 : Int32)), .val (.int (2 : Int32)), .val (.ref b383), .val (.ref b389), .val (.ref b398), .val (.ref b409), .val (.ref b421), .val (.ref b409), .val (.int (0 : Int32)), .val (.int (1 : Int32)), .val (.int y439)] [(.ref b409), (.ref b421)]))
        obtain ⟨cq442, kq442, q442a, q442b, q442c⟩ := isOf hZ e438 G429_0
        obtain ⟨_, _, ⟨T442, L442, k442, n442⟩, -, X442, ⟨Lc442, hQ442, l442, y442, z442⟩, st442⟩ := X438.virtualBack hx (y := (⟨"com/example/vigilant_schema/vigilantschema/Node$BooleanNode", "equals", "(Ljava/lang/Object;)Z"⟩ : MethodName)) (z := (⟨"com/example/vigilant_schema/vigilantschema/Node$BooleanNode", "equals", "(Ljava/lang/Object;)Z"⟩ : MethodName)) hown (mvT hZ (hw _ (List.mem_of_getElem? (i := 41) rfl))) (mvT hZ (hw _ (List.mem_of_getElem? (i := 42) rfl))) (notFace_of_selects (args := #[]) (mvT hZ (hw _ (List.mem_of_getElem? (i := 44) rfl)))) (mvT hZ (hw _ (List.mem_of_getElem? (i := 44) rfl))) (mvT hZ (hw _ (List.mem_of_getElem? (i := 43) rfl))) (by decide) (backOf (W := 0) (rm8S l Z tA hw [] b421 b409 h429 F434) hZ (hw _ (List.mem_of_getElem? (i := 45) rfl)) (hw _ (List.mem_of_getElem? (i := 32) rfl)) (by decide) (by decide)) q442a q442c (g := (mkF m 269 #[.val (.int p0), .val (.int p1), .val (.int p2), .val (.int x2_0), .val (.int x4_0), .val (.int (0 : Int32)), .val (.int (2 : Int32)), .val (.ref b383), .val (.ref b389), .val (.ref b398), .val (.ref b409), .val (.ref b421), .val (.ref b409), .val (.int (0 : Int32)), .val (.int (1 : Int32)), .val (.int y439)] [(.ref b409), (.ref b421)])) rfl (by rw [hml]; rfl) (Steps.refl _) (argsL := [(.ref b409)]) (rest := []) (lenOf own_pd2 rfl) rfl (by show 2 * 0 + _ ≤ _; exact Nat.le_of_eq rfl) (hb hby at_269) (fun _ _ => ⟨rfl, e438, (by decide : 7 + 0 ≤ _), (by decide : 18 + 0 ≤ _)⟩)
        dsimp only [Pt.U, Pt.locs, Pt.cells, Pt.slots] at X442 l442 y442 z442 st442 hQ442
        rw [l442, y442, z442] at X442
        obtain ⟨rfl, rfl, e442⟩ := hQ442
        try rw [List.append_nil] at X442
        change Stand _ _ _ _ _ _ _ _ _ _ _ _ 7 18 at X442
        refine Goes.step (fun t k => st442.trans k) ?_
        show Goes _ _ _ _ _ _ _ (T442.setTop (mkF m 272 #[.val (.int p0), .val (.int p1), .val (.int p2), .val (.int x2_0), .val (.int x4_0), .val (.int (0 : Int32)), .val (.int (2 : Int32)), .val (.ref b383), .val (.ref b389), .val (.ref b398), .val (.ref b409), .val (.ref b421), .val (.ref b409), .val (.int (0 : Int32)), .val (.int (1 : Int32)), .val (.int y439)] [(.int f8S)]))
        refine Goes.step (fun t k => XS.iload X442.here hx rfl (hb hby at_272) rfl k) ?_
        show Goes _ _ _ _ _ _ _ (T442.setTop (mkF m 274 #[.val (.int p0), .val (.int p1), .val (.int p2), .val (.int x2_0), .val (.int x4_0), .val (.int (0 : Int32)), .val (.int (2 : Int32)), .val (.ref b383), .val (.ref b389), .val (.ref b398), .val (.ref b409), .val (.ref b421), .val (.ref b409), .val (.int (0 : Int32)), .val (.int (1 : Int32)), .val (.int y439)] [(.int (0 : Int32)), (.int f8S)]))
        by_cases hc274_443 : f8S = (0 : Int32)
        · refine Goes.step (fun t k => XS.icmpNo X442.here hx rfl (hb hby at_274) rfl (teq hc274_443).2 k) ?_
          show Goes _ _ _ _ _ _ _ (T442.setTop (mkF m 277 #[.val (.int p0), .val (.int p1), .val (.int p2), .val (.int x2_0), .val (.int x4_0), .val (.int (0 : Int32)), .val (.int (2 : Int32)), .val (.ref b383), .val (.ref b389), .val (.ref b398), .val (.ref b409), .val (.ref b421), .val (.ref b409), .val (.int (0 : Int32)), .val (.int (1 : Int32)), .val (.int y439)] []))
          refine Goes.step (fun t k => XS.iconst X442.here hx rfl (hb hby at_277) k) ?_
          show Goes _ _ _ _ _ _ _ (T442.setTop (mkF m 278 #[.val (.int p0), .val (.int p1), .val (.int p2), .val (.int x2_0), .val (.int x4_0), .val (.int (0 : Int32)), .val (.int (2 : Int32)), .val (.ref b383), .val (.ref b389), .val (.ref b398), .val (.ref b409), .val (.ref b421), .val (.ref b409), .val (.int (0 : Int32)), .val (.int (1 : Int32)), .val (.int y439)] [(.int (1 : Int32))]))
          refine Goes.step (fun t k => XS.goto X442.here hx rfl (pc0 := 278) (pc' := 282) rfl (hb hby at_278) (by decide) (by decide) k) ?_
          show Goes _ _ _ _ _ _ _ (T442.setTop (mkF m 282 #[.val (.int p0), .val (.int p1), .val (.int p2), .val (.int x2_0), .val (.int x4_0), .val (.int (0 : Int32)), .val (.int (2 : Int32)), .val (.ref b383), .val (.ref b389), .val (.ref b398), .val (.ref b409), .val (.ref b421), .val (.ref b409), .val (.int (0 : Int32)), .val (.int (1 : Int32)), .val (.int y439)] [(.int (1 : Int32))]))
          exact k444 _ _ _ X442 e442 N429 ((if_neg hc257_440).trans (if_pos hc274_443)).symm
        · refine Goes.step (fun t k => XS.icmpYes X442.here hx rfl (pc0 := 274) (pc' := 281) rfl (hb hby at_274) rfl (feq hc274_443).2 (by decide) (by decide) k) ?_
          show Goes _ _ _ _ _ _ _ (T442.setTop (mkF m 281 #[.val (.int p0), .val (.int p1), .val (.int p2), .val (.int x2_0), .val (.int x4_0), .val (.int (0 : Int32)), .val (.int (2 : Int32)), .val (.ref b383), .val (.ref b389), .val (.ref b398), .val (.ref b409), .val (.ref b421), .val (.ref b409), .val (.int (0 : Int32)), .val (.int (1 : Int32)), .val (.int y439)] []))
          refine Goes.step (fun t k => XS.iconst X442.here hx rfl (hb hby at_281) k) ?_
          show Goes _ _ _ _ _ _ _ (T442.setTop (mkF m 282 #[.val (.int p0), .val (.int p1), .val (.int p2), .val (.int x2_0), .val (.int x4_0), .val (.int (0 : Int32)), .val (.int (2 : Int32)), .val (.ref b383), .val (.ref b389), .val (.ref b398), .val (.ref b409), .val (.ref b421), .val (.ref b409), .val (.int (0 : Int32)), .val (.int (1 : Int32)), .val (.int y439)] [(.int (0 : Int32))]))
          exact k444 _ _ _ X442 e442 N429 ((if_neg hc257_440).trans (if_neg hc274_443)).symm
    intro T444 L444 x444_0 X444 e444 N444 hx444_0
    exact Goes.retZ X444 hx Bd.notSynchronized (r := (1 : Int32)) Bd.returns (by simp) (hb hby at_282) (own_plain_7 p0 x2_0 y439 x444_0 hx2_0 hy439 hx444_0) ⟨rfl, N444⟩ (by decide) (by decide)
  · show Goes _ _ _ _ _ _ _ (s₁.setTop (mkF m 45 #[.val (.int p0), .val (.int p1), .val (.int p2), .val (.int x2_0), .val (.int x4_0), .val (.int (0 : Int32)), .val (.int (3 : Int32)), .unset, .unset, .unset, .unset, .unset, .unset, .unset, .unset, .unset] []))
    refine Goes.step (fun t k => XS.iconst X0.here hx rfl (hb hby at_45) k) ?_
    show Goes _ _ _ _ _ _ _ (s₁.setTop (mkF m 46 #[.val (.int p0), .val (.int p1), .val (.int p2), .val (.int x2_0), .val (.int x4_0), .val (.int (0 : Int32)), .val (.int (3 : Int32)), .unset, .unset, .unset, .unset, .unset, .unset, .unset, .unset, .unset] [(.int (2 : Int32))]))
    obtain ⟨T445, h445, k445, X445, e445, E445, A445, st445⟩ := newP X0 hx hZ (hw _ (List.mem_of_getElem? (i := 0) rfl)) e0 (g := (mkF m 46 #[.val (.int p0), .val (.int p1), .val (.int p2), .val (.int x2_0), .val (.int x4_0), .val (.int (0 : Int32)), .val (.int (3 : Int32)), .unset, .unset, .unset, .unset, .unset, .unset, .unset, .unset, .unset] [(.int (2 : Int32))])) rfl (hb hby at_46) rfl (by decide) (cap := 2) (by decide) (by decide) (by decide) (by decide)
    obtain ⟨b445, g445⟩ : ∃ z, z = h0.size := ⟨_, rfl⟩
    rw [← g445] at A445 st445
    have Zs445 : n0 ≤ b445 := Nat.le_trans Z0 (Nat.le_of_eq g445.symm)
    have Zh445 : h0.size ≤ b445 := Nat.le_trans (Keep.refl h0 []).1 (Nat.le_of_eq g445.symm)
    have F446 := S_c.ext E445
    have K445 := (Keep.refl h0 []).ext E445
    have Z445 := Nat.le_trans Z0 E445.1
    have V445 : Ara Z h445 b445 .char [(.int (0 : Int32)), (.int (0 : Int32))] := Ara.new A445 (by decide) rfl (fun _ q => nomatch q)
    refine Goes.step (fun t k => st445 t k) ?_
    show Goes _ _ _ _ _ _ _ (T445.setTop (mkF m 48 #[.val (.int p0), .val (.int p1), .val (.int p2), .val (.int x2_0), .val (.int x4_0), .val (.int (0 : Int32)), .val (.int (3 : Int32)), .unset, .unset, .unset, .unset, .unset, .unset, .unset, .unset, .unset] [(.ref b445)]))
    refine Goes.step (fun t k => XS.dup X445.here hx rfl (hb hby at_48) rfl rfl k) ?_
    show Goes _ _ _ _ _ _ _ (T445.setTop (mkF m 49 #[.val (.int p0), .val (.int p1), .val (.int p2), .val (.int x2_0), .val (.int x4_0), .val (.int (0 : Int32)), .val (.int (3 : Int32)), .unset, .unset, .unset, .unset, .unset, .unset, .unset, .unset, .unset] [(.ref b445), (.ref b445)]))
    refine Goes.step (fun t k => XS.iconst X445.here hx rfl (hb hby at_49) k) ?_
    show Goes _ _ _ _ _ _ _ (T445.setTop (mkF m 50 #[.val (.int p0), .val (.int p1), .val (.int p2), .val (.int x2_0), .val (.int x4_0), .val (.int (0 : Int32)), .val (.int (3 : Int32)), .unset, .unset, .unset, .unset, .unset, .unset, .unset, .unset, .unset] [(.int (0 : Int32)), (.ref b445), (.ref b445)]))
    refine Goes.step (fun t k => XS.iloadN X445.here hx rfl (hb hby at_50) rfl k) ?_
    show Goes _ _ _ _ _ _ _ (T445.setTop (mkF m 51 #[.val (.int p0), .val (.int p1), .val (.int p2), .val (.int x2_0), .val (.int x4_0), .val (.int (0 : Int32)), .val (.int (3 : Int32)), .unset, .unset, .unset, .unset, .unset, .unset, .unset, .unset, .unset] [(.int p1), (.int (0 : Int32)), (.ref b445), (.ref b445)]))
    refine Goes.step (fun t k => XS.sipush X445.here hx rfl (hb hby at_51) k) ?_
    show Goes _ _ _ _ _ _ _ (T445.setTop (mkF m 54 #[.val (.int p0), .val (.int p1), .val (.int p2), .val (.int x2_0), .val (.int x4_0), .val (.int (0 : Int32)), .val (.int (3 : Int32)), .unset, .unset, .unset, .unset, .unset, .unset, .unset, .unset, .unset] [(.int (255 : Int32)), (.int p1), (.int (0 : Int32)), (.ref b445), (.ref b445)]))
    refine Goes.step (fun t k => XS.iand X445.here hx rfl (hb hby at_54) rfl k) ?_
    show Goes _ _ _ _ _ _ _ (T445.setTop (mkF m 55 #[.val (.int p0), .val (.int p1), .val (.int p2), .val (.int x2_0), .val (.int x4_0), .val (.int (0 : Int32)), .val (.int (3 : Int32)), .unset, .unset, .unset, .unset, .unset, .unset, .unset, .unset, .unset] [(.int (p1 &&& (255 : Int32))), (.int (0 : Int32)), (.ref b445), (.ref b445)]))
    refine Goes.step (fun t k => XS.i2c X445.here hx rfl (hb hby at_55) rfl k) ?_
    show Goes _ _ _ _ _ _ _ (T445.setTop (mkF m 56 #[.val (.int p0), .val (.int p1), .val (.int p2), .val (.int x2_0), .val (.int x4_0), .val (.int (0 : Int32)), .val (.int (3 : Int32)), .unset, .unset, .unset, .unset, .unset, .unset, .unset, .unset, .unset] [(.int ((p1 &&& (255 : Int32)).toUInt32.toUInt16.toUInt32.toInt32)), (.int (0 : Int32)), (.ref b445), (.ref b445)]))
    obtain ⟨cl447, Ar447, q447, ll447, ff447, oo447⟩ := id V445
    have hn447 : ¬ (0 : Int32) < 0 := by decide
    have hl447 : ((0 : Int32)).toNatClampNeg < ([(.int (0 : Int32)), (.int (0 : Int32))] : List Value).length := by exact Nat.le_of_ble_eq_true rfl
    obtain ⟨T447, h447, X447, e447, W447, st447⟩ := stC X445 hx hZ e445 Ar447 (j := (0 : Int32)) (inb q447 hn447 hl447) (g := (mkF m 56 #[.val (.int p0), .val (.int p1), .val (.int p2), .val (.int x2_0), .val (.int x4_0), .val (.int (0 : Int32)), .val (.int (3 : Int32)), .unset, .unset, .unset, .unset, .unset, .unset, .unset, .unset, .unset] [(.int ((p1 &&& (255 : Int32)).toUInt32.toUInt16.toUInt32.toInt32)), (.int (0 : Int32)), (.ref b445), (.ref b445)])) rfl rfl (hb hby at_56)
    have V447 : Ara Z h447 b445 .char [(.int (nar .char ((p1 &&& (255 : Int32)).toUInt32.toUInt16.toUInt32.toInt32))), (.int (0 : Int32))] := Ara.same (j := (0 : Int32)) Ar447 q447 ll447 ff447 oo447 (fits_nar_char _) W447
    have F448 := F446.wr W447
    have K447 := K445.wr W447 (Or.inr Zh445)
    have N447 := Fr.snoc X447 N0 Zs445
    have Z447 := Nat.le_trans Z445 (Nat.le_of_eq W447.size.symm)
    refine Goes.step (fun t k => st447 t k) ?_
    show Goes _ _ _ _ _ _ _ (T447.setTop (mkF m 57 #[.val (.int p0), .val (.int p1), .val (.int p2), .val (.int x2_0), .val (.int x4_0), .val (.int (0 : Int32)), .val (.int (3 : Int32)), .unset, .unset, .unset, .unset, .unset, .unset, .unset, .unset, .unset] [(.ref b445)]))
    refine Goes.step (fun t k => XS.dup X447.here hx rfl (hb hby at_57) rfl rfl k) ?_
    show Goes _ _ _ _ _ _ _ (T447.setTop (mkF m 58 #[.val (.int p0), .val (.int p1), .val (.int p2), .val (.int x2_0), .val (.int x4_0), .val (.int (0 : Int32)), .val (.int (3 : Int32)), .unset, .unset, .unset, .unset, .unset, .unset, .unset, .unset, .unset] [(.ref b445), (.ref b445)]))
    refine Goes.step (fun t k => XS.iconst X447.here hx rfl (hb hby at_58) k) ?_
    show Goes _ _ _ _ _ _ _ (T447.setTop (mkF m 59 #[.val (.int p0), .val (.int p1), .val (.int p2), .val (.int x2_0), .val (.int x4_0), .val (.int (0 : Int32)), .val (.int (3 : Int32)), .unset, .unset, .unset, .unset, .unset, .unset, .unset, .unset, .unset] [(.int (1 : Int32)), (.ref b445), (.ref b445)]))
    refine Goes.step (fun t k => XS.iloadN X447.here hx rfl (hb hby at_59) rfl k) ?_
    show Goes _ _ _ _ _ _ _ (T447.setTop (mkF m 60 #[.val (.int p0), .val (.int p1), .val (.int p2), .val (.int x2_0), .val (.int x4_0), .val (.int (0 : Int32)), .val (.int (3 : Int32)), .unset, .unset, .unset, .unset, .unset, .unset, .unset, .unset, .unset] [(.int p1), (.int (1 : Int32)), (.ref b445), (.ref b445)]))
    refine Goes.step (fun t k => XS.bipush X447.here hx rfl (hb hby at_60) k) ?_
    show Goes _ _ _ _ _ _ _ (T447.setTop (mkF m 62 #[.val (.int p0), .val (.int p1), .val (.int p2), .val (.int x2_0), .val (.int x4_0), .val (.int (0 : Int32)), .val (.int (3 : Int32)), .unset, .unset, .unset, .unset, .unset, .unset, .unset, .unset, .unset] [(.int (8 : Int32)), (.int p1), (.int (1 : Int32)), (.ref b445), (.ref b445)]))
    refine Goes.step (fun t k => XS.iushr X447.here hx rfl (hb hby at_62) rfl k) ?_
    show Goes _ _ _ _ _ _ _ (T447.setTop (mkF m 63 #[.val (.int p0), .val (.int p1), .val (.int p2), .val (.int x2_0), .val (.int x4_0), .val (.int (0 : Int32)), .val (.int (3 : Int32)), .unset, .unset, .unset, .unset, .unset, .unset, .unset, .unset, .unset] [(.int ((p1.toUInt32 >>> ((8 : Int32) &&& 31).toUInt32).toInt32)), (.int (1 : Int32)), (.ref b445), (.ref b445)]))
    refine Goes.step (fun t k => XS.sipush X447.here hx rfl (hb hby at_63) k) ?_
    show Goes _ _ _ _ _ _ _ (T447.setTop (mkF m 66 #[.val (.int p0), .val (.int p1), .val (.int p2), .val (.int x2_0), .val (.int x4_0), .val (.int (0 : Int32)), .val (.int (3 : Int32)), .unset, .unset, .unset, .unset, .unset, .unset, .unset, .unset, .unset] [(.int (255 : Int32)), (.int ((p1.toUInt32 >>> ((8 : Int32) &&& 31).toUInt32).toInt32)), (.int (1 : Int32)), (.ref b445), (.ref b445)]))
    refine Goes.step (fun t k => XS.iand X447.here hx rfl (hb hby at_66) rfl k) ?_
    show Goes _ _ _ _ _ _ _ (T447.setTop (mkF m 67 #[.val (.int p0), .val (.int p1), .val (.int p2), .val (.int x2_0), .val (.int x4_0), .val (.int (0 : Int32)), .val (.int (3 : Int32)), .unset, .unset, .unset, .unset, .unset, .unset, .unset, .unset, .unset] [(.int (((p1.toUInt32 >>> ((8 : Int32) &&& 31).toUInt32).toInt32) &&& (255 : Int32))), (.int (1 : Int32)), (.ref b445), (.ref b445)]))
    refine Goes.step (fun t k => XS.i2c X447.here hx rfl (hb hby at_67) rfl k) ?_
    show Goes _ _ _ _ _ _ _ (T447.setTop (mkF m 68 #[.val (.int p0), .val (.int p1), .val (.int p2), .val (.int x2_0), .val (.int x4_0), .val (.int (0 : Int32)), .val (.int (3 : Int32)), .unset, .unset, .unset, .unset, .unset, .unset, .unset, .unset, .unset] [(.int ((((p1.toUInt32 >>> ((8 : Int32) &&& 31).toUInt32).toInt32) &&& (255 : Int32)).toUInt32.toUInt16.toUInt32.toInt32)), (.int (1 : Int32)), (.ref b445), (.ref b445)]))
    obtain ⟨cl449, Ar449, q449, ll449, ff449, oo449⟩ := id V447
    have hn449 : ¬ (1 : Int32) < 0 := by decide
    have hl449 : ((1 : Int32)).toNatClampNeg < ([(.int (nar .char ((p1 &&& (255 : Int32)).toUInt32.toUInt16.toUInt32.toInt32))), (.int (0 : Int32))] : List Value).length := by exact Nat.le_of_ble_eq_true rfl
    obtain ⟨T449, h449, X449, e449, W449, st449⟩ := stC X447 hx hZ e447 Ar449 (j := (1 : Int32)) (inb q449 hn449 hl449) (g := (mkF m 68 #[.val (.int p0), .val (.int p1), .val (.int p2), .val (.int x2_0), .val (.int x4_0), .val (.int (0 : Int32)), .val (.int (3 : Int32)), .unset, .unset, .unset, .unset, .unset, .unset, .unset, .unset, .unset] [(.int ((((p1.toUInt32 >>> ((8 : Int32) &&& 31).toUInt32).toInt32) &&& (255 : Int32)).toUInt32.toUInt16.toUInt32.toInt32)), (.int (1 : Int32)), (.ref b445), (.ref b445)])) rfl rfl (hb hby at_68)
    have V449 : Ara Z h449 b445 .char [(.int (nar .char ((p1 &&& (255 : Int32)).toUInt32.toUInt16.toUInt32.toInt32))), (.int (nar .char ((((p1.toUInt32 >>> ((8 : Int32) &&& 31).toUInt32).toInt32) &&& (255 : Int32)).toUInt32.toUInt16.toUInt32.toInt32)))] := Ara.same (j := (1 : Int32)) Ar449 q449 ll449 ff449 oo449 (fits_nar_char _) W449
    have F450 := F448.wr W449
    have K449 := K447.wr W449 (Or.inr Zh445)
    have N449 := Fr.snoc X449 N447 Zs445
    have Z449 := Nat.le_trans Z447 (Nat.le_of_eq W449.size.symm)
    refine Goes.step (fun t k => st449 t k) ?_
    show Goes _ _ _ _ _ _ _ (T449.setTop (mkF m 69 #[.val (.int p0), .val (.int p1), .val (.int p2), .val (.int x2_0), .val (.int x4_0), .val (.int (0 : Int32)), .val (.int (3 : Int32)), .unset, .unset, .unset, .unset, .unset, .unset, .unset, .unset, .unset] [(.ref b445)]))
    refine Goes.step (fun t k => XS.astore X449.here hx rfl (hb hby at_69) rfl rfl (l' := #[.val (.int p0), .val (.int p1), .val (.int p2), .val (.int x2_0), .val (.int x4_0), .val (.int (0 : Int32)), .val (.int (3 : Int32)), .val (.ref b445), .unset, .unset, .unset, .unset, .unset, .unset, .unset, .unset]) rfl k) ?_
    show Goes _ _ _ _ _ _ _ (T449.setTop (mkF m 71 #[.val (.int p0), .val (.int p1), .val (.int p2), .val (.int x2_0), .val (.int x4_0), .val (.int (0 : Int32)), .val (.int (3 : Int32)), .val (.ref b445), .unset, .unset, .unset, .unset, .unset, .unset, .unset, .unset] []))
    refine Goes.step (fun t k => XS.iconst X449.here hx rfl (hb hby at_71) k) ?_
    show Goes _ _ _ _ _ _ _ (T449.setTop (mkF m 72 #[.val (.int p0), .val (.int p1), .val (.int p2), .val (.int x2_0), .val (.int x4_0), .val (.int (0 : Int32)), .val (.int (3 : Int32)), .val (.ref b445), .unset, .unset, .unset, .unset, .unset, .unset, .unset, .unset] [(.int (2 : Int32))]))
    obtain ⟨T451, h451, k451, X451, e451, E451, A451, st451⟩ := newP X449 hx hZ (hw _ (List.mem_of_getElem? (i := 0) rfl)) e449 (g := (mkF m 72 #[.val (.int p0), .val (.int p1), .val (.int p2), .val (.int x2_0), .val (.int x4_0), .val (.int (0 : Int32)), .val (.int (3 : Int32)), .val (.ref b445), .unset, .unset, .unset, .unset, .unset, .unset, .unset, .unset] [(.int (2 : Int32))])) rfl (hb hby at_72) rfl (by decide) (cap := 2) (by decide) (by decide) (by decide) (by decide)
    obtain ⟨b451, g451⟩ : ∃ z, z = h449.size := ⟨_, rfl⟩
    rw [← g451] at A451 st451
    have ne_b445_b451 : b445 ≠ b451 := Nat.ne_of_lt (Nat.lt_of_lt_of_le V449.lt (Nat.le_of_eq g451.symm))
    have Zs451 : n0 ≤ b451 := Nat.le_trans Z449 (Nat.le_of_eq g451.symm)
    have Zh451 : h0.size ≤ b451 := Nat.le_trans K449.1 (Nat.le_of_eq g451.symm)
    have F452 := F450.ext E451
    have F453 := V449.ext E451
    have K451 := K449.ext E451
    have Z451 := Nat.le_trans Z449 E451.1
    have V451 : Ara Z h451 b451 .char [(.int (0 : Int32)), (.int (0 : Int32))] := Ara.new A451 (by decide) rfl (fun _ q => nomatch q)
    refine Goes.step (fun t k => st451 t k) ?_
    show Goes _ _ _ _ _ _ _ (T451.setTop (mkF m 74 #[.val (.int p0), .val (.int p1), .val (.int p2), .val (.int x2_0), .val (.int x4_0), .val (.int (0 : Int32)), .val (.int (3 : Int32)), .val (.ref b445), .unset, .unset, .unset, .unset, .unset, .unset, .unset, .unset] [(.ref b451)]))
    refine Goes.step (fun t k => XS.dup X451.here hx rfl (hb hby at_74) rfl rfl k) ?_
    show Goes _ _ _ _ _ _ _ (T451.setTop (mkF m 75 #[.val (.int p0), .val (.int p1), .val (.int p2), .val (.int x2_0), .val (.int x4_0), .val (.int (0 : Int32)), .val (.int (3 : Int32)), .val (.ref b445), .unset, .unset, .unset, .unset, .unset, .unset, .unset, .unset] [(.ref b451), (.ref b451)]))
    refine Goes.step (fun t k => XS.iconst X451.here hx rfl (hb hby at_75) k) ?_
    show Goes _ _ _ _ _ _ _ (T451.setTop (mkF m 76 #[.val (.int p0), .val (.int p1), .val (.int p2), .val (.int x2_0), .val (.int x4_0), .val (.int (0 : Int32)), .val (.int (3 : Int32)), .val (.ref b445), .unset, .unset, .unset, .unset, .unset, .unset, .unset, .unset] [(.int (0 : Int32)), (.ref b451), (.ref b451)]))
    refine Goes.step (fun t k => XS.iloadN X451.here hx rfl (hb hby at_76) rfl k) ?_
    show Goes _ _ _ _ _ _ _ (T451.setTop (mkF m 77 #[.val (.int p0), .val (.int p1), .val (.int p2), .val (.int x2_0), .val (.int x4_0), .val (.int (0 : Int32)), .val (.int (3 : Int32)), .val (.ref b445), .unset, .unset, .unset, .unset, .unset, .unset, .unset, .unset] [(.int p2), (.int (0 : Int32)), (.ref b451), (.ref b451)]))
    refine Goes.step (fun t k => XS.sipush X451.here hx rfl (hb hby at_77) k) ?_
    show Goes _ _ _ _ _ _ _ (T451.setTop (mkF m 80 #[.val (.int p0), .val (.int p1), .val (.int p2), .val (.int x2_0), .val (.int x4_0), .val (.int (0 : Int32)), .val (.int (3 : Int32)), .val (.ref b445), .unset, .unset, .unset, .unset, .unset, .unset, .unset, .unset] [(.int (255 : Int32)), (.int p2), (.int (0 : Int32)), (.ref b451), (.ref b451)]))
    refine Goes.step (fun t k => XS.iand X451.here hx rfl (hb hby at_80) rfl k) ?_
    show Goes _ _ _ _ _ _ _ (T451.setTop (mkF m 81 #[.val (.int p0), .val (.int p1), .val (.int p2), .val (.int x2_0), .val (.int x4_0), .val (.int (0 : Int32)), .val (.int (3 : Int32)), .val (.ref b445), .unset, .unset, .unset, .unset, .unset, .unset, .unset, .unset] [(.int (p2 &&& (255 : Int32))), (.int (0 : Int32)), (.ref b451), (.ref b451)]))
    refine Goes.step (fun t k => XS.i2c X451.here hx rfl (hb hby at_81) rfl k) ?_
    show Goes _ _ _ _ _ _ _ (T451.setTop (mkF m 82 #[.val (.int p0), .val (.int p1), .val (.int p2), .val (.int x2_0), .val (.int x4_0), .val (.int (0 : Int32)), .val (.int (3 : Int32)), .val (.ref b445), .unset, .unset, .unset, .unset, .unset, .unset, .unset, .unset] [(.int ((p2 &&& (255 : Int32)).toUInt32.toUInt16.toUInt32.toInt32)), (.int (0 : Int32)), (.ref b451), (.ref b451)]))
    obtain ⟨cl454, Ar454, q454, ll454, ff454, oo454⟩ := id V451
    have hn454 : ¬ (0 : Int32) < 0 := by decide
    have hl454 : ((0 : Int32)).toNatClampNeg < ([(.int (0 : Int32)), (.int (0 : Int32))] : List Value).length := by exact Nat.le_of_ble_eq_true rfl
    obtain ⟨T454, h454, X454, e454, W454, st454⟩ := stC X451 hx hZ e451 Ar454 (j := (0 : Int32)) (inb q454 hn454 hl454) (g := (mkF m 82 #[.val (.int p0), .val (.int p1), .val (.int p2), .val (.int x2_0), .val (.int x4_0), .val (.int (0 : Int32)), .val (.int (3 : Int32)), .val (.ref b445), .unset, .unset, .unset, .unset, .unset, .unset, .unset, .unset] [(.int ((p2 &&& (255 : Int32)).toUInt32.toUInt16.toUInt32.toInt32)), (.int (0 : Int32)), (.ref b451), (.ref b451)])) rfl rfl (hb hby at_82)
    have V454 : Ara Z h454 b451 .char [(.int (nar .char ((p2 &&& (255 : Int32)).toUInt32.toUInt16.toUInt32.toInt32))), (.int (0 : Int32))] := Ara.same (j := (0 : Int32)) Ar454 q454 ll454 ff454 oo454 (fits_nar_char _) W454
    have F455 := F452.wr W454
    have F456 := F453.other W454 ne_b445_b451
    have K454 := K451.wr W454 (Or.inr Zh451)
    have N454 := Fr.snoc X454 N449 Zs451
    have Z454 := Nat.le_trans Z451 (Nat.le_of_eq W454.size.symm)
    refine Goes.step (fun t k => st454 t k) ?_
    show Goes _ _ _ _ _ _ _ (T454.setTop (mkF m 83 #[.val (.int p0), .val (.int p1), .val (.int p2), .val (.int x2_0), .val (.int x4_0), .val (.int (0 : Int32)), .val (.int (3 : Int32)), .val (.ref b445), .unset, .unset, .unset, .unset, .unset, .unset, .unset, .unset] [(.ref b451)]))
    refine Goes.step (fun t k => XS.dup X454.here hx rfl (hb hby at_83) rfl rfl k) ?_
    show Goes _ _ _ _ _ _ _ (T454.setTop (mkF m 84 #[.val (.int p0), .val (.int p1), .val (.int p2), .val (.int x2_0), .val (.int x4_0), .val (.int (0 : Int32)), .val (.int (3 : Int32)), .val (.ref b445), .unset, .unset, .unset, .unset, .unset, .unset, .unset, .unset] [(.ref b451), (.ref b451)]))
    refine Goes.step (fun t k => XS.iconst X454.here hx rfl (hb hby at_84) k) ?_
    show Goes _ _ _ _ _ _ _ (T454.setTop (mkF m 85 #[.val (.int p0), .val (.int p1), .val (.int p2), .val (.int x2_0), .val (.int x4_0), .val (.int (0 : Int32)), .val (.int (3 : Int32)), .val (.ref b445), .unset, .unset, .unset, .unset, .unset, .unset, .unset, .unset] [(.int (1 : Int32)), (.ref b451), (.ref b451)]))
    refine Goes.step (fun t k => XS.iloadN X454.here hx rfl (hb hby at_85) rfl k) ?_
    show Goes _ _ _ _ _ _ _ (T454.setTop (mkF m 86 #[.val (.int p0), .val (.int p1), .val (.int p2), .val (.int x2_0), .val (.int x4_0), .val (.int (0 : Int32)), .val (.int (3 : Int32)), .val (.ref b445), .unset, .unset, .unset, .unset, .unset, .unset, .unset, .unset] [(.int p2), (.int (1 : Int32)), (.ref b451), (.ref b451)]))
    refine Goes.step (fun t k => XS.bipush X454.here hx rfl (hb hby at_86) k) ?_
    show Goes _ _ _ _ _ _ _ (T454.setTop (mkF m 88 #[.val (.int p0), .val (.int p1), .val (.int p2), .val (.int x2_0), .val (.int x4_0), .val (.int (0 : Int32)), .val (.int (3 : Int32)), .val (.ref b445), .unset, .unset, .unset, .unset, .unset, .unset, .unset, .unset] [(.int (8 : Int32)), (.int p2), (.int (1 : Int32)), (.ref b451), (.ref b451)]))
    refine Goes.step (fun t k => XS.iushr X454.here hx rfl (hb hby at_88) rfl k) ?_
    show Goes _ _ _ _ _ _ _ (T454.setTop (mkF m 89 #[.val (.int p0), .val (.int p1), .val (.int p2), .val (.int x2_0), .val (.int x4_0), .val (.int (0 : Int32)), .val (.int (3 : Int32)), .val (.ref b445), .unset, .unset, .unset, .unset, .unset, .unset, .unset, .unset] [(.int ((p2.toUInt32 >>> ((8 : Int32) &&& 31).toUInt32).toInt32)), (.int (1 : Int32)), (.ref b451), (.ref b451)]))
    refine Goes.step (fun t k => XS.sipush X454.here hx rfl (hb hby at_89) k) ?_
    show Goes _ _ _ _ _ _ _ (T454.setTop (mkF m 92 #[.val (.int p0), .val (.int p1), .val (.int p2), .val (.int x2_0), .val (.int x4_0), .val (.int (0 : Int32)), .val (.int (3 : Int32)), .val (.ref b445), .unset, .unset, .unset, .unset, .unset, .unset, .unset, .unset] [(.int (255 : Int32)), (.int ((p2.toUInt32 >>> ((8 : Int32) &&& 31).toUInt32).toInt32)), (.int (1 : Int32)), (.ref b451), (.ref b451)]))
    refine Goes.step (fun t k => XS.iand X454.here hx rfl (hb hby at_92) rfl k) ?_
    show Goes _ _ _ _ _ _ _ (T454.setTop (mkF m 93 #[.val (.int p0), .val (.int p1), .val (.int p2), .val (.int x2_0), .val (.int x4_0), .val (.int (0 : Int32)), .val (.int (3 : Int32)), .val (.ref b445), .unset, .unset, .unset, .unset, .unset, .unset, .unset, .unset] [(.int (((p2.toUInt32 >>> ((8 : Int32) &&& 31).toUInt32).toInt32) &&& (255 : Int32))), (.int (1 : Int32)), (.ref b451), (.ref b451)]))
    refine Goes.step (fun t k => XS.i2c X454.here hx rfl (hb hby at_93) rfl k) ?_
    show Goes _ _ _ _ _ _ _ (T454.setTop (mkF m 94 #[.val (.int p0), .val (.int p1), .val (.int p2), .val (.int x2_0), .val (.int x4_0), .val (.int (0 : Int32)), .val (.int (3 : Int32)), .val (.ref b445), .unset, .unset, .unset, .unset, .unset, .unset, .unset, .unset] [(.int ((((p2.toUInt32 >>> ((8 : Int32) &&& 31).toUInt32).toInt32) &&& (255 : Int32)).toUInt32.toUInt16.toUInt32.toInt32)), (.int (1 : Int32)), (.ref b451), (.ref b451)]))
    obtain ⟨cl457, Ar457, q457, ll457, ff457, oo457⟩ := id V454
    have hn457 : ¬ (1 : Int32) < 0 := by decide
    have hl457 : ((1 : Int32)).toNatClampNeg < ([(.int (nar .char ((p2 &&& (255 : Int32)).toUInt32.toUInt16.toUInt32.toInt32))), (.int (0 : Int32))] : List Value).length := by exact Nat.le_of_ble_eq_true rfl
    obtain ⟨T457, h457, X457, e457, W457, st457⟩ := stC X454 hx hZ e454 Ar457 (j := (1 : Int32)) (inb q457 hn457 hl457) (g := (mkF m 94 #[.val (.int p0), .val (.int p1), .val (.int p2), .val (.int x2_0), .val (.int x4_0), .val (.int (0 : Int32)), .val (.int (3 : Int32)), .val (.ref b445), .unset, .unset, .unset, .unset, .unset, .unset, .unset, .unset] [(.int ((((p2.toUInt32 >>> ((8 : Int32) &&& 31).toUInt32).toInt32) &&& (255 : Int32)).toUInt32.toUInt16.toUInt32.toInt32)), (.int (1 : Int32)), (.ref b451), (.ref b451)])) rfl rfl (hb hby at_94)
    have V457 : Ara Z h457 b451 .char [(.int (nar .char ((p2 &&& (255 : Int32)).toUInt32.toUInt16.toUInt32.toInt32))), (.int (nar .char ((((p2.toUInt32 >>> ((8 : Int32) &&& 31).toUInt32).toInt32) &&& (255 : Int32)).toUInt32.toUInt16.toUInt32.toInt32)))] := Ara.same (j := (1 : Int32)) Ar457 q457 ll457 ff457 oo457 (fits_nar_char _) W457
    have F458 := F455.wr W457
    have F459 := F456.other W457 ne_b445_b451
    have K457 := K454.wr W457 (Or.inr Zh451)
    have N457 := Fr.snoc X457 N454 Zs451
    have Z457 := Nat.le_trans Z454 (Nat.le_of_eq W457.size.symm)
    refine Goes.step (fun t k => st457 t k) ?_
    show Goes _ _ _ _ _ _ _ (T457.setTop (mkF m 95 #[.val (.int p0), .val (.int p1), .val (.int p2), .val (.int x2_0), .val (.int x4_0), .val (.int (0 : Int32)), .val (.int (3 : Int32)), .val (.ref b445), .unset, .unset, .unset, .unset, .unset, .unset, .unset, .unset] [(.ref b451)]))
    refine Goes.step (fun t k => XS.astore X457.here hx rfl (hb hby at_95) rfl rfl (l' := #[.val (.int p0), .val (.int p1), .val (.int p2), .val (.int x2_0), .val (.int x4_0), .val (.int (0 : Int32)), .val (.int (3 : Int32)), .val (.ref b445), .val (.ref b451), .unset, .unset, .unset, .unset, .unset, .unset, .unset]) rfl k) ?_
    show Goes _ _ _ _ _ _ _ (T457.setTop (mkF m 97 #[.val (.int p0), .val (.int p1), .val (.int p2), .val (.int x2_0), .val (.int x4_0), .val (.int (0 : Int32)), .val (.int (3 : Int32)), .val (.ref b445), .val (.ref b451), .unset, .unset, .unset, .unset, .unset, .unset, .unset] []))
    obtain ⟨T460, h460, X460, e460, E460, A460, D460, -, st460⟩ := newO X457 hx hZ hown (hw _ (List.mem_of_getElem? (i := 1) rfl)) (hw _ (List.mem_of_getElem? (i := 2) rfl)) (hw _ (List.mem_of_getElem? (i := 3) rfl)) e457 (g := (mkF m 97 #[.val (.int p0), .val (.int p1), .val (.int p2), .val (.int x2_0), .val (.int x4_0), .val (.int (0 : Int32)), .val (.int (3 : Int32)), .val (.ref b445), .val (.ref b451), .unset, .unset, .unset, .unset, .unset, .unset, .unset] [])) rfl (hb hby at_97) (by decide) (by decide)
    obtain ⟨b460, g460⟩ : ∃ z, z = h457.size := ⟨_, rfl⟩
    rw [← g460] at A460 D460 st460
    have ne_b445_b460 : b445 ≠ b460 := Nat.ne_of_lt (Nat.lt_of_lt_of_le F459.lt (Nat.le_of_eq g460.symm))
    have ne_b451_b460 : b451 ≠ b460 := Nat.ne_of_lt (Nat.lt_of_lt_of_le V457.lt (Nat.le_of_eq g460.symm))
    have Zs460 : n0 ≤ b460 := Nat.le_trans Z457 (Nat.le_of_eq g460.symm)
    have Zh460 : h0.size ≤ b460 := Nat.le_trans K457.1 (Nat.le_of_eq g460.symm)
    have F461 := F458.ext E460
    have F462 := F459.ext E460
    have F463 := V457.ext E460
    have K460 := K457.ext E460
    have Z460 := Nat.le_trans Z457 E460.1
    have F464 : Fld Z h460 b460 "java/lang/String" "coder" "B" (.int (0 : Int32)) := D460 (Or.inr (hw _ (List.mem_of_getElem? (i := 27) rfl))) (ty := .byte) (by decide)
    have F465 : Fld Z h460 b460 "java/lang/String" "value" "[B" .null := D460 (Or.inr (hw _ (List.mem_of_getElem? (i := 29) rfl))) (ty := (.array .byte)) (by decide)
    refine Goes.step (fun t k => st460 t k) ?_
    show Goes _ _ _ _ _ _ _ (T460.setTop (mkF m 100 #[.val (.int p0), .val (.int p1), .val (.int p2), .val (.int x2_0), .val (.int x4_0), .val (.int (0 : Int32)), .val (.int (3 : Int32)), .val (.ref b445), .val (.ref b451), .unset, .unset, .unset, .unset, .unset, .unset, .unset] [(.ref b460)]))
    refine Goes.step (fun t k => XS.dup X460.here hx rfl (hb hby at_100) rfl rfl k) ?_
    show Goes _ _ _ _ _ _ _ (T460.setTop (mkF m 101 #[.val (.int p0), .val (.int p1), .val (.int p2), .val (.int x2_0), .val (.int x4_0), .val (.int (0 : Int32)), .val (.int (3 : Int32)), .val (.ref b445), .val (.ref b451), .unset, .unset, .unset, .unset, .unset, .unset, .unset] [(.ref b460), (.ref b460)]))
    refine Goes.step (fun t k => XS.aload X460.here hx rfl (hb hby at_101) rfl rfl k) ?_
    show Goes _ _ _ _ _ _ _ (T460.setTop (mkF m 103 #[.val (.int p0), .val (.int p1), .val (.int p2), .val (.int x2_0), .val (.int x4_0), .val (.int (0 : Int32)), .val (.int (3 : Int32)), .val (.ref b445), .val (.ref b451), .unset, .unset, .unset, .unset, .unset, .unset, .unset] [(.ref b445), (.ref b460), (.ref b460)]))
    obtain ⟨kc466, Kc466⟩ := own_arv (N := (2 : Int32)) (.int (0 : Int32)) F462 (by decide) rfl
    have hlat466 : ∀ c ∈ [(nar .char ((p1 &&& (255 : Int32)).toUInt32.toUInt16.toUInt32.toInt32)), (nar .char ((((p1.toUInt32 >>> ((8 : Int32) &&& 31).toUInt32).toInt32) &&& (255 : Int32)).toUInt32.toUInt16.toUInt32.toInt32))], ¬ c < 0 ∧ ¬ (255 : Int32) < c := by
      intro c hc
      simp only [List.mem_cons, List.not_mem_nil, or_false] at hc
      rcases hc with rfl | rfl <;> exact own_lat _
    obtain ⟨_, _, ⟨T466, L466, k466, n466⟩, -, X466, ⟨Lc466, hQ466, l466, y466, z466⟩, st466⟩ := X460.specialBack hx (y := (⟨"java/lang/String", "<init>", "([C)V"⟩ : MethodName)) rfl hown (mvT hZ (hw _ (List.mem_of_getElem? (i := 4) rfl))) (mvT hZ (hw _ (List.mem_of_getElem? (i := 5) rfl))) (mvT hZ (hw _ (List.mem_of_getElem? (i := 6) rfl))) (by decide) (StrChars.Road.backV (W := 1) hZ hws (kI := 4) (hw _ (List.mem_of_getElem? (i := 2) rfl)) (cs := [(nar .char ((p1 &&& (255 : Int32)).toUInt32.toUInt16.toUInt32.toInt32)), (nar .char ((((p1.toUInt32 >>> ((8 : Int32) &&& 31).toUInt32).toInt32) &&& (255 : Int32)).toUInt32.toUInt16.toUInt32.toInt32))]) (bs := [((nar .char ((p1 &&& (255 : Int32)).toUInt32.toUInt16.toUInt32.toInt32))).toInt8.toInt32, ((nar .char ((((p1.toUInt32 >>> ((8 : Int32) &&& 31).toUInt32).toInt32) &&& (255 : Int32)).toUInt32.toUInt16.toUInt32.toInt32))).toInt8.toInt32]) (n := 2) (n0 := n0) Zs460 Z460 A460 F465 F464 Kc466 F461 P3 rfl rfl (by decide) (by decide) hlat466 rfl (by decide) (by decide)) (g := (mkF m 103 #[.val (.int p0), .val (.int p1), .val (.int p2), .val (.int x2_0), .val (.int x4_0), .val (.int (0 : Int32)), .val (.int (3 : Int32)), .val (.ref b445), .val (.ref b451), .unset, .unset, .unset, .unset, .unset, .unset, .unset] [(.ref b445), (.ref b460), (.ref b460)])) rfl (by rw [hml]; rfl) (Steps.refl _) (a := b460) (argsL := [(.ref b445)]) (rest := [(.ref b460)]) (lenOf own_pd0 rfl) rfl (by show 2 * 0 + _ ≤ _; exact Nat.le_of_eq rfl) (hb hby at_103) (fun _ _ => ⟨rfl, e460, (by decide : 3 + 1 ≤ _), (by decide : 8 + 2 ≤ _)⟩)
    dsimp only [Pt.U, Pt.locs, Pt.cells, Pt.slots] at X466 l466 y466 z466 st466 hQ466
    rw [l466, y466, z466] at X466
    replace hQ466 := own_qv hQ466
    generalize e466 : T466.heap = h466 at hQ466
    obtain ⟨rfl, Nq466, Kq466, G466_0⟩ := hQ466
    have F467 := own_sta_keep F461 Kq466 (allS (notsta_exa A460) all0)
    have F468 := F462.keep Kq466 (ninS ne_b445_b460 nin0)
    have F469 := F463.keep Kq466 (ninS ne_b451_b460 nin0)
    have N466 := Fr.app N457 Nq466
    have K466 := K460.trans Kq466 (allS (Or.inr Zh460) all0)
    have Z466 := Nat.le_trans Z460 Kq466.1
    change Stand _ _ _ _ _ _ _ _ _ _ _ _ 4 10 at X466
    refine Goes.step (fun t k => st466.trans k) ?_
    show Goes _ _ _ _ _ _ _ (T466.setTop (mkF m 106 #[.val (.int p0), .val (.int p1), .val (.int p2), .val (.int x2_0), .val (.int x4_0), .val (.int (0 : Int32)), .val (.int (3 : Int32)), .val (.ref b445), .val (.ref b451), .unset, .unset, .unset, .unset, .unset, .unset, .unset] [(.ref b460)]))
    refine Goes.step (fun t k => XS.astore X466.here hx rfl (hb hby at_106) rfl rfl (l' := #[.val (.int p0), .val (.int p1), .val (.int p2), .val (.int x2_0), .val (.int x4_0), .val (.int (0 : Int32)), .val (.int (3 : Int32)), .val (.ref b445), .val (.ref b451), .val (.ref b460), .unset, .unset, .unset, .unset, .unset, .unset]) rfl k) ?_
    show Goes _ _ _ _ _ _ _ (T466.setTop (mkF m 108 #[.val (.int p0), .val (.int p1), .val (.int p2), .val (.int x2_0), .val (.int x4_0), .val (.int (0 : Int32)), .val (.int (3 : Int32)), .val (.ref b445), .val (.ref b451), .val (.ref b460), .unset, .unset, .unset, .unset, .unset, .unset] []))
    refine Goes.step (fun t k => XS.iload X466.here hx rfl (hb hby at_108) rfl k) ?_
    show Goes _ _ _ _ _ _ _ (T466.setTop (mkF m 110 #[.val (.int p0), .val (.int p1), .val (.int p2), .val (.int x2_0), .val (.int x4_0), .val (.int (0 : Int32)), .val (.int (3 : Int32)), .val (.ref b445), .val (.ref b451), .val (.ref b460), .unset, .unset, .unset, .unset, .unset, .unset] [(.int (0 : Int32))]))
    refine Goes.step (fun t k => XS.ifYes X466.here hx rfl (pc0 := 110) (pc' := 118) rfl (hb hby at_110) rfl ((if0 _ _).trans (teq (by decide)).1) (by decide) (by decide) k) ?_
    show Goes _ _ _ _ _ _ _ (T466.setTop (mkF m 118 #[.val (.int p0), .val (.int p1), .val (.int p2), .val (.int x2_0), .val (.int x4_0), .val (.int (0 : Int32)), .val (.int (3 : Int32)), .val (.ref b445), .val (.ref b451), .val (.ref b460), .unset, .unset, .unset, .unset, .unset, .unset] []))
    obtain ⟨T471, h471, X471, e471, E471, A471, D471, -, st471⟩ := newO X466 hx hZ hown (hw _ (List.mem_of_getElem? (i := 1) rfl)) (hw _ (List.mem_of_getElem? (i := 2) rfl)) (hw _ (List.mem_of_getElem? (i := 3) rfl)) e466 (g := (mkF m 118 #[.val (.int p0), .val (.int p1), .val (.int p2), .val (.int x2_0), .val (.int x4_0), .val (.int (0 : Int32)), .val (.int (3 : Int32)), .val (.ref b445), .val (.ref b451), .val (.ref b460), .unset, .unset, .unset, .unset, .unset, .unset] [])) rfl (hb hby at_118) (by decide) (by decide)
    obtain ⟨b471, g471⟩ : ∃ z, z = h466.size := ⟨_, rfl⟩
    rw [← g471] at A471 D471 st471
    have ne_b445_b471 : b445 ≠ b471 := Nat.ne_of_lt (Nat.lt_of_lt_of_le F468.lt (Nat.le_of_eq g471.symm))
    have ne_b451_b471 : b451 ≠ b471 := Nat.ne_of_lt (Nat.lt_of_lt_of_le F469.lt (Nat.le_of_eq g471.symm))
    have ne_b460_b471 : b460 ≠ b471 := Nat.ne_of_lt (Nat.lt_of_lt_of_le G466_0.lt (Nat.le_of_eq g471.symm))
    have Zs471 : n0 ≤ b471 := Nat.le_trans Z466 (Nat.le_of_eq g471.symm)
    have Zh471 : h0.size ≤ b471 := Nat.le_trans K466.1 (Nat.le_of_eq g471.symm)
    have F472 := F467.ext E471
    have F473 := F468.ext E471
    have F474 := F469.ext E471
    have F475 := G466_0.ext E471
    have K471 := K466.ext E471
    have Z471 := Nat.le_trans Z466 E471.1
    have F476 : Fld Z h471 b471 "java/lang/String" "coder" "B" (.int (0 : Int32)) := D471 (Or.inr (hw _ (List.mem_of_getElem? (i := 27) rfl))) (ty := .byte) (by decide)
    have F477 : Fld Z h471 b471 "java/lang/String" "value" "[B" .null := D471 (Or.inr (hw _ (List.mem_of_getElem? (i := 29) rfl))) (ty := (.array .byte)) (by decide)
    refine Goes.step (fun t k => st471 t k) ?_
    show Goes _ _ _ _ _ _ _ (T471.setTop (mkF m 121 #[.val (.int p0), .val (.int p1), .val (.int p2), .val (.int x2_0), .val (.int x4_0), .val (.int (0 : Int32)), .val (.int (3 : Int32)), .val (.ref b445), .val (.ref b451), .val (.ref b460), .unset, .unset, .unset, .unset, .unset, .unset] [(.ref b471)]))
    refine Goes.step (fun t k => XS.dup X471.here hx rfl (hb hby at_121) rfl rfl k) ?_
    show Goes _ _ _ _ _ _ _ (T471.setTop (mkF m 122 #[.val (.int p0), .val (.int p1), .val (.int p2), .val (.int x2_0), .val (.int x4_0), .val (.int (0 : Int32)), .val (.int (3 : Int32)), .val (.ref b445), .val (.ref b451), .val (.ref b460), .unset, .unset, .unset, .unset, .unset, .unset] [(.ref b471), (.ref b471)]))
    refine Goes.step (fun t k => XS.aload X471.here hx rfl (hb hby at_122) rfl rfl k) ?_
    show Goes _ _ _ _ _ _ _ (T471.setTop (mkF m 124 #[.val (.int p0), .val (.int p1), .val (.int p2), .val (.int x2_0), .val (.int x4_0), .val (.int (0 : Int32)), .val (.int (3 : Int32)), .val (.ref b445), .val (.ref b451), .val (.ref b460), .unset, .unset, .unset, .unset, .unset, .unset] [(.ref b451), (.ref b471), (.ref b471)]))
    obtain ⟨kc478, Kc478⟩ := own_arv (N := (2 : Int32)) (.int (0 : Int32)) F474 (by decide) rfl
    have hlat478 : ∀ c ∈ [(nar .char ((p2 &&& (255 : Int32)).toUInt32.toUInt16.toUInt32.toInt32)), (nar .char ((((p2.toUInt32 >>> ((8 : Int32) &&& 31).toUInt32).toInt32) &&& (255 : Int32)).toUInt32.toUInt16.toUInt32.toInt32))], ¬ c < 0 ∧ ¬ (255 : Int32) < c := by
      intro c hc
      simp only [List.mem_cons, List.not_mem_nil, or_false] at hc
      rcases hc with rfl | rfl <;> exact own_lat _
    obtain ⟨_, _, ⟨T478, L478, k478, n478⟩, -, X478, ⟨Lc478, hQ478, l478, y478, z478⟩, st478⟩ := X471.specialBack hx (y := (⟨"java/lang/String", "<init>", "([C)V"⟩ : MethodName)) rfl hown (mvT hZ (hw _ (List.mem_of_getElem? (i := 4) rfl))) (mvT hZ (hw _ (List.mem_of_getElem? (i := 5) rfl))) (mvT hZ (hw _ (List.mem_of_getElem? (i := 6) rfl))) (by decide) (StrChars.Road.backV (W := 1) hZ hws (kI := 4) (hw _ (List.mem_of_getElem? (i := 2) rfl)) (cs := [(nar .char ((p2 &&& (255 : Int32)).toUInt32.toUInt16.toUInt32.toInt32)), (nar .char ((((p2.toUInt32 >>> ((8 : Int32) &&& 31).toUInt32).toInt32) &&& (255 : Int32)).toUInt32.toUInt16.toUInt32.toInt32))]) (bs := [((nar .char ((p2 &&& (255 : Int32)).toUInt32.toUInt16.toUInt32.toInt32))).toInt8.toInt32, ((nar .char ((((p2.toUInt32 >>> ((8 : Int32) &&& 31).toUInt32).toInt32) &&& (255 : Int32)).toUInt32.toUInt16.toUInt32.toInt32))).toInt8.toInt32]) (n := 2) (n0 := n0) Zs471 Z471 A471 F477 F476 Kc478 F472 P3 rfl rfl (by decide) (by decide) hlat478 rfl (by decide) (by decide)) (g := (mkF m 124 #[.val (.int p0), .val (.int p1), .val (.int p2), .val (.int x2_0), .val (.int x4_0), .val (.int (0 : Int32)), .val (.int (3 : Int32)), .val (.ref b445), .val (.ref b451), .val (.ref b460), .unset, .unset, .unset, .unset, .unset, .unset] [(.ref b451), (.ref b471), (.ref b471)])) rfl (by rw [hml]; rfl) (Steps.refl _) (a := b471) (argsL := [(.ref b451)]) (rest := [(.ref b471)]) (lenOf own_pd0 rfl) rfl (by show 2 * 0 + _ ≤ _; exact Nat.le_of_eq rfl) (hb hby at_124) (fun _ _ => ⟨rfl, e471, (by decide : 5 + 1 ≤ _), (by decide : 14 + 2 ≤ _)⟩)
    dsimp only [Pt.U, Pt.locs, Pt.cells, Pt.slots] at X478 l478 y478 z478 st478 hQ478
    rw [l478, y478, z478] at X478
    replace hQ478 := own_qv hQ478
    generalize e478 : T478.heap = h478 at hQ478
    obtain ⟨rfl, Nq478, Kq478, G478_0⟩ := hQ478
    have F479 := own_sta_keep F472 Kq478 (allS (notsta_exa A471) all0)
    have F480 := F473.keep Kq478 (ninS ne_b445_b471 nin0)
    have F481 := F474.keep Kq478 (ninS ne_b451_b471 nin0)
    have F482 := F475.keep Kq478
    have N478 := Fr.app N466 Nq478
    have K478 := K471.trans Kq478 (allS (Or.inr Zh471) all0)
    have Z478 := Nat.le_trans Z471 Kq478.1
    change Stand _ _ _ _ _ _ _ _ _ _ _ _ 6 16 at X478
    refine Goes.step (fun t k => st478.trans k) ?_
    show Goes _ _ _ _ _ _ _ (T478.setTop (mkF m 127 #[.val (.int p0), .val (.int p1), .val (.int p2), .val (.int x2_0), .val (.int x4_0), .val (.int (0 : Int32)), .val (.int (3 : Int32)), .val (.ref b445), .val (.ref b451), .val (.ref b460), .unset, .unset, .unset, .unset, .unset, .unset] [(.ref b471)]))
    refine Goes.step (fun t k => XS.astore X478.here hx rfl (hb hby at_127) rfl rfl (l' := #[.val (.int p0), .val (.int p1), .val (.int p2), .val (.int x2_0), .val (.int x4_0), .val (.int (0 : Int32)), .val (.int (3 : Int32)), .val (.ref b445), .val (.ref b451), .val (.ref b460), .val (.ref b471), .unset, .unset, .unset, .unset, .unset]) rfl k) ?_
    show Goes _ _ _ _ _ _ _ (T478.setTop (mkF m 129 #[.val (.int p0), .val (.int p1), .val (.int p2), .val (.int x2_0), .val (.int x4_0), .val (.int (0 : Int32)), .val (.int (3 : Int32)), .val (.ref b445), .val (.ref b451), .val (.ref b460), .val (.ref b471), .unset, .unset, .unset, .unset, .unset] []))
    obtain ⟨T483, h483, X483, e483, E483, A483, D483, -, st483⟩ := newO X478 hx hZ hown (hw _ (List.mem_of_getElem? (i := 30) rfl)) (hw _ (List.mem_of_getElem? (i := 31) rfl)) (hw _ (List.mem_of_getElem? (i := 32) rfl)) e478 (g := (mkF m 129 #[.val (.int p0), .val (.int p1), .val (.int p2), .val (.int x2_0), .val (.int x4_0), .val (.int (0 : Int32)), .val (.int (3 : Int32)), .val (.ref b445), .val (.ref b451), .val (.ref b460), .val (.ref b471), .unset, .unset, .unset, .unset, .unset] [])) rfl (hb hby at_129) (by decide) (by decide)
    obtain ⟨b483, g483⟩ : ∃ z, z = h478.size := ⟨_, rfl⟩
    rw [← g483] at A483 D483 st483
    have ne_b445_b483 : b445 ≠ b483 := Nat.ne_of_lt (Nat.lt_of_lt_of_le F480.lt (Nat.le_of_eq g483.symm))
    have ne_b451_b483 : b451 ≠ b483 := Nat.ne_of_lt (Nat.lt_of_lt_of_le F481.lt (Nat.le_of_eq g483.symm))
    have ne_b460_b483 : b460 ≠ b483 := Nat.ne_of_lt (Nat.lt_of_lt_of_le F482.lt (Nat.le_of_eq g483.symm))
    have ne_b471_b483 : b471 ≠ b483 := Nat.ne_of_lt (Nat.lt_of_lt_of_le G478_0.lt (Nat.le_of_eq g483.symm))
    have Zs483 : n0 ≤ b483 := Nat.le_trans Z478 (Nat.le_of_eq g483.symm)
    have Zh483 : h0.size ≤ b483 := Nat.le_trans K478.1 (Nat.le_of_eq g483.symm)
    have F484 := F479.ext E483
    have F485 := F480.ext E483
    have F486 := F481.ext E483
    have F487 := F482.ext E483
    have F488 := G478_0.ext E483
    have K483 := K478.ext E483
    have Z483 := Nat.le_trans Z478 E483.1
    have F489 : Fld Z h483 b483 "com/example/vigilant_schema/vigilantschema/Node$BooleanNode" "value" "Z" (.int (0 : Int32)) := D483 (Or.inr (hw _ (List.mem_of_getElem? (i := 38) rfl))) (ty := .boolean) (by decide)
    have F490 : Fld Z h483 b483 "com/example/vigilant_schema/vigilantschema/Node$BooleanNode" "written" "Ljava/lang/String;" .null := D483 (Or.inr (hw _ (List.mem_of_getElem? (i := 40) rfl))) (ty := (.object "java/lang/String")) (by decide)
    refine Goes.step (fun t k => st483 t k) ?_
    show Goes _ _ _ _ _ _ _ (T483.setTop (mkF m 132 #[.val (.int p0), .val (.int p1), .val (.int p2), .val (.int x2_0), .val (.int x4_0), .val (.int (0 : Int32)), .val (.int (3 : Int32)), .val (.ref b445), .val (.ref b451), .val (.ref b460), .val (.ref b471), .unset, .unset, .unset, .unset, .unset] [(.ref b483)]))
    refine Goes.step (fun t k => XS.dup X483.here hx rfl (hb hby at_132) rfl rfl k) ?_
    show Goes _ _ _ _ _ _ _ (T483.setTop (mkF m 133 #[.val (.int p0), .val (.int p1), .val (.int p2), .val (.int x2_0), .val (.int x4_0), .val (.int (0 : Int32)), .val (.int (3 : Int32)), .val (.ref b445), .val (.ref b451), .val (.ref b460), .val (.ref b471), .unset, .unset, .unset, .unset, .unset] [(.ref b483), (.ref b483)]))
    refine Goes.step (fun t k => XS.iloadN X483.here hx rfl (hb hby at_133) rfl k) ?_
    show Goes _ _ _ _ _ _ _ (T483.setTop (mkF m 134 #[.val (.int p0), .val (.int p1), .val (.int p2), .val (.int x2_0), .val (.int x4_0), .val (.int (0 : Int32)), .val (.int (3 : Int32)), .val (.ref b445), .val (.ref b451), .val (.ref b460), .val (.ref b471), .unset, .unset, .unset, .unset, .unset] [(.int x2_0), (.ref b483), (.ref b483)]))
    refine Goes.step (fun t k => XS.aload X483.here hx rfl (hb hby at_134) rfl rfl k) ?_
    show Goes _ _ _ _ _ _ _ (T483.setTop (mkF m 136 #[.val (.int p0), .val (.int p1), .val (.int p2), .val (.int x2_0), .val (.int x4_0), .val (.int (0 : Int32)), .val (.int (3 : Int32)), .val (.ref b445), .val (.ref b451), .val (.ref b460), .val (.ref b471), .unset, .unset, .unset, .unset, .unset] [(.ref b460), (.int x2_0), (.ref b483), (.ref b483)]))
    obtain ⟨_, _, ⟨T491, L491, k491, n491⟩, -, X491, ⟨Lc491, hQ491, l491, y491, z491⟩, st491⟩ := X483.specialBack hx (y := (⟨"com/example/vigilant_schema/vigilantschema/Node$BooleanNode", "<init>", "(ZLjava/lang/String;)V"⟩ : MethodName)) rfl hown (mvT hZ (hw _ (List.mem_of_getElem? (i := 33) rfl))) (mvT hZ (hw _ (List.mem_of_getElem? (i := 34) rfl))) (mvT hZ (hw _ (List.mem_of_getElem? (i := 35) rfl))) (by decide) (backOf (W := 1) (rm7 l Z tA hw [] b483 x2_0 b460 h483 n0 Z483 A483 F489 F490 Zs483) hZ (hw _ (List.mem_of_getElem? (i := 35) rfl)) (hw _ (List.mem_of_getElem? (i := 32) rfl)) (by decide) (by decide)) (g := (mkF m 136 #[.val (.int p0), .val (.int p1), .val (.int p2), .val (.int x2_0), .val (.int x4_0), .val (.int (0 : Int32)), .val (.int (3 : Int32)), .val (.ref b445), .val (.ref b451), .val (.ref b460), .val (.ref b471), .unset, .unset, .unset, .unset, .unset] [(.ref b460), (.int x2_0), (.ref b483), (.ref b483)])) rfl (by rw [hml]; rfl) (Steps.refl _) (a := b483) (argsL := [(.int x2_0), (.ref b460)]) (rest := [(.ref b483)]) (lenOf own_pd1 rfl) rfl (by show 2 * 0 + _ ≤ _; exact Nat.le_of_eq rfl) (hb hby at_136) (fun _ _ => ⟨rfl, e483, (by decide : 7 + 0 ≤ _), (by decide : 18 + 0 ≤ _)⟩)
    dsimp only [Pt.U, Pt.locs, Pt.cells, Pt.slots] at X491 l491 y491 z491 st491 hQ491
    rw [l491, y491, z491] at X491
    generalize e491 : T491.heap = h491 at hQ491
    obtain ⟨rfl, Nq491, Kq491, G491_0, G491_1, G491_2⟩ := hQ491
    have F492 := own_sta_keep F484 Kq491 (allS (notsta_exa A483) all0)
    have F493 := F485.keep Kq491 (ninS ne_b445_b483 nin0)
    have F494 := F486.keep Kq491 (ninS ne_b451_b483 nin0)
    have F495 := F487.keep Kq491
    have F496 := F488.keep Kq491
    have N491 := Fr.app N478 Nq491
    have K491 := K483.trans Kq491 (allS (Or.inr Zh483) all0)
    have Z491 := Nat.le_trans Z483 Kq491.1
    change Stand _ _ _ _ _ _ _ _ _ _ _ _ 7 18 at X491
    refine Goes.step (fun t k => st491.trans k) ?_
    show Goes _ _ _ _ _ _ _ (T491.setTop (mkF m 139 #[.val (.int p0), .val (.int p1), .val (.int p2), .val (.int x2_0), .val (.int x4_0), .val (.int (0 : Int32)), .val (.int (3 : Int32)), .val (.ref b445), .val (.ref b451), .val (.ref b460), .val (.ref b471), .unset, .unset, .unset, .unset, .unset] [(.ref b483)]))
    refine Goes.step (fun t k => XS.astore X491.here hx rfl (hb hby at_139) rfl rfl (l' := #[.val (.int p0), .val (.int p1), .val (.int p2), .val (.int x2_0), .val (.int x4_0), .val (.int (0 : Int32)), .val (.int (3 : Int32)), .val (.ref b445), .val (.ref b451), .val (.ref b460), .val (.ref b471), .val (.ref b483), .unset, .unset, .unset, .unset]) rfl k) ?_
    show Goes _ _ _ _ _ _ _ (T491.setTop (mkF m 141 #[.val (.int p0), .val (.int p1), .val (.int p2), .val (.int x2_0), .val (.int x4_0), .val (.int (0 : Int32)), .val (.int (3 : Int32)), .val (.ref b445), .val (.ref b451), .val (.ref b460), .val (.ref b471), .val (.ref b483), .unset, .unset, .unset, .unset] []))
    refine Goes.step (fun t k => XS.iconst X491.here hx rfl (hb hby at_141) k) ?_
    show Goes _ _ _ _ _ _ _ (T491.setTop (mkF m 142 #[.val (.int p0), .val (.int p1), .val (.int p2), .val (.int x2_0), .val (.int x4_0), .val (.int (0 : Int32)), .val (.int (3 : Int32)), .val (.ref b445), .val (.ref b451), .val (.ref b460), .val (.ref b471), .val (.ref b483), .unset, .unset, .unset, .unset] [(.int (1 : Int32))]))
    refine Goes.step (fun t k => XS.istore X491.here hx rfl (hb hby at_142) rfl (l' := #[.val (.int p0), .val (.int p1), .val (.int p2), .val (.int x2_0), .val (.int x4_0), .val (.int (0 : Int32)), .val (.int (3 : Int32)), .val (.ref b445), .val (.ref b451), .val (.ref b460), .val (.ref b471), .val (.ref b483), .unset, .unset, .val (.int (1 : Int32)), .unset]) rfl k) ?_
    show Goes _ _ _ _ _ _ _ (T491.setTop (mkF m 144 #[.val (.int p0), .val (.int p1), .val (.int p2), .val (.int x2_0), .val (.int x4_0), .val (.int (0 : Int32)), .val (.int (3 : Int32)), .val (.ref b445), .val (.ref b451), .val (.ref b460), .val (.ref b471), .val (.ref b483), .unset, .unset, .val (.int (1 : Int32)), .unset] []))
    refine Goes.step (fun t k => XS.iload X491.here hx rfl (hb hby at_144) rfl k) ?_
    show Goes _ _ _ _ _ _ _ (T491.setTop (mkF m 146 #[.val (.int p0), .val (.int p1), .val (.int p2), .val (.int x2_0), .val (.int x4_0), .val (.int (0 : Int32)), .val (.int (3 : Int32)), .val (.ref b445), .val (.ref b451), .val (.ref b460), .val (.ref b471), .val (.ref b483), .unset, .unset, .val (.int (1 : Int32)), .unset] [(.int (3 : Int32))]))
    refine Goes.step (fun t k => XS.ifYes X491.here hx rfl (pc0 := 146) (pc' := 201) rfl (hb hby at_146) rfl ((if0 _ _).trans (feq (by decide)).2) (by decide) (by decide) k) ?_
    show Goes _ _ _ _ _ _ _ (T491.setTop (mkF m 201 #[.val (.int p0), .val (.int p1), .val (.int p2), .val (.int x2_0), .val (.int x4_0), .val (.int (0 : Int32)), .val (.int (3 : Int32)), .val (.ref b445), .val (.ref b451), .val (.ref b460), .val (.ref b471), .val (.ref b483), .unset, .unset, .val (.int (1 : Int32)), .unset] []))
    refine Goes.step (fun t k => XS.iload X491.here hx rfl (hb hby at_201) rfl k) ?_
    show Goes _ _ _ _ _ _ _ (T491.setTop (mkF m 203 #[.val (.int p0), .val (.int p1), .val (.int p2), .val (.int x2_0), .val (.int x4_0), .val (.int (0 : Int32)), .val (.int (3 : Int32)), .val (.ref b445), .val (.ref b451), .val (.ref b460), .val (.ref b471), .val (.ref b483), .unset, .unset, .val (.int (1 : Int32)), .unset] [(.int (3 : Int32))]))
    refine Goes.step (fun t k => XS.iconst X491.here hx rfl (hb hby at_203) k) ?_
    show Goes _ _ _ _ _ _ _ (T491.setTop (mkF m 204 #[.val (.int p0), .val (.int p1), .val (.int p2), .val (.int x2_0), .val (.int x4_0), .val (.int (0 : Int32)), .val (.int (3 : Int32)), .val (.ref b445), .val (.ref b451), .val (.ref b460), .val (.ref b471), .val (.ref b483), .unset, .unset, .val (.int (1 : Int32)), .unset] [(.int (1 : Int32)), (.int (3 : Int32))]))
    refine Goes.step (fun t k => XS.icmpYes X491.here hx rfl (pc0 := 204) (pc' := 216) rfl (hb hby at_204) rfl (feq (by decide)).2 (by decide) (by decide) k) ?_
    show Goes _ _ _ _ _ _ _ (T491.setTop (mkF m 216 #[.val (.int p0), .val (.int p1), .val (.int p2), .val (.int x2_0), .val (.int x4_0), .val (.int (0 : Int32)), .val (.int (3 : Int32)), .val (.ref b445), .val (.ref b451), .val (.ref b460), .val (.ref b471), .val (.ref b483), .unset, .unset, .val (.int (1 : Int32)), .unset] []))
    refine Goes.step (fun t k => XS.iload X491.here hx rfl (hb hby at_216) rfl k) ?_
    show Goes _ _ _ _ _ _ _ (T491.setTop (mkF m 218 #[.val (.int p0), .val (.int p1), .val (.int p2), .val (.int x2_0), .val (.int x4_0), .val (.int (0 : Int32)), .val (.int (3 : Int32)), .val (.ref b445), .val (.ref b451), .val (.ref b460), .val (.ref b471), .val (.ref b483), .unset, .unset, .val (.int (1 : Int32)), .unset] [(.int (3 : Int32))]))
    refine Goes.step (fun t k => XS.iconst X491.here hx rfl (hb hby at_218) k) ?_
    show Goes _ _ _ _ _ _ _ (T491.setTop (mkF m 219 #[.val (.int p0), .val (.int p1), .val (.int p2), .val (.int x2_0), .val (.int x4_0), .val (.int (0 : Int32)), .val (.int (3 : Int32)), .val (.ref b445), .val (.ref b451), .val (.ref b460), .val (.ref b471), .val (.ref b483), .unset, .unset, .val (.int (1 : Int32)), .unset] [(.int (2 : Int32)), (.int (3 : Int32))]))
    refine Goes.step (fun t k => XS.icmpYes X491.here hx rfl (pc0 := 219) (pc' := 232) rfl (hb hby at_219) rfl (feq (by decide)).2 (by decide) (by decide) k) ?_
    show Goes _ _ _ _ _ _ _ (T491.setTop (mkF m 232 #[.val (.int p0), .val (.int p1), .val (.int p2), .val (.int x2_0), .val (.int x4_0), .val (.int (0 : Int32)), .val (.int (3 : Int32)), .val (.ref b445), .val (.ref b451), .val (.ref b460), .val (.ref b471), .val (.ref b483), .unset, .unset, .val (.int (1 : Int32)), .unset] []))
    obtain ⟨T500, h500, X500, e500, E500, A500, D500, -, st500⟩ := newO X491 hx hZ hown (hw _ (List.mem_of_getElem? (i := 50) rfl)) (hw _ (List.mem_of_getElem? (i := 51) rfl)) (hw _ (List.mem_of_getElem? (i := 52) rfl)) e491 (g := (mkF m 232 #[.val (.int p0), .val (.int p1), .val (.int p2), .val (.int x2_0), .val (.int x4_0), .val (.int (0 : Int32)), .val (.int (3 : Int32)), .val (.ref b445), .val (.ref b451), .val (.ref b460), .val (.ref b471), .val (.ref b483), .unset, .unset, .val (.int (1 : Int32)), .unset] [])) rfl (hb hby at_232) (by decide) (by decide)
    obtain ⟨b500, g500⟩ : ∃ z, z = h491.size := ⟨_, rfl⟩
    rw [← g500] at A500 D500 st500
    have ne_b445_b500 : b445 ≠ b500 := Nat.ne_of_lt (Nat.lt_of_lt_of_le F493.lt (Nat.le_of_eq g500.symm))
    have ne_b451_b500 : b451 ≠ b500 := Nat.ne_of_lt (Nat.lt_of_lt_of_le F494.lt (Nat.le_of_eq g500.symm))
    have ne_b460_b500 : b460 ≠ b500 := Nat.ne_of_lt (Nat.lt_of_lt_of_le F495.lt (Nat.le_of_eq g500.symm))
    have ne_b471_b500 : b471 ≠ b500 := Nat.ne_of_lt (Nat.lt_of_lt_of_le F496.lt (Nat.le_of_eq g500.symm))
    have ne_b483_b500 : b483 ≠ b500 := Nat.ne_of_lt (Nat.lt_of_lt_of_le G491_0.lt (Nat.le_of_eq g500.symm))
    have Zs500 : n0 ≤ b500 := Nat.le_trans Z491 (Nat.le_of_eq g500.symm)
    have Zh500 : h0.size ≤ b500 := Nat.le_trans K491.1 (Nat.le_of_eq g500.symm)
    have F501 := F492.ext E500
    have F502 := F493.ext E500
    have F503 := F494.ext E500
    have F504 := F495.ext E500
    have F505 := F496.ext E500
    have F506 := G491_0.ext E500
    have F507 := G491_1.ext E500
    have F508 := G491_2.ext E500
    have K500 := K491.ext E500
    have Z500 := Nat.le_trans Z491 E500.1
    have F509 : Fld Z h500 b500 "com/example/vigilant_schema/vigilantschema/Node$NullNode" "written" "Ljava/lang/String;" .null := D500 (Or.inr (hw _ (List.mem_of_getElem? (i := 58) rfl))) (ty := (.object "java/lang/String")) (by decide)
    refine Goes.step (fun t k => st500 t k) ?_
    show Goes _ _ _ _ _ _ _ (T500.setTop (mkF m 235 #[.val (.int p0), .val (.int p1), .val (.int p2), .val (.int x2_0), .val (.int x4_0), .val (.int (0 : Int32)), .val (.int (3 : Int32)), .val (.ref b445), .val (.ref b451), .val (.ref b460), .val (.ref b471), .val (.ref b483), .unset, .unset, .val (.int (1 : Int32)), .unset] [(.ref b500)]))
    refine Goes.step (fun t k => XS.dup X500.here hx rfl (hb hby at_235) rfl rfl k) ?_
    show Goes _ _ _ _ _ _ _ (T500.setTop (mkF m 236 #[.val (.int p0), .val (.int p1), .val (.int p2), .val (.int x2_0), .val (.int x4_0), .val (.int (0 : Int32)), .val (.int (3 : Int32)), .val (.ref b445), .val (.ref b451), .val (.ref b460), .val (.ref b471), .val (.ref b483), .unset, .unset, .val (.int (1 : Int32)), .unset] [(.ref b500), (.ref b500)]))
    refine Goes.step (fun t k => XS.aload X500.here hx rfl (hb hby at_236) rfl rfl k) ?_
    show Goes _ _ _ _ _ _ _ (T500.setTop (mkF m 238 #[.val (.int p0), .val (.int p1), .val (.int p2), .val (.int x2_0), .val (.int x4_0), .val (.int (0 : Int32)), .val (.int (3 : Int32)), .val (.ref b445), .val (.ref b451), .val (.ref b460), .val (.ref b471), .val (.ref b483), .unset, .unset, .val (.int (1 : Int32)), .unset] [(.ref b471), (.ref b500), (.ref b500)]))
    obtain ⟨_, _, ⟨T510, L510, k510, n510⟩, -, X510, ⟨Lc510, hQ510, l510, y510, z510⟩, st510⟩ := X500.specialBack hx (y := (⟨"com/example/vigilant_schema/vigilantschema/Node$NullNode", "<init>", "(Ljava/lang/String;)V"⟩ : MethodName)) rfl hown (mvT hZ (hw _ (List.mem_of_getElem? (i := 53) rfl))) (mvT hZ (hw _ (List.mem_of_getElem? (i := 54) rfl))) (mvT hZ (hw _ (List.mem_of_getElem? (i := 55) rfl))) (by decide) (backOf (W := 1) (rm9 l Z tA hw [] b500 b471 h500 n0 Z500 A500 F509 Zs500) hZ (hw _ (List.mem_of_getElem? (i := 55) rfl)) (hw _ (List.mem_of_getElem? (i := 52) rfl)) (by decide) (by decide)) (g := (mkF m 238 #[.val (.int p0), .val (.int p1), .val (.int p2), .val (.int x2_0), .val (.int x4_0), .val (.int (0 : Int32)), .val (.int (3 : Int32)), .val (.ref b445), .val (.ref b451), .val (.ref b460), .val (.ref b471), .val (.ref b483), .unset, .unset, .val (.int (1 : Int32)), .unset] [(.ref b471), (.ref b500), (.ref b500)])) rfl (by rw [hml]; rfl) (Steps.refl _) (a := b500) (argsL := [(.ref b471)]) (rest := [(.ref b500)]) (lenOf own_pd3 rfl) rfl (by show 2 * 0 + _ ≤ _; exact Nat.le_of_eq rfl) (hb hby at_238) (fun _ _ => ⟨rfl, e500, (by decide : 8 + 0 ≤ _), (by decide : 19 + 0 ≤ _)⟩)
    dsimp only [Pt.U, Pt.locs, Pt.cells, Pt.slots] at X510 l510 y510 z510 st510 hQ510
    rw [l510, y510, z510] at X510
    generalize e510 : T510.heap = h510 at hQ510
    obtain ⟨rfl, Nq510, Kq510, G510_0, G510_1⟩ := hQ510
    have F511 := own_sta_keep F501 Kq510 (allS (notsta_exa A500) all0)
    have F512 := F502.keep Kq510 (ninS ne_b445_b500 nin0)
    have F513 := F503.keep Kq510 (ninS ne_b451_b500 nin0)
    have F514 := F504.keep Kq510
    have F515 := F505.keep Kq510
    have F516 := F506.keep Kq510
    have F517 := F507.keep Kq510 (ninS ne_b483_b500 nin0)
    have F518 := F508.keep Kq510 (ninS ne_b483_b500 nin0)
    have N510 := Fr.app N491 Nq510
    have K510 := K500.trans Kq510 (allS (Or.inr Zh500) all0)
    have Z510 := Nat.le_trans Z500 Kq510.1
    change Stand _ _ _ _ _ _ _ _ _ _ _ _ 8 19 at X510
    refine Goes.step (fun t k => st510.trans k) ?_
    show Goes _ _ _ _ _ _ _ (T510.setTop (mkF m 241 #[.val (.int p0), .val (.int p1), .val (.int p2), .val (.int x2_0), .val (.int x4_0), .val (.int (0 : Int32)), .val (.int (3 : Int32)), .val (.ref b445), .val (.ref b451), .val (.ref b460), .val (.ref b471), .val (.ref b483), .unset, .unset, .val (.int (1 : Int32)), .unset] [(.ref b500)]))
    refine Goes.step (fun t k => XS.astore X510.here hx rfl (hb hby at_241) rfl rfl (l' := #[.val (.int p0), .val (.int p1), .val (.int p2), .val (.int x2_0), .val (.int x4_0), .val (.int (0 : Int32)), .val (.int (3 : Int32)), .val (.ref b445), .val (.ref b451), .val (.ref b460), .val (.ref b471), .val (.ref b483), .val (.ref b500), .unset, .val (.int (1 : Int32)), .unset]) rfl k) ?_
    show Goes _ _ _ _ _ _ _ (T510.setTop (mkF m 243 #[.val (.int p0), .val (.int p1), .val (.int p2), .val (.int x2_0), .val (.int x4_0), .val (.int (0 : Int32)), .val (.int (3 : Int32)), .val (.ref b445), .val (.ref b451), .val (.ref b460), .val (.ref b471), .val (.ref b483), .val (.ref b500), .unset, .val (.int (1 : Int32)), .unset] []))
    refine Goes.step (fun t k => XS.iconst X510.here hx rfl (hb hby at_243) k) ?_
    show Goes _ _ _ _ _ _ _ (T510.setTop (mkF m 244 #[.val (.int p0), .val (.int p1), .val (.int p2), .val (.int x2_0), .val (.int x4_0), .val (.int (0 : Int32)), .val (.int (3 : Int32)), .val (.ref b445), .val (.ref b451), .val (.ref b460), .val (.ref b471), .val (.ref b483), .val (.ref b500), .unset, .val (.int (1 : Int32)), .unset] [(.int (0 : Int32))]))
    refine Goes.step (fun t k => XS.istore X510.here hx rfl (hb hby at_244) rfl (l' := #[.val (.int p0), .val (.int p1), .val (.int p2), .val (.int x2_0), .val (.int x4_0), .val (.int (0 : Int32)), .val (.int (3 : Int32)), .val (.ref b445), .val (.ref b451), .val (.ref b460), .val (.ref b471), .val (.ref b483), .val (.ref b500), .val (.int (0 : Int32)), .val (.int (1 : Int32)), .unset]) rfl k) ?_
    show Goes _ _ _ _ _ _ _ (T510.setTop (mkF m 246 #[.val (.int p0), .val (.int p1), .val (.int p2), .val (.int x2_0), .val (.int x4_0), .val (.int (0 : Int32)), .val (.int (3 : Int32)), .val (.ref b445), .val (.ref b451), .val (.ref b460), .val (.ref b471), .val (.ref b483), .val (.ref b500), .val (.int (0 : Int32)), .val (.int (1 : Int32)), .unset] []))
    refine Goes.step (fun t k => XS.aload X510.here hx rfl (hb hby at_246) rfl rfl k) ?_
    show Goes _ _ _ _ _ _ _ (T510.setTop (mkF m 248 #[.val (.int p0), .val (.int p1), .val (.int p2), .val (.int x2_0), .val (.int x4_0), .val (.int (0 : Int32)), .val (.int (3 : Int32)), .val (.ref b445), .val (.ref b451), .val (.ref b460), .val (.ref b471), .val (.ref b483), .val (.ref b500), .val (.int (0 : Int32)), .val (.int (1 : Int32)), .unset] [(.ref b483)]))
    refine Goes.step (fun t k => XS.aload X510.here hx rfl (hb hby at_248) rfl rfl k) ?_
    show Goes _ _ _ _ _ _ _ (T510.setTop (mkF m 250 #[.val (.int p0), .val (.int p1), .val (.int p2), .val (.int x2_0), .val (.int x4_0), .val (.int (0 : Int32)), .val (.int (3 : Int32)), .val (.ref b445), .val (.ref b451), .val (.ref b460), .val (.ref b471), .val (.ref b483), .val (.ref b500), .val (.int (0 : Int32)), .val (.int (1 : Int32)), .unset] [(.ref b483), (.ref b483)]))
    obtain ⟨cq519, kq519, q519a, q519b, q519c⟩ := isOf hZ e510 F516
    obtain ⟨_, _, ⟨T519, L519, k519, n519⟩, -, X519, ⟨Lc519, hQ519, l519, y519, z519⟩, st519⟩ := X510.virtualBack hx (y := (⟨"com/example/vigilant_schema/vigilantschema/Node$BooleanNode", "equals", "(Ljava/lang/Object;)Z"⟩ : MethodName)) (z := (⟨"com/example/vigilant_schema/vigilantschema/Node$BooleanNode", "equals", "(Ljava/lang/Object;)Z"⟩ : MethodName)) hown (mvT hZ (hw _ (List.mem_of_getElem? (i := 41) rfl))) (mvT hZ (hw _ (List.mem_of_getElem? (i := 42) rfl))) (notFace_of_selects (args := #[]) (mvT hZ (hw _ (List.mem_of_getElem? (i := 44) rfl)))) (mvT hZ (hw _ (List.mem_of_getElem? (i := 44) rfl))) (mvT hZ (hw _ (List.mem_of_getElem? (i := 43) rfl))) (by decide) (backOf (W := 0) (rm8B l Z tA hw [] b483 b483 (nar .boolean x2_0) (nar .boolean x2_0) h510 F516 F517 F517) hZ (hw _ (List.mem_of_getElem? (i := 45) rfl)) (hw _ (List.mem_of_getElem? (i := 32) rfl)) (by decide) (by decide)) q519a q519c (g := (mkF m 250 #[.val (.int p0), .val (.int p1), .val (.int p2), .val (.int x2_0), .val (.int x4_0), .val (.int (0 : Int32)), .val (.int (3 : Int32)), .val (.ref b445), .val (.ref b451), .val (.ref b460), .val (.ref b471), .val (.ref b483), .val (.ref b500), .val (.int (0 : Int32)), .val (.int (1 : Int32)), .unset] [(.ref b483), (.ref b483)])) rfl (by rw [hml]; rfl) (Steps.refl _) (argsL := [(.ref b483)]) (rest := []) (lenOf own_pd2 rfl) rfl (by show 2 * 0 + _ ≤ _; exact Nat.le_of_eq rfl) (hb hby at_250) (fun _ _ => ⟨rfl, e510, (by decide : 8 + 0 ≤ _), (by decide : 19 + 0 ≤ _)⟩)
    dsimp only [Pt.U, Pt.locs, Pt.cells, Pt.slots] at X519 l519 y519 z519 st519 hQ519
    rw [l519, y519, z519] at X519
    obtain ⟨rfl, rfl, e519⟩ := hQ519
    try rw [List.append_nil] at X519
    change Stand _ _ _ _ _ _ _ _ _ _ _ _ 8 19 at X519
    refine Goes.step (fun t k => st519.trans k) ?_
    show Goes _ _ _ _ _ _ _ (T519.setTop (mkF m 253 #[.val (.int p0), .val (.int p1), .val (.int p2), .val (.int x2_0), .val (.int x4_0), .val (.int (0 : Int32)), .val (.int (3 : Int32)), .val (.ref b445), .val (.ref b451), .val (.ref b460), .val (.ref b471), .val (.ref b483), .val (.ref b500), .val (.int (0 : Int32)), .val (.int (1 : Int32)), .unset] [(.int (f8B (nar .boolean x2_0) (nar .boolean x2_0)))]))
    refine Goes.step (fun t k => XS.istore X519.here hx rfl (hb hby at_253) rfl (l' := #[.val (.int p0), .val (.int p1), .val (.int p2), .val (.int x2_0), .val (.int x4_0), .val (.int (0 : Int32)), .val (.int (3 : Int32)), .val (.ref b445), .val (.ref b451), .val (.ref b460), .val (.ref b471), .val (.ref b483), .val (.ref b500), .val (.int (0 : Int32)), .val (.int (1 : Int32)), .val (.int (f8B (nar .boolean x2_0) (nar .boolean x2_0)))]) rfl k) ?_
    show Goes _ _ _ _ _ _ _ (T519.setTop (mkF m 255 #[.val (.int p0), .val (.int p1), .val (.int p2), .val (.int x2_0), .val (.int x4_0), .val (.int (0 : Int32)), .val (.int (3 : Int32)), .val (.ref b445), .val (.ref b451), .val (.ref b460), .val (.ref b471), .val (.ref b483), .val (.ref b500), .val (.int (0 : Int32)), .val (.int (1 : Int32)), .val (.int (f8B (nar .boolean x2_0) (nar .boolean x2_0)))] []))
    generalize hy520 : (f8B (nar .boolean x2_0) (nar .boolean x2_0)) = y520
    refine Goes.step (fun t k => XS.iload X519.here hx rfl (hb hby at_255) rfl k) ?_
    show Goes _ _ _ _ _ _ _ (T519.setTop (mkF m 257 #[.val (.int p0), .val (.int p1), .val (.int p2), .val (.int x2_0), .val (.int x4_0), .val (.int (0 : Int32)), .val (.int (3 : Int32)), .val (.ref b445), .val (.ref b451), .val (.ref b460), .val (.ref b471), .val (.ref b483), .val (.ref b500), .val (.int (0 : Int32)), .val (.int (1 : Int32)), .val (.int y520)] [(.int y520)]))
    suffices k525 : ∀ (T525 : State) (L525 : List Loc) (x525_0 : Int32), Stand p l e room_1 s m #[(.int p0), (.int p1), (.int p2)] below meth c T525 L525 8 19 → T525.heap = h510 → Fr n0 L525 → x525_0 = (if y520 = (0 : Int32) then (0 : Int32) else (if f8N = (0 : Int32) then (1 : Int32) else (0 : Int32))) → Goes p e below s (Q0 Z p0 p1 p2 wC h0 n0) kC0 kS0 (T525.setTop (mkF m 282 #[.val (.int p0), .val (.int p1), .val (.int p2), .val (.int x2_0), .val (.int x4_0), .val (.int (0 : Int32)), .val (.int (3 : Int32)), .val (.ref b445), .val (.ref b451), .val (.ref b460), .val (.ref b471), .val (.ref b483), .val (.ref b500), .val (.int (0 : Int32)), .val (.int (1 : Int32)), .val (.int y520)] [(.int x525_0)])) by
      by_cases hc257_521 : y520 = (0 : Int32)
      · refine Goes.step (fun t k => XS.ifYes X519.here hx rfl (pc0 := 257) (pc' := 281) rfl (hb hby at_257) rfl ((if0 _ _).trans (teq hc257_521).1) (by decide) (by decide) k) ?_
        show Goes _ _ _ _ _ _ _ (T519.setTop (mkF m 281 #[.val (.int p0), .val (.int p1), .val (.int p2), .val (.int x2_0), .val (.int x4_0), .val (.int (0 : Int32)), .val (.int (3 : Int32)), .val (.ref b445), .val (.ref b451), .val (.ref b460), .val (.ref b471), .val (.ref b483), .val (.ref b500), .val (.int (0 : Int32)), .val (.int (1 : Int32)), .val (.int y520)] []))
        refine Goes.step (fun t k => XS.iconst X519.here hx rfl (hb hby at_281) k) ?_
        show Goes _ _ _ _ _ _ _ (T519.setTop (mkF m 282 #[.val (.int p0), .val (.int p1), .val (.int p2), .val (.int x2_0), .val (.int x4_0), .val (.int (0 : Int32)), .val (.int (3 : Int32)), .val (.ref b445), .val (.ref b451), .val (.ref b460), .val (.ref b471), .val (.ref b483), .val (.ref b500), .val (.int (0 : Int32)), .val (.int (1 : Int32)), .val (.int y520)] [(.int (0 : Int32))]))
        exact k525 _ _ _ X519 e519 N510 (if_pos hc257_521).symm
      · refine Goes.step (fun t k => XS.ifNo X519.here hx rfl (hb hby at_257) rfl ((if0 _ _).trans (feq hc257_521).1) k) ?_
        show Goes _ _ _ _ _ _ _ (T519.setTop (mkF m 260 #[.val (.int p0), .val (.int p1), .val (.int p2), .val (.int x2_0), .val (.int x4_0), .val (.int (0 : Int32)), .val (.int (3 : Int32)), .val (.ref b445), .val (.ref b451), .val (.ref b460), .val (.ref b471), .val (.ref b483), .val (.ref b500), .val (.int (0 : Int32)), .val (.int (1 : Int32)), .val (.int y520)] []))
        refine Goes.step (fun t k => XS.iload X519.here hx rfl (hb hby at_260) rfl k) ?_
        show Goes _ _ _ _ _ _ _ (T519.setTop (mkF m 262 #[.val (.int p0), .val (.int p1), .val (.int p2), .val (.int x2_0), .val (.int x4_0), .val (.int (0 : Int32)), .val (.int (3 : Int32)), .val (.ref b445), .val (.ref b451), .val (.ref b460), .val (.ref b471), .val (.ref b483), .val (.ref b500), .val (.int (0 : Int32)), .val (.int (1 : Int32)), .val (.int y520)] [(.int (1 : Int32))]))
        refine Goes.step (fun t k => XS.ifNo X519.here hx rfl (hb hby at_262) rfl ((if0 _ _).trans (feq (by decide)).1) k) ?_
        show Goes _ _ _ _ _ _ _ (T519.setTop (mkF m 265 #[.val (.int p0), .val (.int p1), .val (.int p2), .val (.int x2_0), .val (.int x4_0), .val (.int (0 : Int32)), .val (.int (3 : Int32)), .val (.ref b445), .val (.ref b451), .val (.ref b460), .val (.ref b471), .val (.ref b483), .val (.ref b500), .val (.int (0 : Int32)), .val (.int (1 : Int32)), .val (.int y520)] []))
        refine Goes.step (fun t k => XS.aload X519.here hx rfl (hb hby at_265) rfl rfl k) ?_
        show Goes _ _ _ _ _ _ _ (T519.setTop (mkF m 267 #[.val (.int p0), .val (.int p1), .val (.int p2), .val (.int x2_0), .val (.int x4_0), .val (.int (0 : Int32)), .val (.int (3 : Int32)), .val (.ref b445), .val (.ref b451), .val (.ref b460), .val (.ref b471), .val (.ref b483), .val (.ref b500), .val (.int (0 : Int32)), .val (.int (1 : Int32)), .val (.int y520)] [(.ref b483)]))
        refine Goes.step (fun t k => XS.aload X519.here hx rfl (hb hby at_267) rfl rfl k) ?_
        show Goes _ _ _ _ _ _ _ (T519.setTop (mkF m 269 #[.val (.int p0), .val (.int p1), .val (.int p2), .val (.int x2_0), .val (.int x4_0), .val (.int (0 : Int32)), .val (.int (3 : Int32)), .val (.ref b445), .val (.ref b451), .val (.ref b460), .val (.ref b471), .val (.ref b483), .val (.ref b500), .val (.int (0 : Int32)), .val (.int (1 : Int32)), .val (.int y520)] [(.ref b500), (.ref b483)]))
        obtain ⟨cq523, kq523, q523a, q523b, q523c⟩ := isOf hZ e519 F516
        obtain ⟨_, _, ⟨T523, L523, k523, n523⟩, -, X523, ⟨Lc523, hQ523, l523, y523, z523⟩, st523⟩ := X519.virtualBack hx (y := (⟨"com/example/vigilant_schema/vigilantschema/Node$BooleanNode", "equals", "(Ljava/lang/Object;)Z"⟩ : MethodName)) (z := (⟨"com/example/vigilant_schema/vigilantschema/Node$BooleanNode", "equals", "(Ljava/lang/Object;)Z"⟩ : MethodName)) hown (mvT hZ (hw _ (List.mem_of_getElem? (i := 41) rfl))) (mvT hZ (hw _ (List.mem_of_getElem? (i := 42) rfl))) (notFace_of_selects (args := #[]) (mvT hZ (hw _ (List.mem_of_getElem? (i := 44) rfl)))) (mvT hZ (hw _ (List.mem_of_getElem? (i := 44) rfl))) (mvT hZ (hw _ (List.mem_of_getElem? (i := 43) rfl))) (by decide) (backOf (W := 0) (rm8N l Z tA hw [] b483 b500 h510 G510_0) hZ (hw _ (List.mem_of_getElem? (i := 45) rfl)) (hw _ (List.mem_of_getElem? (i := 32) rfl)) (by decide) (by decide)) q523a q523c (g := (mkF m 269 #[.val (.int p0), .val (.int p1), .val (.int p2), .val (.int x2_0), .val (.int x4_0), .val (.int (0 : Int32)), .val (.int (3 : Int32)), .val (.ref b445), .val (.ref b451), .val (.ref b460), .val (.ref b471), .val (.ref b483), .val (.ref b500), .val (.int (0 : Int32)), .val (.int (1 : Int32)), .val (.int y520)] [(.ref b500), (.ref b483)])) rfl (by rw [hml]; rfl) (Steps.refl _) (argsL := [(.ref b500)]) (rest := []) (lenOf own_pd2 rfl) rfl (by show 2 * 0 + _ ≤ _; exact Nat.le_of_eq rfl) (hb hby at_269) (fun _ _ => ⟨rfl, e519, (by decide : 8 + 0 ≤ _), (by decide : 19 + 0 ≤ _)⟩)
        dsimp only [Pt.U, Pt.locs, Pt.cells, Pt.slots] at X523 l523 y523 z523 st523 hQ523
        rw [l523, y523, z523] at X523
        obtain ⟨rfl, rfl, e523⟩ := hQ523
        try rw [List.append_nil] at X523
        change Stand _ _ _ _ _ _ _ _ _ _ _ _ 8 19 at X523
        refine Goes.step (fun t k => st523.trans k) ?_
        show Goes _ _ _ _ _ _ _ (T523.setTop (mkF m 272 #[.val (.int p0), .val (.int p1), .val (.int p2), .val (.int x2_0), .val (.int x4_0), .val (.int (0 : Int32)), .val (.int (3 : Int32)), .val (.ref b445), .val (.ref b451), .val (.ref b460), .val (.ref b471), .val (.ref b483), .val (.ref b500), .val (.int (0 : Int32)), .val (.int (1 : Int32)), .val (.int y520)] [(.int f8N)]))
        refine Goes.step (fun t k => XS.iload X523.here hx rfl (hb hby at_272) rfl k) ?_
        show Goes _ _ _ _ _ _ _ (T523.setTop (mkF m 274 #[.val (.int p0), .val (.int p1), .val (.int p2), .val (.int x2_0), .val (.int x4_0), .val (.int (0 : Int32)), .val (.int (3 : Int32)), .val (.ref b445), .val (.ref b451), .val (.ref b460), .val (.ref b471), .val (.ref b483), .val (.ref b500), .val (.int (0 : Int32)), .val (.int (1 : Int32)), .val (.int y520)] [(.int (0 : Int32)), (.int f8N)]))
        by_cases hc274_524 : f8N = (0 : Int32)
        · refine Goes.step (fun t k => XS.icmpNo X523.here hx rfl (hb hby at_274) rfl (teq hc274_524).2 k) ?_
          show Goes _ _ _ _ _ _ _ (T523.setTop (mkF m 277 #[.val (.int p0), .val (.int p1), .val (.int p2), .val (.int x2_0), .val (.int x4_0), .val (.int (0 : Int32)), .val (.int (3 : Int32)), .val (.ref b445), .val (.ref b451), .val (.ref b460), .val (.ref b471), .val (.ref b483), .val (.ref b500), .val (.int (0 : Int32)), .val (.int (1 : Int32)), .val (.int y520)] []))
          refine Goes.step (fun t k => XS.iconst X523.here hx rfl (hb hby at_277) k) ?_
          show Goes _ _ _ _ _ _ _ (T523.setTop (mkF m 278 #[.val (.int p0), .val (.int p1), .val (.int p2), .val (.int x2_0), .val (.int x4_0), .val (.int (0 : Int32)), .val (.int (3 : Int32)), .val (.ref b445), .val (.ref b451), .val (.ref b460), .val (.ref b471), .val (.ref b483), .val (.ref b500), .val (.int (0 : Int32)), .val (.int (1 : Int32)), .val (.int y520)] [(.int (1 : Int32))]))
          refine Goes.step (fun t k => XS.goto X523.here hx rfl (pc0 := 278) (pc' := 282) rfl (hb hby at_278) (by decide) (by decide) k) ?_
          show Goes _ _ _ _ _ _ _ (T523.setTop (mkF m 282 #[.val (.int p0), .val (.int p1), .val (.int p2), .val (.int x2_0), .val (.int x4_0), .val (.int (0 : Int32)), .val (.int (3 : Int32)), .val (.ref b445), .val (.ref b451), .val (.ref b460), .val (.ref b471), .val (.ref b483), .val (.ref b500), .val (.int (0 : Int32)), .val (.int (1 : Int32)), .val (.int y520)] [(.int (1 : Int32))]))
          exact k525 _ _ _ X523 e523 N510 ((if_neg hc257_521).trans (if_pos hc274_524)).symm
        · refine Goes.step (fun t k => XS.icmpYes X523.here hx rfl (pc0 := 274) (pc' := 281) rfl (hb hby at_274) rfl (feq hc274_524).2 (by decide) (by decide) k) ?_
          show Goes _ _ _ _ _ _ _ (T523.setTop (mkF m 281 #[.val (.int p0), .val (.int p1), .val (.int p2), .val (.int x2_0), .val (.int x4_0), .val (.int (0 : Int32)), .val (.int (3 : Int32)), .val (.ref b445), .val (.ref b451), .val (.ref b460), .val (.ref b471), .val (.ref b483), .val (.ref b500), .val (.int (0 : Int32)), .val (.int (1 : Int32)), .val (.int y520)] []))
          refine Goes.step (fun t k => XS.iconst X523.here hx rfl (hb hby at_281) k) ?_
          show Goes _ _ _ _ _ _ _ (T523.setTop (mkF m 282 #[.val (.int p0), .val (.int p1), .val (.int p2), .val (.int x2_0), .val (.int x4_0), .val (.int (0 : Int32)), .val (.int (3 : Int32)), .val (.ref b445), .val (.ref b451), .val (.ref b460), .val (.ref b471), .val (.ref b483), .val (.ref b500), .val (.int (0 : Int32)), .val (.int (1 : Int32)), .val (.int y520)] [(.int (0 : Int32))]))
          exact k525 _ _ _ X523 e523 N510 ((if_neg hc257_521).trans (if_neg hc274_524)).symm
    intro T525 L525 x525_0 X525 e525 N525 hx525_0
    exact Goes.retZ X525 hx Bd.notSynchronized (r := (1 : Int32)) Bd.returns (by simp) (hb hby at_282) (own_plain_8 p0 x2_0 y520 x525_0 hx2_0 hy520 hx525_0) ⟨rfl, N525⟩ (by decide) (by decide)
set_option maxRecDepth 65536 in
set_option maxHeartbeats 40000000 in
theorem comes_1 {Post : Tables → Env → Array Value → State → Outcome → State → Prop} (hpost : ∀ tb e args s v u, (limb_1_1.after args s (.returned v) u = true ∧ limb_1_2.after args s (.returned v) u = true ∧ True) → FrameEnd s (.returned v) u (Jvm.fieldLocs frame_1_writes args s ++ Jvm.arrayLocs frame_1_arrays args s ++ Jvm.staticLocs frame_1_statics s) 24 128 → Post tb e args s (.returned v) u) :
    ArmFor flags0 classFile x code maxLocals ret World_1 tables_1 room_1 Calls_1 rest_1 Pre_1 Post := by
  intro l hfl _ _ p e ha hc hk s m args below hf hA hF happ hP
  obtain ⟨hcalls, hrest, hpre⟩ := hP
  obtain ⟨-, -, -, hnamed, -, -, -, hat⟩ := (Spec.applies_iff hf).mp happ
  obtain ⟨hg, hn⟩ := and_e (Cond.before_iff.mp (show (Jvm.Cond.and given_1 narrow_1).before args s = true from hpre))
  obtain ⟨g0, gr0⟩ := and_e hg
  obtain ⟨ga0, gr1⟩ := and_e gr0
  obtain ⟨ga1, gr2⟩ := and_e gr1
  have ga2 := gr2
  obtain ⟨w0, w1, w2, rfl⟩ : ∃ w0 w1 w2 : Value, args = #[w0, w1, w2] := by
    have hs : args.size = 3 := by simpa [Cond.value, given_1] using g0
    obtain ⟨L⟩ := args
    match L, hs with
    | [w0, w1, w2], _ => exact ⟨w0, w1, w2, rfl⟩
  have hw := fun d (hd : d ∈ tables_1) => atoms_spec (ws := Jvm.Cond.code x code maxLocals ret :: tables_1) hat d (List.mem_cons_of_mem _ hd)
  have hfit : Fit s := fun {y c} hc i hi => by
    obtain ⟨ha, rfl⟩ := Array.getElem?_eq_some_iff.mp hc
    have q := List.all_eq_true.mp ((Array.all_eq_true_iff_forall_mem.mp hF) _ (Array.getElem_mem ha)) i (List.mem_range.mpr hi)
    simpa [Array.getElem?_eq_getElem hi] using q
  obtain ⟨i0, ei0⟩ := is_v ga0
  obtain rfl : w0 = (.int i0) := Option.some.inj ei0
  obtain ⟨i1, ei1⟩ := is_v ga1
  obtain rfl : w1 = (.int i1) := Option.some.inj ei1
  obtain ⟨i2, ei2⟩ := is_v ga2
  obtain rfl : w2 = (.int i2) := Option.some.inj ei2
  obtain ⟨hsets, hown0⟩ := atoms_of _ (rest_1_c_eq ▸ (show rest_1_c.before _ s = true from hrest))
  have nC := not_v (Cond.before_iff.mp (hsets _ (List.mem_of_getElem? (i := 2) rfl)))
  obtain ⟨iC, eC⟩ := is_v (Cond.before_iff.mp (hsets _ (List.mem_of_getElem? (i := 1) rfl)))
  have SC : Sta s s.heap "java/lang/String" "COMPACT_STRINGS" "Z" (.int iC) := Sta.start eC (Or.inl (hsets _ (List.mem_of_getElem? (i := 0) rfl)))
  have PC : ¬ (iC = (0 : Int32)) := gotF (Cond.eq_ints eC (Term.int_eval 0)) nC
  obtain ⟨n, o, h1, h2, h3, _, L, rfl, ⟨rfl, N⟩, hq⟩ := rm0 l s _ hw tables_1 i0 i1 i2 iC s.heap s.heap.size (Nat.le_refl _) SC PC p e ha hc hk s m _ below hf ((Spec.applies_iff_loose hf).mp happ).1 ⟨rfl, State.Warmed39.refl s, rfl⟩ trivial
  refine ⟨n, _, h1, h2, h3, hpost _ _ _ _ _ _ ⟨Cond.after_iff.mpr rfl, Cond.after_iff.mpr (eq_i res_at (Term.int_eval (1)) rfl), trivial⟩ ⟨hq.1, hq.2.1, (hq.2.2.sift fun y hy => Or.inr (N y hy)).mono (by decide) (by decide)⟩⟩
theorem main_1_1 : Claimed_1_1 := comes_1 fun _ _ _ _ _ _ h hF => ⟨h.1, hF⟩
theorem main_1_2 : Claimed_1_2 := comes_1 fun _ _ _ _ _ _ h hF => ⟨h.2.1, hF⟩
end Jvm.Pilot.@@N@@
namespace Jvm.Pilot.@@N@@
open Jvm Jvm.ClassFile Sem Op Lib Jvm.Free Jvm.Stand Jvm.Pilot.@@N@@.Jvm.D
/-! MADE BY PROGRAM (witnessworld.py) out of the Statement's table words and the real class files: 22 classes; the members and pool entries that the words name. The judged class is class 1, her method 1. -/
namespace start1
open Jvm.ClassFile
def u (s : String) : CpInfo := .utf8 (stringToUtf16 s)
/-- a pool by its gaps: so many unusable entries, then the entry; so many at the end -/
def gap : Nat → List CpInfo → List CpInfo
  | 0, r => r
  | n + 1, r => .unusable :: gap n r
def poolList (es : List (Nat × CpInfo)) (last : Nat) : List CpInfo := es.foldr (fun e r => gap e.1 (e.2 :: r)) (gap last [])
def pool (es : List (Nat × CpInfo)) (last : Nat) : Array CpInfo := ⟨poolList es last⟩
def fileOf (pool : Array CpInfo) (this : Nat) (attrs : Array Attribute := #[]) (ms : Array MethodInfo := #[]) (fl : Nat := 33) (sup : Nat := 0) (ifs : Array Nat := #[]) (fds : Array FieldInfo := #[]) : ClassFile where
  minorVersion := 0
  majorVersion := 65
  constantPool := pool
  accessFlags := fl
  thisClass := this
  superClass := sup
  interfaces := ifs
  fields := fds
  methods := ms
  attributes := attrs
def plain (name : String) (sup : Option ClassId) : Class where
  name := name
  kind := .ordinary
  loader := none
  accessFlags := 33
  super := sup
  interfaces := #[]
  cf := none
  fields := #[]
  methods := #[]
  instanceTypes := #[]
  staticTypes := #[]
  resolved := #[]
  callSites := []
  init := .initialized
  statics := none
  mirror := none

def pool0 : Array CpInfo := pool [(5, u "<init>"), (0, u "()V"), (1, .class_ 10), (1, u "java/lang/Object")] 113

def k0c0 : Code := { maxStack := 0, maxLocals := 1, code := object_method_1_code, exceptionTable := #[], attributes := #[] }
def k0m0 : Method := { name := "<init>", desc := "()V", sig := { parameters := [], returnType := none }, accessFlags := 1, code := some k0c0 }
/-- java/lang/Object -/
def k0 : Class := { plain "java/lang/Object" none with
  accessFlags := 33
  interfaces := #[]
  cf := some (fileOf pool0 8 #[] #[{ accessFlags := 1, nameIndex := 5, descriptorIndex := 6, attributes := #[] }] 33 0 #[] #[])
  fields := #[]
  methods := #[k0m0]
  instanceTypes := #[]
  staticTypes := #[]
  resolved := Array.replicate 124 none
  statics := none }

def pool1 : Array CpInfo := pool [(2, .class_ 4), (1, u "java/lang/Object"), (0, u "<init>"), (0, u "()V"), (0, .class_ 8), (0, u "java/lang/String"), (0, .methodref 7 10), (0, .nameAndType 5 11), (0, u "([C)V"), (0, .class_ 13), (0, u "com/example/vigilant_schema/vigilantschema/Node$BooleanNode"), (0, .methodref 12 15), (0, .nameAndType 5 16), (0, u "(ZLjava/lang/String;)V"), (0, .methodref 12 18), (0, .nameAndType 19 20), (0, u "equals"), (0, u "(Ljava/lang/Object;)Z"), (0, .class_ 22), (0, u "com/example/vigilant_schema/vigilantschema/Node$NullNode"), (0, .methodref 21 24), (0, .nameAndType 5 25), (0, u "(Ljava/lang/String;)V"), (0, .class_ 27), (0, u "com/example/vigilant_schema/vigilantschema/BooleanNodeEqualsPinLaw"), (2, u "law"), (0, u "(III)Z")] 10

def k1m0 : Method := { name := "<init>", desc := "()V", sig := { parameters := [], returnType := none }, accessFlags := 1, code := none }
def k1c1 : Code := { maxStack := 5, maxLocals := 16, code := code, exceptionTable := #[], attributes := #[] }
def k1m1 : Method := { name := "law", desc := "(III)Z", sig := { parameters := [.int, .int, .int], returnType := some .boolean }, accessFlags := 9, code := some k1c1 }
/-- com/example/vigilant_schema/vigilantschema/BooleanNodeEqualsPinLaw -/
def k1 : Class := { plain "com/example/vigilant_schema/vigilantschema/BooleanNodeEqualsPinLaw" (some 0) with
  accessFlags := 49
  interfaces := #[]
  cf := some (fileOf pool1 26 #[] #[{ accessFlags := 1, nameIndex := 5, descriptorIndex := 6, attributes := #[] }, { accessFlags := 9, nameIndex := 30, descriptorIndex := 31, attributes := #[] }] 49 2 #[] #[])
  fields := #[]
  methods := #[k1m0, k1m1]
  instanceTypes := #[]
  staticTypes := #[]
  resolved := Array.replicate 42 none
  statics := none }

def pool2 : Array CpInfo := pool [(1, .class_ 2), (0, u "java/io/Serializable"), (0, .class_ 4), (0, u "java/lang/Object")] 2

/-- java/io/Serializable -/
def k2 : Class := { plain "java/io/Serializable" (some 0) with
  accessFlags := 1537
  interfaces := #[]
  cf := some (fileOf pool2 1 #[] #[] 1537 3 #[] #[])
  fields := #[]
  methods := #[]
  instanceTypes := #[]
  staticTypes := #[]
  resolved := Array.replicate 7 none
  statics := none }

def pool3 : Array CpInfo := pool [(1, .class_ 2), (0, u "java/lang/Comparable"), (0, .class_ 4), (0, u "java/lang/Object")] 7

/-- java/lang/Comparable -/
def k3 : Class := { plain "java/lang/Comparable" (some 0) with
  accessFlags := 1537
  interfaces := #[]
  cf := some (fileOf pool3 1 #[] #[] 1537 3 #[] #[])
  fields := #[]
  methods := #[]
  instanceTypes := #[]
  staticTypes := #[]
  resolved := Array.replicate 12 none
  statics := none }

def pool4 : Array CpInfo := pool [(2, .class_ 4), (1, u "java/lang/CharSequence"), (42, .class_ 48), (0, u "java/lang/CharSequence$1CodePointIterator"), (10, .class_ 60), (0, u "java/lang/CharSequence$1CharIterator"), (5, .class_ 67), (0, u "java/lang/Object")] 63

/-- java/lang/CharSequence -/
def k4 : Class := { plain "java/lang/CharSequence" (some 0) with
  accessFlags := 1537
  interfaces := #[]
  cf := some (fileOf pool4 2 #[.nestMembers #[47, 59]] #[] 1537 66 #[] #[])
  fields := #[]
  methods := #[]
  instanceTypes := #[]
  staticTypes := #[]
  resolved := Array.replicate 131 none
  statics := none }

def pool5 : Array CpInfo := pool [(1, .class_ 2), (0, u "java/lang/constant/Constable"), (0, .class_ 4), (0, u "java/lang/Object")] 6

/-- java/lang/constant/Constable -/
def k5 : Class := { plain "java/lang/constant/Constable" (some 0) with
  accessFlags := 1537
  interfaces := #[]
  cf := some (fileOf pool5 1 #[] #[] 1537 3 #[] #[])
  fields := #[]
  methods := #[]
  instanceTypes := #[]
  staticTypes := #[]
  resolved := Array.replicate 11 none
  statics := none }

def pool6 : Array CpInfo := pool [(1, .class_ 2), (0, u "java/lang/constant/ConstantDesc"), (0, .class_ 4), (0, u "java/lang/Object")] 32

/-- java/lang/constant/ConstantDesc -/
def k6 : Class := { plain "java/lang/constant/ConstantDesc" (some 0) with
  accessFlags := 1537
  interfaces := #[]
  cf := some (fileOf pool6 1 #[] #[] 1537 3 #[] #[])
  fields := #[]
  methods := #[]
  instanceTypes := #[]
  staticTypes := #[]
  resolved := Array.replicate 37 none
  statics := none }

def pool7 : Array CpInfo := pool [(1, .methodref 2 3), (0, .class_ 4), (0, .nameAndType 5 6), (0, u "java/lang/Object"), (0, u "<init>"), (0, u "()V"), (2, .fieldref 10 11), (0, .class_ 12), (0, .nameAndType 13 14), (0, u "java/lang/String"), (0, u "value"), (0, u "[B"), (0, .fieldref 10 16), (0, .nameAndType 17 18), (0, u "coder"), (0, u "B"), (2, u "hash"), (0, u "I"), (2, u "hashIsZero"), (0, u "Z"), (0, .methodref 10 28), (0, .nameAndType 5 29), (0, u "([CIILjava/lang/Void;)V"), (8, .fieldref 10 39), (0, .nameAndType 40 26), (0, u "COMPACT_STRINGS"), (1, .class_ 44), (1, u "java/lang/StringUTF16"), (0, u "compress"), (1, .methodref 42 48), (0, .nameAndType 49 50), (0, u "coderFromArrayLen"), (0, u "([BI)B"), (126, .methodref 42 178), (0, .nameAndType 45 179), (0, u "([CII)[B"), (395, .class_ 576), (0, u "java/lang/CharSequence"), (22, u "CASE_INSENSITIVE_ORDER"), (0, u "Ljava/util/Comparator;"), (409, u "([C)V"), (90, u "serialPersistentFields"), (0, u "[Ljava/io/ObjectStreamField;"), (0, .class_ 1104), (0, u "java/lang/String$CaseInsensitiveComparator"), (1, .class_ 1107), (0, u "java/io/Serializable"), (0, .class_ 1109), (0, u "java/lang/Comparable"), (0, .class_ 1111), (0, u "java/lang/constant/Constable"), (0, .class_ 1113), (0, u "java/lang/constant/ConstantDesc"), (2, u "serialVersionUID"), (0, u "J"), (3, u "REPL"), (0, u "C"), (2, u "LATIN1"), (1, u "UTF16")] 323

def k7m0 : Method := { name := "<init>", desc := "()V", sig := { parameters := [], returnType := none }, accessFlags := 1, code := none }
def k7c1 : Code := { maxStack := 5, maxLocals := 2, code := jdk_42_method_3_code, exceptionTable := #[], attributes := #[] }
def k7m1 : Method := { name := "<init>", desc := "([C)V", sig := { parameters := [(.array .char)], returnType := none }, accessFlags := 1, code := some k7c1 }
def k7c2 : Code := { maxStack := 4, maxLocals := 6, code := jdk_42_method_149_code, exceptionTable := #[], attributes := #[] }
def k7m2 : Method := { name := "<init>", desc := "([CIILjava/lang/Void;)V", sig := { parameters := [(.array .char), .int, .int, (.object "java/lang/Void")], returnType := none }, accessFlags := 2, code := some k7c2 }
/-- java/lang/String -/
def k7 : Class := { plain "java/lang/String" (some 0) with
  accessFlags := 49
  interfaces := #[2, 3, 4, 5, 6]
  cf := some (fileOf pool7 10 #[.nestMembers #[1103]] #[{ accessFlags := 1, nameIndex := 5, descriptorIndex := 6, attributes := #[] }, { accessFlags := 1, nameIndex := 5, descriptorIndex := 1010, attributes := #[] }, { accessFlags := 2, nameIndex := 5, descriptorIndex := 29, attributes := #[] }] 49 2 #[1106, 1108, 575, 1110, 1112] #[{ accessFlags := 18, nameIndex := 13, descriptorIndex := 14, attributes := #[] }, { accessFlags := 18, nameIndex := 17, descriptorIndex := 18, attributes := #[] }, { accessFlags := 2, nameIndex := 21, descriptorIndex := 22, attributes := #[] }, { accessFlags := 2, nameIndex := 25, descriptorIndex := 26, attributes := #[] }, { accessFlags := 26, nameIndex := 1116, descriptorIndex := 1117, attributes := #[] }, { accessFlags := 24, nameIndex := 40, descriptorIndex := 26, attributes := #[] }, { accessFlags := 26, nameIndex := 1101, descriptorIndex := 1102, attributes := #[] }, { accessFlags := 26, nameIndex := 1121, descriptorIndex := 1122, attributes := #[] }, { accessFlags := 25, nameIndex := 599, descriptorIndex := 600, attributes := #[] }, { accessFlags := 24, nameIndex := 1125, descriptorIndex := 18, attributes := #[] }, { accessFlags := 24, nameIndex := 1127, descriptorIndex := 18, attributes := #[] }])
  fields := #[{ name := "value", type := (.array .byte), accessFlags := 18, slot := 0, constantValue := 0 }, { name := "coder", type := .byte, accessFlags := 18, slot := 1, constantValue := 0 }, { name := "hash", type := .int, accessFlags := 2, slot := 2, constantValue := 0 }, { name := "hashIsZero", type := .boolean, accessFlags := 2, slot := 3, constantValue := 0 }, { name := "serialVersionUID", type := .long, accessFlags := 26, slot := 0, constantValue := 0 }, { name := "COMPACT_STRINGS", type := .boolean, accessFlags := 24, slot := 1, constantValue := 0 }, { name := "serialPersistentFields", type := (.array (.object "java/io/ObjectStreamField")), accessFlags := 26, slot := 2, constantValue := 0 }, { name := "REPL", type := .char, accessFlags := 26, slot := 3, constantValue := 0 }, { name := "CASE_INSENSITIVE_ORDER", type := (.object "java/util/Comparator"), accessFlags := 25, slot := 4, constantValue := 0 }, { name := "LATIN1", type := .byte, accessFlags := 24, slot := 5, constantValue := 0 }, { name := "UTF16", type := .byte, accessFlags := 24, slot := 6, constantValue := 0 }]
  methods := #[k7m0, k7m1, k7m2]
  instanceTypes := #[(.array .byte), .byte, .int, .boolean]
  staticTypes := #[.long, .boolean, (.array (.object "java/io/ObjectStreamField")), .char, (.object "java/util/Comparator"), .byte, .byte]
  resolved := Array.replicate 1451 none
  statics := some 0 }

def pool8 : Array CpInfo := pool [(6, .class_ 8), (1, u "java/lang/Object"), (0, u "<init>"), (0, u "()V"), (1, .class_ 14), (1, u "java/lang/StringUTF16"), (31, u "$assertionsDisabled"), (0, u "Z"), (13, u "HI_BYTE_SHIFT"), (0, u "I"), (2, u "LO_BYTE_SHIFT"), (49, .methodref 12 116), (0, .nameAndType 117 118), (0, u "compress"), (0, u "([CI[BII)I"), (3, u "([CII)[B"), (138, u "coderFromArrayLen"), (0, u "([BI)B"), (106, .class_ 371), (1, u "java/lang/StringUTF16$LinesSpliterator"), (58, u "MAX_LENGTH"), (196, .class_ 628), (0, u "java/lang/StringUTF16$CodePointsSpliterator"), (0, .class_ 630), (0, u "java/lang/StringUTF16$CharsSpliterator")] 4

def k8m0 : Method := { name := "<init>", desc := "()V", sig := { parameters := [], returnType := none }, accessFlags := 0, code := none }
def k8c1 : Code := { maxStack := 2, maxLocals := 2, code := jdk_52_method_15_code, exceptionTable := #[], attributes := #[] }
def k8m1 : Method := { name := "coderFromArrayLen", desc := "([BI)B", sig := { parameters := [(.array .byte), .int], returnType := some .byte }, accessFlags := 8, code := some k8c1 }
def k8c2 : Code := { maxStack := 5, maxLocals := 6, code := jdk_52_method_16_code, exceptionTable := #[], attributes := #[] }
def k8m2 : Method := { name := "compress", desc := "([CII)[B", sig := { parameters := [(.array .char), .int, .int], returnType := some (.array .byte) }, accessFlags := 9, code := some k8c2 }
def k8c3 : Code := { maxStack := 3, maxLocals := 7, code := jdk_52_method_21_code, exceptionTable := #[], attributes := #[] }
def k8m3 : Method := { name := "compress", desc := "([CI[BII)I", sig := { parameters := [(.array .char), .int, (.array .byte), .int, .int], returnType := some .int }, accessFlags := 9, code := some k8c3 }
/-- java/lang/StringUTF16 -/
def k8 : Class := { plain "java/lang/StringUTF16" (some 0) with
  accessFlags := 48
  interfaces := #[]
  cf := some (fileOf pool8 12 #[.nestMembers #[627, 629, 369]] #[{ accessFlags := 0, nameIndex := 9, descriptorIndex := 10, attributes := #[] }, { accessFlags := 8, nameIndex := 261, descriptorIndex := 262, attributes := #[] }, { accessFlags := 9, nameIndex := 117, descriptorIndex := 122, attributes := #[] }, { accessFlags := 9, nameIndex := 117, descriptorIndex := 118, attributes := #[] }] 48 6 #[] #[{ accessFlags := 26, nameIndex := 61, descriptorIndex := 62, attributes := #[] }, { accessFlags := 26, nameIndex := 65, descriptorIndex := 62, attributes := #[] }, { accessFlags := 24, nameIndex := 430, descriptorIndex := 62, attributes := #[] }, { accessFlags := 4120, nameIndex := 46, descriptorIndex := 47, attributes := #[] }])
  fields := #[{ name := "HI_BYTE_SHIFT", type := .int, accessFlags := 26, slot := 0, constantValue := 0 }, { name := "LO_BYTE_SHIFT", type := .int, accessFlags := 26, slot := 1, constantValue := 0 }, { name := "MAX_LENGTH", type := .int, accessFlags := 24, slot := 2, constantValue := 0 }, { name := "$assertionsDisabled", type := .boolean, accessFlags := 4120, slot := 3, constantValue := 0 }]
  methods := #[k8m0, k8m1, k8m2, k8m3]
  instanceTypes := #[]
  staticTypes := #[.int, .int, .int, .boolean]
  resolved := Array.replicate 635 none
  statics := none }

def pool9 : Array CpInfo := pool [(1, .class_ 2), (0, u "com/example/vigilant_schema/vigilantschema/Node"), (9, .class_ 13), (0, u "com/example/vigilant_schema/vigilantschema/Node$MapNode"), (7, .class_ 22), (0, u "com/example/vigilant_schema/vigilantschema/Node$ListNode"), (92, .class_ 116), (0, u "com/example/vigilant_schema/vigilantschema/Node$NumberNode"), (9, .class_ 128), (1, u "com/example/vigilant_schema/vigilantschema/Node$Kind"), (20, .class_ 150), (0, u "java/lang/Object"), (0, u "MAX_DEPTH"), (0, u "I"), (2, u "TOO_DEEP"), (0, u "Ljava/lang/String;"), (2, u "MAX_COPIED_VALUES"), (0, u "J"), (25, .class_ 187), (0, u "com/example/vigilant_schema/vigilantschema/Node$NoValueNode"), (0, .class_ 189), (0, u "com/example/vigilant_schema/vigilantschema/Node$NullNode"), (0, .class_ 191), (0, u "com/example/vigilant_schema/vigilantschema/Node$BooleanNode"), (0, .class_ 193), (0, u "com/example/vigilant_schema/vigilantschema/Node$TextNode"), (0, .class_ 195), (0, u "com/example/vigilant_schema/vigilantschema/Node$StringNode")] 30

/-- com/example/vigilant_schema/vigilantschema/Node -/
def k9 : Class := { plain "com/example/vigilant_schema/vigilantschema/Node" (some 0) with
  accessFlags := 1536
  interfaces := #[]
  cf := some (fileOf pool9 1 #[.nestMembers #[186, 188, 190, 115, 192, 194, 21, 12, 126]] #[] 1536 149 #[] #[{ accessFlags := 25, nameIndex := 151, descriptorIndex := 152, attributes := #[] }, { accessFlags := 25, nameIndex := 155, descriptorIndex := 156, attributes := #[] }, { accessFlags := 25, nameIndex := 159, descriptorIndex := 160, attributes := #[] }])
  fields := #[{ name := "MAX_DEPTH", type := .int, accessFlags := 25, slot := 0, constantValue := 0 }, { name := "TOO_DEEP", type := (.object "java/lang/String"), accessFlags := 25, slot := 1, constantValue := 0 }, { name := "MAX_COPIED_VALUES", type := .long, accessFlags := 25, slot := 2, constantValue := 0 }]
  methods := #[]
  instanceTypes := #[]
  staticTypes := #[.int, (.object "java/lang/String"), .long]
  resolved := Array.replicate 226 none
  statics := none }

def pool10 : Array CpInfo := pool [(8, .class_ 10), (1, u "com/example/vigilant_schema/vigilantschema/Node$BooleanNode"), (0, u "<init>"), (0, u "(ZLjava/lang/String;)V"), (0, .methodref 14 15), (0, .class_ 16), (0, .nameAndType 11 17), (0, u "java/lang/Object"), (0, u "()V"), (0, .fieldref 8 19), (0, .nameAndType 20 21), (0, u "value"), (0, u "Z"), (0, .fieldref 8 23), (0, .nameAndType 24 25), (0, u "written"), (0, u "Ljava/lang/String;"), (2, u "TRUE"), (0, u "Lcom/example/vigilant_schema/vigilantschema/Node$BooleanNode;"), (2, u "FALSE"), (21, .class_ 55), (0, u "com/example/vigilant_schema/vigilantschema/Node"), (11, u "equals"), (0, u "(Ljava/lang/Object;)Z")] 23

def k10c0 : Code := { maxStack := 2, maxLocals := 3, code := prog_52_method_2_code, exceptionTable := #[], attributes := #[] }
def k10m0 : Method := { name := "<init>", desc := "(ZLjava/lang/String;)V", sig := { parameters := [.boolean, (.object "java/lang/String")], returnType := none }, accessFlags := 0, code := some k10c0 }
def k10c1 : Code := { maxStack := 2, maxLocals := 3, code := prog_52_method_8_code, exceptionTable := #[], attributes := #[] }
def k10m1 : Method := { name := "equals", desc := "(Ljava/lang/Object;)Z", sig := { parameters := [(.object "java/lang/Object")], returnType := some .boolean }, accessFlags := 1, code := some k10c1 }
/-- com/example/vigilant_schema/vigilantschema/Node$BooleanNode -/
def k10 : Class := { plain "com/example/vigilant_schema/vigilantschema/Node$BooleanNode" (some 0) with
  accessFlags := 49
  interfaces := #[9]
  cf := some (fileOf pool10 8 #[.nestHost 54] #[{ accessFlags := 0, nameIndex := 11, descriptorIndex := 12, attributes := #[] }, { accessFlags := 1, nameIndex := 67, descriptorIndex := 68, attributes := #[] }] 49 14 #[54] #[{ accessFlags := 24, nameIndex := 28, descriptorIndex := 29, attributes := #[] }, { accessFlags := 24, nameIndex := 32, descriptorIndex := 29, attributes := #[] }, { accessFlags := 18, nameIndex := 20, descriptorIndex := 21, attributes := #[] }, { accessFlags := 18, nameIndex := 24, descriptorIndex := 25, attributes := #[] }])
  fields := #[{ name := "TRUE", type := (.object "com/example/vigilant_schema/vigilantschema/Node$BooleanNode"), accessFlags := 24, slot := 0, constantValue := 0 }, { name := "FALSE", type := (.object "com/example/vigilant_schema/vigilantschema/Node$BooleanNode"), accessFlags := 24, slot := 1, constantValue := 0 }, { name := "value", type := .boolean, accessFlags := 18, slot := 0, constantValue := 0 }, { name := "written", type := (.object "java/lang/String"), accessFlags := 18, slot := 1, constantValue := 0 }]
  methods := #[k10m0, k10m1]
  instanceTypes := #[.boolean, (.object "java/lang/String")]
  staticTypes := #[(.object "com/example/vigilant_schema/vigilantschema/Node$BooleanNode"), (.object "com/example/vigilant_schema/vigilantschema/Node$BooleanNode")]
  resolved := Array.replicate 92 none
  statics := none }

def pool11 : Array CpInfo := pool [(4, .class_ 6), (1, u "com/example/vigilant_schema/vigilantschema/Node$NullNode"), (0, u "<init>"), (0, u "(Ljava/lang/String;)V"), (0, .methodref 10 11), (0, .class_ 12), (0, .nameAndType 7 13), (0, u "java/lang/Object"), (0, u "()V"), (0, .fieldref 4 15), (0, .nameAndType 16 17), (0, u "written"), (0, u "Ljava/lang/String;"), (10, .class_ 29), (0, u "com/example/vigilant_schema/vigilantschema/Node")] 32

def k11m0 : Method := { name := "<init>", desc := "()V", sig := { parameters := [], returnType := none }, accessFlags := 0, code := none }
def k11c1 : Code := { maxStack := 2, maxLocals := 2, code := prog_57_method_2_code, exceptionTable := #[], attributes := #[] }
def k11m1 : Method := { name := "<init>", desc := "(Ljava/lang/String;)V", sig := { parameters := [(.object "java/lang/String")], returnType := none }, accessFlags := 0, code := some k11c1 }
/-- com/example/vigilant_schema/vigilantschema/Node$NullNode -/
def k11 : Class := { plain "com/example/vigilant_schema/vigilantschema/Node$NullNode" (some 0) with
  accessFlags := 49
  interfaces := #[9]
  cf := some (fileOf pool11 4 #[.nestHost 28] #[{ accessFlags := 0, nameIndex := 7, descriptorIndex := 13, attributes := #[] }, { accessFlags := 0, nameIndex := 7, descriptorIndex := 8, attributes := #[] }] 49 10 #[28] #[{ accessFlags := 18, nameIndex := 16, descriptorIndex := 17, attributes := #[] }])
  fields := #[{ name := "written", type := (.object "java/lang/String"), accessFlags := 18, slot := 0, constantValue := 0 }]
  methods := #[k11m0, k11m1]
  instanceTypes := #[(.object "java/lang/String")]
  staticTypes := #[]
  resolved := Array.replicate 62 none
  statics := none }

def pool12 : Array CpInfo := pool [(4, .class_ 6), (1, u "java/lang/Object"), (0, u "<init>"), (0, u "()V"), (5, .class_ 16), (1, u "java/lang/StringLatin1"), (104, u "$assertionsDisabled"), (0, u "Z"), (98, .class_ 223), (1, u "java/lang/StringLatin1$LinesSpliterator"), (166, .class_ 391), (0, u "java/lang/StringLatin1$CharsSpliterator")] 3

def k12m0 : Method := { name := "<init>", desc := "()V", sig := { parameters := [], returnType := none }, accessFlags := 0, code := none }
/-- java/lang/StringLatin1 -/
def k12 : Class := { plain "java/lang/StringLatin1" (some 0) with
  accessFlags := 48
  interfaces := #[]
  cf := some (fileOf pool12 14 #[.nestMembers #[390, 221]] #[{ accessFlags := 0, nameIndex := 7, descriptorIndex := 8, attributes := #[] }] 48 4 #[] #[{ accessFlags := 4120, nameIndex := 121, descriptorIndex := 122, attributes := #[] }])
  fields := #[{ name := "$assertionsDisabled", type := .boolean, accessFlags := 4120, slot := 0, constantValue := 0 }]
  methods := #[k12m0]
  instanceTypes := #[]
  staticTypes := #[.boolean]
  resolved := Array.replicate 395 none
  statics := none }

def pool13 : Array CpInfo := pool [(2, .class_ 4), (1, u "java/lang/Object"), (0, u "<init>"), (0, u "()V"), (17, .class_ 26), (1, u "jdk/internal/util/Preconditions"), (28, .class_ 56), (0, u "jdk/internal/util/Preconditions$4"), (57, .class_ 115), (0, u "jdk/internal/util/Preconditions$1"), (7, u "SIOOBE_FORMATTER"), (0, u "Ljava/util/function/BiFunction;"), (0, .class_ 126), (0, u "jdk/internal/util/Preconditions$2"), (3, u "AIOOBE_FORMATTER"), (0, .class_ 132), (0, u "jdk/internal/util/Preconditions$3"), (3, u "IOOBE_FORMATTER")] 57

def k13m0 : Method := { name := "<init>", desc := "()V", sig := { parameters := [], returnType := none }, accessFlags := 1, code := none }
/-- jdk/internal/util/Preconditions -/
def k13 : Class := { plain "jdk/internal/util/Preconditions" (some 0) with
  accessFlags := 33
  interfaces := #[]
  cf := some (fileOf pool13 24 #[.nestMembers #[55, 131, 125, 114]] #[{ accessFlags := 1, nameIndex := 5, descriptorIndex := 6, attributes := #[] }] 33 2 #[] #[{ accessFlags := 25, nameIndex := 123, descriptorIndex := 124, attributes := #[] }, { accessFlags := 25, nameIndex := 130, descriptorIndex := 124, attributes := #[] }, { accessFlags := 25, nameIndex := 136, descriptorIndex := 124, attributes := #[] }])
  fields := #[{ name := "SIOOBE_FORMATTER", type := (.object "java/util/function/BiFunction"), accessFlags := 25, slot := 0, constantValue := 0 }, { name := "AIOOBE_FORMATTER", type := (.object "java/util/function/BiFunction"), accessFlags := 25, slot := 1, constantValue := 0 }, { name := "IOOBE_FORMATTER", type := (.object "java/util/function/BiFunction"), accessFlags := 25, slot := 2, constantValue := 0 }]
  methods := #[k13m0]
  instanceTypes := #[]
  staticTypes := #[(.object "java/util/function/BiFunction"), (.object "java/util/function/BiFunction"), (.object "java/util/function/BiFunction")]
  resolved := Array.replicate 194 none
  statics := some 1 }

def pool14 : Array CpInfo := pool [(9, u "<init>"), (6, .class_ 18), (1, u "java/lang/Object"), (0, u "()V"), (1, .class_ 23), (1, u "jdk/internal/util/ArraysSupport"), (0, u "LOG2_ARRAY_LONG_INDEX_SCALE"), (0, u "I"), (2, u "U"), (0, u "Ljdk/internal/misc/Unsafe;"), (8, u "BIG_ENDIAN"), (0, u "Z"), (8, u "LOG2_BYTE_BIT_SIZE"), (4, u "LOG2_ARRAY_INT_INDEX_SCALE"), (54, u "JLA"), (0, u "Ljdk/internal/access/JavaLangAccess;"), (11, u "LOG2_ARRAY_BOOLEAN_INDEX_SCALE"), (9, u "LOG2_ARRAY_BYTE_INDEX_SCALE"), (5, u "LOG2_ARRAY_CHAR_INDEX_SCALE"), (5, u "LOG2_ARRAY_SHORT_INDEX_SCALE"), (18, u "LOG2_ARRAY_FLOAT_INDEX_SCALE"), (24, u "LOG2_ARRAY_DOUBLE_INDEX_SCALE"), (89, u "T_BOOLEAN"), (2, u "T_CHAR"), (1, u "T_FLOAT"), (1, u "T_DOUBLE"), (1, u "T_BYTE"), (1, u "T_SHORT"), (1, u "T_INT"), (1, u "T_LONG"), (1, u "SOFT_MAX_ARRAY_LENGTH")] 83

def k14m0 : Method := { name := "<init>", desc := "()V", sig := { parameters := [], returnType := none }, accessFlags := 2, code := none }
/-- jdk/internal/util/ArraysSupport -/
def k14 : Class := { plain "jdk/internal/util/ArraysSupport" (some 0) with
  accessFlags := 33
  interfaces := #[]
  cf := some (fileOf pool14 21 #[] #[{ accessFlags := 2, nameIndex := 9, descriptorIndex := 19, attributes := #[] }] 33 16 #[] #[{ accessFlags := 24, nameIndex := 28, descriptorIndex := 29, attributes := #[] }, { accessFlags := 26, nameIndex := 38, descriptorIndex := 39, attributes := #[] }, { accessFlags := 25, nameIndex := 121, descriptorIndex := 25, attributes := #[] }, { accessFlags := 25, nameIndex := 131, descriptorIndex := 25, attributes := #[] }, { accessFlags := 25, nameIndex := 137, descriptorIndex := 25, attributes := #[] }, { accessFlags := 25, nameIndex := 143, descriptorIndex := 25, attributes := #[] }, { accessFlags := 25, nameIndex := 53, descriptorIndex := 25, attributes := #[] }, { accessFlags := 25, nameIndex := 24, descriptorIndex := 25, attributes := #[] }, { accessFlags := 25, nameIndex := 162, descriptorIndex := 25, attributes := #[] }, { accessFlags := 25, nameIndex := 187, descriptorIndex := 25, attributes := #[] }, { accessFlags := 26, nameIndex := 48, descriptorIndex := 25, attributes := #[] }, { accessFlags := 25, nameIndex := 277, descriptorIndex := 25, attributes := #[] }, { accessFlags := 25, nameIndex := 280, descriptorIndex := 25, attributes := #[] }, { accessFlags := 25, nameIndex := 282, descriptorIndex := 25, attributes := #[] }, { accessFlags := 25, nameIndex := 284, descriptorIndex := 25, attributes := #[] }, { accessFlags := 25, nameIndex := 286, descriptorIndex := 25, attributes := #[] }, { accessFlags := 25, nameIndex := 288, descriptorIndex := 25, attributes := #[] }, { accessFlags := 25, nameIndex := 290, descriptorIndex := 25, attributes := #[] }, { accessFlags := 25, nameIndex := 292, descriptorIndex := 25, attributes := #[] }, { accessFlags := 26, nameIndex := 108, descriptorIndex := 109, attributes := #[] }, { accessFlags := 25, nameIndex := 294, descriptorIndex := 25, attributes := #[] }])
  fields := #[{ name := "U", type := (.object "jdk/internal/misc/Unsafe"), accessFlags := 24, slot := 0, constantValue := 0 }, { name := "BIG_ENDIAN", type := .boolean, accessFlags := 26, slot := 1, constantValue := 0 }, { name := "LOG2_ARRAY_BOOLEAN_INDEX_SCALE", type := .int, accessFlags := 25, slot := 2, constantValue := 0 }, { name := "LOG2_ARRAY_BYTE_INDEX_SCALE", type := .int, accessFlags := 25, slot := 3, constantValue := 0 }, { name := "LOG2_ARRAY_CHAR_INDEX_SCALE", type := .int, accessFlags := 25, slot := 4, constantValue := 0 }, { name := "LOG2_ARRAY_SHORT_INDEX_SCALE", type := .int, accessFlags := 25, slot := 5, constantValue := 0 }, { name := "LOG2_ARRAY_INT_INDEX_SCALE", type := .int, accessFlags := 25, slot := 6, constantValue := 0 }, { name := "LOG2_ARRAY_LONG_INDEX_SCALE", type := .int, accessFlags := 25, slot := 7, constantValue := 0 }, { name := "LOG2_ARRAY_FLOAT_INDEX_SCALE", type := .int, accessFlags := 25, slot := 8, constantValue := 0 }, { name := "LOG2_ARRAY_DOUBLE_INDEX_SCALE", type := .int, accessFlags := 25, slot := 9, constantValue := 0 }, { name := "LOG2_BYTE_BIT_SIZE", type := .int, accessFlags := 26, slot := 10, constantValue := 0 }, { name := "T_BOOLEAN", type := .int, accessFlags := 25, slot := 11, constantValue := 0 }, { name := "T_CHAR", type := .int, accessFlags := 25, slot := 12, constantValue := 0 }, { name := "T_FLOAT", type := .int, accessFlags := 25, slot := 13, constantValue := 0 }, { name := "T_DOUBLE", type := .int, accessFlags := 25, slot := 14, constantValue := 0 }, { name := "T_BYTE", type := .int, accessFlags := 25, slot := 15, constantValue := 0 }, { name := "T_SHORT", type := .int, accessFlags := 25, slot := 16, constantValue := 0 }, { name := "T_INT", type := .int, accessFlags := 25, slot := 17, constantValue := 0 }, { name := "T_LONG", type := .int, accessFlags := 25, slot := 18, constantValue := 0 }, { name := "JLA", type := (.object "jdk/internal/access/JavaLangAccess"), accessFlags := 26, slot := 19, constantValue := 0 }, { name := "SOFT_MAX_ARRAY_LENGTH", type := .int, accessFlags := 25, slot := 20, constantValue := 0 }]
  methods := #[k14m0]
  instanceTypes := #[]
  staticTypes := #[(.object "jdk/internal/misc/Unsafe"), .boolean, .int, .int, .int, .int, .int, .int, .int, .int, .int, .int, .int, .int, .int, .int, .int, .int, .int, (.object "jdk/internal/access/JavaLangAccess"), .int]
  resolved := Array.replicate 378 none
  statics := none }

def pool15 : Array CpInfo := pool [(1, u "java/lang/Cloneable"), (0, .class_ 1), (0, u "java/lang/Object"), (0, .class_ 3)] 3

/-- java/lang/Cloneable -/
def k15 : Class := { plain "java/lang/Cloneable" (some 0) with
  accessFlags := 1537
  interfaces := #[]
  cf := some (fileOf pool15 2 #[] #[] 1537 4 #[] #[])
  fields := #[]
  methods := #[]
  instanceTypes := #[]
  staticTypes := #[]
  resolved := Array.replicate 8 none
  statics := none }

/-- the primitive byte -/
def k16 : Class := { plain "byte" none with kind := .primitive 'B', accessFlags := 0x411 }
/-- [B -/
def k17 : Class := { plain "[B" (some 0) with kind := .array 16 .byte, interfaces := #[15, 2], accessFlags := 1041 }

/-- the primitive char -/
def k18 : Class := { plain "char" none with kind := .primitive 'C', accessFlags := 0x411 }
/-- [C -/
def k19 : Class := { plain "[C" (some 0) with kind := .array 18 .char, interfaces := #[15, 2], accessFlags := 1041 }

/-- the primitive int -/
def k20 : Class := { plain "int" none with kind := .primitive 'I', accessFlags := 0x411 }
/-- [I -/
def k21 : Class := { plain "[I" (some 0) with kind := .array 20 .int, interfaces := #[15, 2], accessFlags := 1041 }

def heap : Heap := #[{ cls := 7, slots := #[.long 0, .int 1, .null, .int 0, .null, .int 0, .int 0], vm := .statics 7 },
  { cls := 13, slots := #[.null, .null, .null], vm := .statics 13 }]
def classes : Array Class := #[k0, k1, k2, k3, k4, k5, k6, k7, k8, k9, k10, k11, k12, k13, k14, k15, k16, k17, k18, k19, k20, k21]
def interned : List (Array UInt16 × Addr) := []
def slotsUsed : Nat := 10
def theMethod : MethodId := ⟨1, 1⟩
def args0 : Array Value := #[.int 5, .int 6, .int 7]
def aboutOver (below : List Frame) : State where
  vm := { classes := classes, interned := interned.toArray }
  heap := heap
  slotsUsed := slotsUsed
  threads := #[{ frames := .invoking theMethod args0 :: below }]
def below0 : List Frame := [.native { method := ⟨0, 0⟩, args := #[] }]
def about1 : State := aboutOver below0
def p0 : Program := .bare "" "" ""
def e0 : Env := launch0.env 0 0 0
theorem w_frames : about1.frames = Frame.invoking theMethod args0 :: below0 := rfl
set_option maxRecDepth 65536 in
theorem w_args : argsFit about1.vm theMethod args0 = true := by decide +kernel
set_option maxRecDepth 65536 in
theorem w_heap : heapFits about1 = true := by decide +kernel
set_option maxRecDepth 65536 in
theorem w_runnable : about1.curStatus? = some .runnable := by decide +kernel
set_option maxRecDepth 65536 in
theorem w_alone : about1.alone = true := by decide +kernel
set_option maxRecDepth 65536 in
theorem w_named : about1.methodNamed? x = some theMethod := by decide +kernel
set_option maxRecDepth 65536 in
theorem w_hears : about1.hears theMethod below0 = true := by decide +kernel
set_option maxRecDepth 65536 in
theorem w_ripe : about1.ripe theMethod args0 below0 = true := by decide +kernel
theorem w_running : about1.status = .running := rfl
set_option maxRecDepth 65536 in
theorem w_room : about1.hasRoom e0.platform room_1 = true :=
  launch0.hasRoom_least _ room_1 (by decide +kernel) (by decide +kernel) (by decide +kernel) (by decide +kernel) (by decide +kernel) (by decide +kernel)
theorem allAtoms_all (ts : List Jvm.Cond) (a : Array Jvm.Value) (st : Jvm.State) : (allAtoms ts).before a st = ts.all (fun c => c.before a st) := by
  induction ts with
  | nil => rfl
  | cons c t ih =>
    show (Jvm.Cond.and c (allAtoms t)).before a st = _
    rw [Jvm.Cond.before_and, ih, List.all_cons]
def words1 : List Jvm.Cond := Jvm.Cond.code x code maxLocals ret :: tables_1
/-- a 'code' word, met by the world's own term for the bytes: nothing is compared byte by byte -/
theorem code_word {y : MethodName} {bytes : ByteArray} {mx : Nat} {rt : Option FieldType} {a : Array Value} {s : State} {m : MethodId} {meth : Method} {c : Code} (h1 : s.methodNamed? y = some m) (h2 : s.vm.method? m = some meth) (h3 : meth.code = some c) (h4 : c.code = bytes)
    (h5 : (c.maxLocals == mx && c.exceptionTable.isEmpty && decide (c.maxStack ≤ mostOperands) && decide (meth.sig.returnType = rt) && !meth.locks && decide (parseMethodDescriptor y.desc = some meth.sig)) = true) : (Jvm.Cond.code y bytes mx rt).before a s = true := by
  simp only [Bool.and_eq_true, beq_iff_eq, Bool.not_eq_true', decide_eq_true_eq] at h5
  obtain ⟨⟨⟨⟨⟨g1, g2⟩, g3⟩, g4⟩, g5⟩, g6⟩ := h5
  simp [Cond.before, Cond.holds, Cond.value, h1, h2, h3, h4, g1, g2, g3, g4, g5, g6]
def isCode : Jvm.Cond → Bool
  | .code _ _ _ _ => true
  | _ => false
theorem all_split {L : List Jvm.Cond} {P : Jvm.Cond → Bool} (h1 : L.all (fun c => isCode c || P c) = true) (h2 : ∀ c ∈ L.filter isCode, P c = true) : L.all P = true := by
  refine List.all_eq_true.mpr fun c hc => ?_
  have h := List.all_eq_true.mp h1 c hc
  rcases Bool.eq_false_or_eq_true (isCode c) with hi | hi
  · exact h2 c (List.mem_filter.mpr ⟨hc, hi⟩)
  · simpa [hi] using h
set_option maxRecDepth 65536 in
theorem w_c0 : (Jvm.Cond.code x code maxLocals ret).before args0 about1 = true := code_word (m := ⟨1, 1⟩) (meth := k1m1) (c := k1c1) (by decide +kernel) rfl rfl rfl (by decide +kernel)
set_option maxRecDepth 65536 in
theorem w_c1 : (Jvm.Cond.code ({ cls := "java/lang/String", name := "<init>", desc := "([C)V" } : Jvm.MethodName) jdk_42_method_3_code (2 : Nat) (Option.none : Option Jvm.ClassFile.FieldType)).before args0 about1 = true := code_word (m := ⟨7, 1⟩) (meth := k7m1) (c := k7c1) (by decide +kernel) rfl rfl rfl (by decide +kernel)
set_option maxRecDepth 65536 in
theorem w_c2 : (Jvm.Cond.code ({ cls := "java/lang/String", name := "<init>", desc := "([CIILjava/lang/Void;)V" } : Jvm.MethodName) jdk_42_method_149_code (6 : Nat) (Option.none : Option Jvm.ClassFile.FieldType)).before args0 about1 = true := code_word (m := ⟨7, 2⟩) (meth := k7m2) (c := k7c2) (by decide +kernel) rfl rfl rfl (by decide +kernel)
set_option maxRecDepth 65536 in
theorem w_c3 : (Jvm.Cond.code ({ cls := "java/lang/Object", name := "<init>", desc := "()V" } : Jvm.MethodName) object_method_1_code (1 : Nat) (Option.none : Option Jvm.ClassFile.FieldType)).before args0 about1 = true := code_word (m := ⟨0, 0⟩) (meth := k0m0) (c := k0c0) (by decide +kernel) rfl rfl rfl (by decide +kernel)
set_option maxRecDepth 65536 in
theorem w_c4 : (Jvm.Cond.code ({ cls := "java/lang/StringUTF16", name := "compress", desc := "([CII)[B" } : Jvm.MethodName) jdk_52_method_16_code (6 : Nat) (Option.some (Jvm.ClassFile.FieldType.array Jvm.ClassFile.FieldType.byte))).before args0 about1 = true := code_word (m := ⟨8, 2⟩) (meth := k8m2) (c := k8c2) (by decide +kernel) rfl rfl rfl (by decide +kernel)
set_option maxRecDepth 65536 in
theorem w_c5 : (Jvm.Cond.code ({ cls := "java/lang/StringUTF16", name := "compress", desc := "([CI[BII)I" } : Jvm.MethodName) jdk_52_method_21_code (7 : Nat) (Option.some Jvm.ClassFile.FieldType.int)).before args0 about1 = true := code_word (m := ⟨8, 3⟩) (meth := k8m3) (c := k8c3) (by decide +kernel) rfl rfl rfl (by decide +kernel)
set_option maxRecDepth 65536 in
theorem w_c6 : (Jvm.Cond.code ({ cls := "java/lang/StringUTF16", name := "coderFromArrayLen", desc := "([BI)B" } : Jvm.MethodName) jdk_52_method_15_code (2 : Nat) (Option.some Jvm.ClassFile.FieldType.byte)).before args0 about1 = true := code_word (m := ⟨8, 1⟩) (meth := k8m1) (c := k8c1) (by decide +kernel) rfl rfl rfl (by decide +kernel)
set_option maxRecDepth 65536 in
theorem w_c7 : (Jvm.Cond.code ({ cls := "com/example/vigilant_schema/vigilantschema/Node$BooleanNode", name := "<init>", desc := "(ZLjava/lang/String;)V" } : Jvm.MethodName) prog_52_method_2_code (3 : Nat) (Option.none : Option Jvm.ClassFile.FieldType)).before args0 about1 = true := code_word (m := ⟨10, 0⟩) (meth := k10m0) (c := k10c0) (by decide +kernel) rfl rfl rfl (by decide +kernel)
set_option maxRecDepth 65536 in
theorem w_c8 : (Jvm.Cond.code ({ cls := "com/example/vigilant_schema/vigilantschema/Node$BooleanNode", name := "equals", desc := "(Ljava/lang/Object;)Z" } : Jvm.MethodName) prog_52_method_8_code (3 : Nat) (Option.some Jvm.ClassFile.FieldType.boolean)).before args0 about1 = true := code_word (m := ⟨10, 1⟩) (meth := k10m1) (c := k10c1) (by decide +kernel) rfl rfl rfl (by decide +kernel)
set_option maxRecDepth 65536 in
theorem w_c9 : (Jvm.Cond.code ({ cls := "com/example/vigilant_schema/vigilantschema/Node$NullNode", name := "<init>", desc := "(Ljava/lang/String;)V" } : Jvm.MethodName) prog_57_method_2_code (2 : Nat) (Option.none : Option Jvm.ClassFile.FieldType)).before args0 about1 = true := code_word (m := ⟨11, 1⟩) (meth := k11m1) (c := k11c1) (by decide +kernel) rfl rfl rfl (by decide +kernel)
def codes1 : List Jvm.Cond := [Jvm.Cond.code x code maxLocals ret, Jvm.Cond.code ({ cls := "java/lang/String", name := "<init>", desc := "([C)V" } : Jvm.MethodName) jdk_42_method_3_code (2 : Nat) (Option.none : Option Jvm.ClassFile.FieldType), Jvm.Cond.code ({ cls := "java/lang/String", name := "<init>", desc := "([CIILjava/lang/Void;)V" } : Jvm.MethodName) jdk_42_method_149_code (6 : Nat) (Option.none : Option Jvm.ClassFile.FieldType), Jvm.Cond.code ({ cls := "java/lang/Object", name := "<init>", desc := "()V" } : Jvm.MethodName) object_method_1_code (1 : Nat) (Option.none : Option Jvm.ClassFile.FieldType), Jvm.Cond.code ({ cls := "java/lang/StringUTF16", name := "compress", desc := "([CII)[B" } : Jvm.MethodName) jdk_52_method_16_code (6 : Nat) (Option.some (Jvm.ClassFile.FieldType.array Jvm.ClassFile.FieldType.byte)), Jvm.Cond.code ({ cls := "java/lang/StringUTF16", name := "compress", desc := "([CI[BII)I" } : Jvm.MethodName) jdk_52_method_21_code (7 : Nat) (Option.some Jvm.ClassFile.FieldType.int), Jvm.Cond.code ({ cls := "java/lang/StringUTF16", name := "coderFromArrayLen", desc := "([BI)B" } : Jvm.MethodName) jdk_52_method_15_code (2 : Nat) (Option.some Jvm.ClassFile.FieldType.byte), Jvm.Cond.code ({ cls := "com/example/vigilant_schema/vigilantschema/Node$BooleanNode", name := "<init>", desc := "(ZLjava/lang/String;)V" } : Jvm.MethodName) prog_52_method_2_code (3 : Nat) (Option.none : Option Jvm.ClassFile.FieldType), Jvm.Cond.code ({ cls := "com/example/vigilant_schema/vigilantschema/Node$BooleanNode", name := "equals", desc := "(Ljava/lang/Object;)Z" } : Jvm.MethodName) prog_52_method_8_code (3 : Nat) (Option.some Jvm.ClassFile.FieldType.boolean), Jvm.Cond.code ({ cls := "com/example/vigilant_schema/vigilantschema/Node$NullNode", name := "<init>", desc := "(Ljava/lang/String;)V" } : Jvm.MethodName) prog_57_method_2_code (2 : Nat) (Option.none : Option Jvm.ClassFile.FieldType)]
set_option maxRecDepth 65536 in
theorem codes_eq : words1.filter isCode = codes1 := rfl
theorem w_codes : ∀ c ∈ words1.filter isCode, c.before args0 about1 = true := by
  rw [codes_eq]
  intro c hc
  simp only [codes1, List.mem_cons, List.not_mem_nil, or_false] at hc
  rcases hc with rfl | rfl | rfl | rfl | rfl | rfl | rfl | rfl | rfl | rfl
  · exact w_c0
  · exact w_c1
  · exact w_c2
  · exact w_c3
  · exact w_c4
  · exact w_c5
  · exact w_c6
  · exact w_c7
  · exact w_c8
  · exact w_c9
set_option maxRecDepth 65536 in
theorem w_t1 : (words1.take 24).all (fun c => isCode c || c.before args0 about1) = true := by decide +kernel
set_option maxRecDepth 65536 in
theorem w_t2 : ((words1.drop 24).take 24).all (fun c => isCode c || c.before args0 about1) = true := by decide +kernel
set_option maxRecDepth 65536 in
theorem w_t3 : ((words1.drop 24).drop 24).all (fun c => isCode c || c.before args0 about1) = true := by decide +kernel
theorem w_tables : (allAtoms (Jvm.Cond.code x code maxLocals ret :: tables_1)).before args0 about1 = true := by
  rw [allAtoms_all]
  show words1.all (fun c => c.before args0 about1) = true
  refine all_split ?_ w_codes
  rw [← List.take_append_drop 24 words1, List.all_append, w_t1, ← List.take_append_drop 24 (words1.drop 24), List.all_append, w_t2, w_t3]
  rfl
set_option maxRecDepth 65536 in
theorem w_rest : rest_1_c.before args0 about1 = true := by decide +kernel
set_option maxRecDepth 65536 in
theorem w_case : (Jvm.Cond.and given_1 narrow_1).before args0 about1 = true := by decide +kernel
theorem w_applies : (headSpec (Jvm.Cond.code x code maxLocals ret :: tables_1) room_1).applies x e0.platform about1 = true :=
  (Spec.applies_iff w_frames).mpr ⟨w_running, w_runnable, w_alone, w_named, w_hears, w_ripe, w_room, w_tables⟩
theorem atStart : AtStart classFile x code maxLocals ret World_1 tables_1 room_1 Calls_1 rest_1 Pre_1 launch0 p0 e0 about1 theMethod args0 below0 :=
  ⟨lists_1, trivial, launch0.admits_env _ _ _, launch0.least_env, fairChoices_fair.cas, fairChoices_fair.clock, w_frames, w_args, w_heap, w_applies, trivial, w_rest, w_case⟩
end start1
theorem witness_1 : WitnessClaimed_1 := ⟨start1.p0, start1.e0, start1.about1, start1.theMethod, start1.args0, start1.below0, start1.atStart⟩
end Jvm.Pilot.@@N@@
