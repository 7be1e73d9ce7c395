import JvmDerived
import JvmDerived.Pilot.@@N@@Statement
import JvmDerived.Pilot.@@N@@Code
set_option linter.unusedVariables false
set_option linter.unusedSimpArgs false
/- laws to paste: Road.backV (cut by pick.py; bodies as the Statement names them) -/
namespace Jvm.Pilot.@@N@@
namespace StrChars
open Jvm Sem ClassFile Op Lib Jvm.Stand Jvm.Free.XT Jvm.Free.ALB Jvm.Free.JM Jvm.Free
open Jvm.Lib.Cold (StaticIs)
/-- a char array whose places are chars -/
def Ch (a : Addr) (A : Cell) (U : State) : Prop := Arr .char a A U ∧ Typed .char A
theorem Ch.mv {a : Addr} {A : Cell} {U U' : State} (h : Ch a A U) (hal : U.vm.Alike U'.vm) (hh : U'.heap = U.heap) : Ch a A U' := ⟨h.1.mv hal hh, h.2⟩
theorem Ch.keep {a : Addr} {A : Cell} {U U' : State} (h : Ch a A U) (hal : U.vm.Alike U'.vm) (hk : U'.heap[a]? = some A) : Ch a A U' := ⟨h.1.keep hal hk, h.2⟩
/-- what place i of a char[]'s cell holds -/
def cv (A : Cell) (i : Nat) : Int32 := match A.slots[i]? with | some (.int x) => x | _ => 0
theorem Ch.get {a : Addr} {A : Cell} {U : State} (h : Ch a A U) {i : Nat} (hi : i < A.slots.size) : A.slots[i]? = some (.int (cv A i)) := by
  have e := Array.getElem?_eq_getElem hi
  have f := h.2 i _ e
  unfold cv; rw [e]
  generalize A.slots[i] = v at f
  cases v <;> simp [fits] at f ⊢
/-- the byte that i2b leaves of a char -/
def lo8 (x : Int32) : Int32 := x.toInt8.toInt32
theorem fits_lo8 (y : Int32) : fits .byte (.int (lo8 y)) = true := by
  have h1 := y.toInt8.le_toInt
  have h2 := y.toInt8.toInt_lt
  simp only [lo8, fits, Bool.and_eq_true, decide_eq_true_eq, Int32.le_iff_toInt_le, Int8.toInt_toInt32, show (-128 : Int32).toInt = -128 from by decide, show (127 : Int32).toInt = 127 from by decide]
  omega
/-- A' is A but that each place j of lo .. hi - 1 holds f j -/
def Laid (A A' : Cell) (lo hi : Nat) (f : Nat → Value) : Prop := A'.cls = A.cls ∧ A'.vm = A.vm ∧ A'.slots.size = A.slots.size ∧ ∀ i, A'.slots[i]? = if lo ≤ i ∧ i < hi then some (f i) else A.slots[i]?
theorem Laid.zero (A : Cell) (lo : Nat) (f : Nat → Value) : Laid A A lo (lo + 0) f := ⟨rfl, rfl, rfl, fun i => by rw [if_neg (by omega)]⟩
theorem Laid.step {A Ak : Cell} {lo k : Nat} {f : Nat → Value} {v : Value} (h : Laid A Ak lo k f) (hlo : lo ≤ k) (hk : k < Ak.slots.size) (hv : v = f k) : Laid A (Ak.setSlot k v) lo (k + 1) f := by
  refine ⟨h.1, h.2.1, by simpa [Cell.setSlot] using h.2.2.1, fun i => ?_⟩
  by_cases e : k = i
  · subst e; rw [Cell.slots_setSlot_self v hk, if_pos (by omega), hv]
  · rw [Cell.slots_setSlot_ne v e, h.2.2.2 i]
    by_cases q : lo ≤ i ∧ i < k
    · rw [if_pos q, if_pos (by omega)]
    · rw [if_neg q, if_neg (by omega)]
def U16 : String := "java/lang/StringUTF16"
namespace Cmp5
def yN : MethodName := ⟨"java/lang/StringUTF16", "compress", "([CI[BII)I"⟩
abbrev yB : ByteArray := jdk_52_method_21_code
theorem d0 : decode yB 0 = .ok (.iconst 0, 1) := by decide +kernel
theorem d1 : decode yB 1 = .ok (.istore 5, 2) := by decide +kernel
theorem d3 : decode yB 3 = .ok (.iload 5, 2) := by decide +kernel
theorem d5 : decode yB 5 = .ok (.iload 4, 2) := by decide +kernel
theorem d7 : decode yB 7 = .ok (.if_icmp (.ge) 37, 3) := by decide +kernel
theorem d10 : decode yB 10 = .ok (.aload_n 0, 1) := by decide +kernel
theorem d11 : decode yB 11 = .ok (.iload_n 1, 1) := by decide +kernel
theorem d12 : decode yB 12 = .ok (.caload, 1) := by decide +kernel
theorem d13 : decode yB 13 = .ok (.istore 6, 2) := by decide +kernel
theorem d15 : decode yB 15 = .ok (.iload 6, 2) := by decide +kernel
theorem d17 : decode yB 17 = .ok (.sipush 255, 3) := by decide +kernel
theorem d20 : decode yB 20 = .ok (.if_icmp (.le) 6, 3) := by decide +kernel
theorem d26 : decode yB 26 = .ok (.aload_n 2, 1) := by decide +kernel
theorem d27 : decode yB 27 = .ok (.iload_n 3, 1) := by decide +kernel
theorem d28 : decode yB 28 = .ok (.iload 6, 2) := by decide +kernel
theorem d30 : decode yB 30 = .ok (.i2b, 1) := by decide +kernel
theorem d31 : decode yB 31 = .ok (.bastore, 1) := by decide +kernel
theorem d32 : decode yB 32 = .ok (.iinc 1 1, 3) := by decide +kernel
theorem d35 : decode yB 35 = .ok (.iinc 3 1, 3) := by decide +kernel
theorem d38 : decode yB 38 = .ok (.iinc 5 1, 3) := by decide +kernel
theorem d41 : decode yB 41 = .ok (.goto (-38), 3) := by decide +kernel
theorem d44 : decode yB 44 = .ok (.iload 4, 2) := by decide +kernel
theorem d46 : decode yB 46 = .ok (.ireturn, 1) := by decide +kernel
def site : List Cond := []
def tab : Cond := tabOf yN yB 7 (some .int) site
def P (b : Addr) (A : Cell) (d : Addr) (B : Cell) (o q len : Nat) (args : Array Value) (s : State) : Prop := args = #[.ref b, .int (Int32.ofNat o), .ref d, .int (Int32.ofNat q), .int (Int32.ofNat len)] ∧ Ch b A s ∧ Arr .byte d B s ∧ b ≠ d ∧ o + len ≤ A.slots.size ∧ q + len ≤ B.slots.size ∧ ∀ i, i < len → ¬ 255 < cv A (o + i)
def E (b : Addr) (A : Cell) (d : Addr) (B : Cell) (o q len : Nat) (r : Option Value) (s u : State) : Prop := r = some (.int (Int32.ofNat len)) ∧ ∃ B', Put d B' s u ∧ Laid B B' q (q + len) (fun j => Value.int (lo8 (cv A (o + (j - q)))))
/-- no char of the range above 255: len; the places written hold each char's low byte -/
theorem law (l : Launch) (b : Addr) (A : Cell) (d : Addr) (B : Cell) (o q len : Nat) : Law l yN 5 5 0 0 yB 7 (some .int) site (P b A d B o q len) (E b A d B o q len) (copyLocs d q len) 0 0 := by
  refine Law.of_walk (plainFor_of_name (by decide +kernel)) (by decide +kernel) (by decide +kernel) (by decide) (fun _ _ h => by rw [h.1]; rfl) (fun _ U U' hal hh h => ⟨h.1, h.2.1.mv hal hh, h.2.2.1.mv hal hh, h.2.2.2⟩) (fun r U U' V V' h1 hal h2 h => ⟨h.1, h.2.elim fun B' q => ⟨B', q.1.mv h1 h2, q.2⟩⟩) ?_
  intro p e s m args below meth c s₁ X0 hexec hbytes hml hret hlk hnm hown hh0 W hP
  obtain ⟨rfl, hA, hB, hne, l1, l2, hp⟩ := hP
  have c1 : Steps p.tables e below (s₁.setTop (entryFrame m #[.ref b, .int (Int32.ofNat o), .ref d, .int (Int32.ofNat q), .int (Int32.ofNat len)] 7)) (s₁.setTop (mkF m 0 #[.val (.ref b), .val (.int (Int32.ofNat o)), .val (.ref d), .val (.int (Int32.ofNat q)), .val (.int (Int32.ofNat len)), .unset, .unset] [])) := entry rfl
  have hA0 := hA.1.mv X0.warmed.alike hh0
  have hB0 := hB.mv X0.warmed.alike hh0
  have a31 := hA.1.2.2.2
  have c2 : Steps p.tables e below (s₁.setTop (entryFrame m #[.ref b, .int (Int32.ofNat o), .ref d, .int (Int32.ofNat q), .int (Int32.ofNat len)] 7)) (s₁.setTop (mkF m 3 #[.val (.ref b), .val (.int (Int32.ofNat o)), .val (.ref d), .val (.int (Int32.ofNat q)), .val (.int (Int32.ofNat len)), .val (.int 0), .unset] [])) := c1.trans (by
    refine iconstV X0.here hexec rfl 0 (hb hbytes d0) (by decide) ?_
    refine XS.istore X0.here hexec rfl (hb hbytes d1) rfl rfl ?_
    exact Steps.refl _)
  have loop : ∀ (r i : Nat), i + r = len → ∀ (z : Slot), (z = .unset ∨ ∃ w, z = .val w ∧ w.category = 1) → ∀ (Tl : State) (Bk : Cell), Stand p l e { frames := 0, locals := 0, cells := 0, slots := 0 } s m #[.ref b, .int (Int32.ofNat o), .ref d, .int (Int32.ofNat q), .int (Int32.ofNat len)] below meth c Tl ([] ++ copyLocs d q i) 0 0 → Put d Bk s₁ Tl → Laid B Bk q (q + i) (fun j => Value.int (lo8 (cv A (o + (j - q))))) →
      Steps p.tables e below (s₁.setTop (entryFrame m #[.ref b, .int (Int32.ofNat o), .ref d, .int (Int32.ofNat q), .int (Int32.ofNat len)] 7)) (Tl.setTop (mkF m 3 #[.val (.ref b), .val (.int (Int32.ofNat (o + i))), .val (.ref d), .val (.int (Int32.ofNat (q + i))), .val (.int (Int32.ofNat len)), .val (.int (Int32.ofNat i)), z] [])) → ∃ (T' : State) (B' : Cell) (z' : Slot), Stand p l e { frames := 0, locals := 0, cells := 0, slots := 0 } s m #[.ref b, .int (Int32.ofNat o), .ref d, .int (Int32.ofNat q), .int (Int32.ofNat len)] below meth c T' ([] ++ copyLocs d q len) 0 0 ∧ Put d B' s₁ T' ∧ Laid B B' q (q + len) (fun j => Value.int (lo8 (cv A (o + (j - q))))) ∧
      Steps p.tables e below (s₁.setTop (entryFrame m #[.ref b, .int (Int32.ofNat o), .ref d, .int (Int32.ofNat q), .int (Int32.ofNat len)] 7)) (T'.setTop (mkF m 3 #[.val (.ref b), .val (.int (Int32.ofNat (o + len))), .val (.ref d), .val (.int (Int32.ofNat (q + len))), .val (.int (Int32.ofNat len)), .val (.int (Int32.ofNat len)), z'] [])) := by
    intro r
    induction r with
    | zero =>
      intro i hi z hz Tl Bk Xl pl fl cl
      have hil : i = len := by omega
      rw [hil] at Xl fl cl
      exact ⟨Tl, Bk, z, Xl, pl, fl, cl⟩
    | succ r ih =>
      intro i hi z hz Tl Bk Xl pl fl cl
      have all := X0.warmed.alike.symm.trans Xl.warmed.alike
      have hAl := hA0.keep all (pl.other hne hA0.1)
      have hBk := hB0.like all pl.1 fl.1 fl.2.1 fl.2.2.1
      have hlt : q + i < Bk.slots.size := by rw [fl.2.2.1]; omega
      have c3 : Steps p.tables e below (s₁.setTop (entryFrame m #[.ref b, .int (Int32.ofNat o), .ref d, .int (Int32.ofNat q), .int (Int32.ofNat len)] 7)) (Tl.setTop (mkF m 12 #[.val (.ref b), .val (.int (Int32.ofNat (o + i))), .val (.ref d), .val (.int (Int32.ofNat (q + i))), .val (.int (Int32.ofNat len)), .val (.int (Int32.ofNat i)), z] [.int (Int32.ofNat (o + i)), .ref b])) := cl.trans (by
        refine XS.iload Xl.here hexec rfl (hb hbytes d3) rfl ?_
        refine XS.iload Xl.here hexec rfl (hb hbytes d5) rfl ?_
        refine XS.icmpNo Xl.here hexec rfl (hb hbytes d7) rfl (ii_ge_f (lt32 (by omega) (by omega))) ?_
        refine XS.aloadN Xl.here hexec rfl (hb hbytes d10) rfl rfl ?_
        refine XS.iloadN Xl.here hexec rfl (hb hbytes d11) rfl ?_
        exact Steps.refl _)
      have c4 : Steps p.tables e below (s₁.setTop (entryFrame m #[.ref b, .int (Int32.ofNat o), .ref d, .int (Int32.ofNat q), .int (Int32.ofNat len)] 7)) (Tl.setTop (mkF m 13 #[.val (.ref b), .val (.int (Int32.ofNat (o + i))), .val (.ref d), .val (.int (Int32.ofNat (q + i))), .val (.int (Int32.ofNat len)), .val (.int (Int32.ofNat i)), z] [.int (cv A (o + i))])) := c3.trans (by
        refine Xl.aget hexec hAl rfl (hA.get (i := o + i) (by omega)) rfl rfl (hb hbytes d12) ?_
        exact Steps.refl _)
      have c5 : Steps p.tables e below (s₁.setTop (entryFrame m #[.ref b, .int (Int32.ofNat o), .ref d, .int (Int32.ofNat q), .int (Int32.ofNat len)] 7)) (Tl.setTop (mkF m 15 #[.val (.ref b), .val (.int (Int32.ofNat (o + i))), .val (.ref d), .val (.int (Int32.ofNat (q + i))), .val (.int (Int32.ofNat len)), .val (.int (Int32.ofNat i)), .val (.int (cv A (o + i)))] [])) := c4.trans (by
        refine XS.istoreS Xl.here hexec rfl (hb hbytes d13) rfl rfl hz ?_
        exact Steps.refl _)
      have c6 : Steps p.tables e below (s₁.setTop (entryFrame m #[.ref b, .int (Int32.ofNat o), .ref d, .int (Int32.ofNat q), .int (Int32.ofNat len)] 7)) (Tl.setTop (mkF m 31 #[.val (.ref b), .val (.int (Int32.ofNat (o + i))), .val (.ref d), .val (.int (Int32.ofNat (q + i))), .val (.int (Int32.ofNat len)), .val (.int (Int32.ofNat i)), .val (.int (cv A (o + i)))] [.int (lo8 (cv A (o + i))), .int (Int32.ofNat (q + i)), .ref d])) := c5.trans (by
        refine XS.iload Xl.here hexec rfl (hb hbytes d15) rfl ?_
        refine sipushV Xl.here hexec rfl 255 (hb hbytes d17) (by decide) ?_
        refine XS.icmpYes Xl.here hexec rfl (pc0 := 20) rfl (hb hbytes d20) rfl (ii_le_t (hp i (by omega))) (by decide) rfl ?_
        refine XS.aloadN Xl.here hexec rfl (hb hbytes d26) rfl rfl ?_
        refine XS.iloadN Xl.here hexec rfl (hb hbytes d27) rfl ?_
        refine XS.iload Xl.here hexec rfl (hb hbytes d28) rfl ?_
        refine i2b Xl.here hexec rfl (hb hbytes d30) rfl ?_
        exact Steps.refl _)
      obtain ⟨T7, X7, p7, st7⟩ := Xl.aput hexec hBk rfl hlt rfl (fits_lo8 (cv A (o + i))) (g := (mkF m 31 #[.val (.ref b), .val (.int (Int32.ofNat (o + i))), .val (.ref d), .val (.int (Int32.ofNat (q + i))), .val (.int (Int32.ofNat len)), .val (.int (Int32.ofNat i)), .val (.int (cv A (o + i)))] [.int (lo8 (cv A (o + i))), .int (Int32.ofNat (q + i)), .ref d])) rfl (rest := []) rfl (hb hbytes d31)
      have c8 : Steps p.tables e below (s₁.setTop (entryFrame m #[.ref b, .int (Int32.ofNat o), .ref d, .int (Int32.ofNat q), .int (Int32.ofNat len)] 7)) (T7.setTop (mkF m 32 #[.val (.ref b), .val (.int (Int32.ofNat (o + i))), .val (.ref d), .val (.int (Int32.ofNat (q + i))), .val (.int (Int32.ofNat len)), .val (.int (Int32.ofNat i)), .val (.int (cv A (o + i)))] [])) := c6.trans (st7 _ (Steps.refl _))
      have c9 : Steps p.tables e below (s₁.setTop (entryFrame m #[.ref b, .int (Int32.ofNat o), .ref d, .int (Int32.ofNat q), .int (Int32.ofNat len)] 7)) (T7.setTop (mkF m 3 #[.val (.ref b), .val (.int (Int32.ofNat (o + i) + 1)), .val (.ref d), .val (.int (Int32.ofNat (q + i) + 1)), .val (.int (Int32.ofNat len)), .val (.int (Int32.ofNat i + 1)), .val (.int (cv A (o + i)))] [])) := c8.trans (by
        refine iincV X7.here hexec rfl 1 (hb hbytes d32) (by decide) rfl rfl ?_
        refine iincV X7.here hexec rfl 1 (hb hbytes d35) (by decide) rfl rfl ?_
        refine iincV X7.here hexec rfl 1 (hb hbytes d38) (by decide) rfl rfl ?_
        refine XS.goto X7.here hexec rfl (pc0 := 41) rfl (hb hbytes d41) (by decide) rfl ?_
        exact Steps.refl _)
      have c10 : Steps p.tables e below (s₁.setTop (entryFrame m #[.ref b, .int (Int32.ofNat o), .ref d, .int (Int32.ofNat q), .int (Int32.ofNat len)] 7)) (T7.setTop (mkF m 3 #[.val (.ref b), .val (.int (Int32.ofNat (o + (i + 1)))), .val (.ref d), .val (.int (Int32.ofNat (q + (i + 1)))), .val (.int (Int32.ofNat len)), .val (.int (Int32.ofNat (i + 1))), .val (.int (cv A (o + i)))] [])) := by
        have := c9
        rw [succ32, succ32, succ32] at this
        exact this
      exact ih (i + 1) (by omega) _ (Or.inr ⟨_, rfl, rfl⟩) T7 _ (by rw [copyLocs_step, ← List.append_assoc]; exact X7) (pl.trans p7) (fl.step (by omega) hlt (by simp)) c10
  obtain ⟨T9, B9, z9, X9, p9, f9, g9⟩ := loop len 0 (by omega) .unset (Or.inl rfl) s₁ B (by simpa [copyLocs] using X0) ⟨hB0.1, fun _ _ => rfl, rfl⟩ (Laid.zero _ _ _) c2
  have c11 : Steps p.tables e below (s₁.setTop (entryFrame m #[.ref b, .int (Int32.ofNat o), .ref d, .int (Int32.ofNat q), .int (Int32.ofNat len)] 7)) (T9.setTop (mkF m 46 #[.val (.ref b), .val (.int (Int32.ofNat (o + len))), .val (.ref d), .val (.int (Int32.ofNat (q + len))), .val (.int (Int32.ofNat len)), .val (.int (Int32.ofNat len)), z9] [.int (Int32.ofNat len)])) := g9.trans (by
    refine XS.iload X9.here hexec rfl (hb hbytes d3) rfl ?_
    refine XS.iload X9.here hexec rfl (hb hbytes d5) rfl ?_
    refine XS.icmpYes X9.here hexec rfl (pc0 := 7) rfl (hb hbytes d7) rfl (ii_ge_t (nlt32 (by omega) (Nat.le_refl _))) (by decide) rfl ?_
    refine XS.iload X9.here hexec rfl (hb hbytes d44) rfl ?_
    exact Steps.refl _)
  exact ⟨T9, some (.int (Int32.ofNat len)), _, _, _, X9, by simp, rfl, rfl, (fun h => by cases h), ⟨rfl, B9, p9.from hh0, f9⟩, fun fs hl => c11.trans (X9.ireturnOut hexec hret rfl (Or.inl rfl) (hb hbytes d46) hl)⟩
end Cmp5
namespace Cmp3
def yN : MethodName := ⟨"java/lang/StringUTF16", "compress", "([CII)[B"⟩
abbrev yB : ByteArray := jdk_52_method_16_code
theorem d0 : decode yB 0 = .ok (.iload_n 2, 1) := by decide +kernel
theorem d1 : decode yB 1 = .ok (.newarray .byte, 2) := by decide +kernel
theorem d3 : decode yB 3 = .ok (.astore_n 3, 1) := by decide +kernel
theorem d4 : decode yB 4 = .ok (.aload_n 0, 1) := by decide +kernel
theorem d5 : decode yB 5 = .ok (.iload_n 1, 1) := by decide +kernel
theorem d6 : decode yB 6 = .ok (.aload_n 3, 1) := by decide +kernel
theorem d7 : decode yB 7 = .ok (.iconst 0, 1) := by decide +kernel
theorem d8 : decode yB 8 = .ok (.iload_n 2, 1) := by decide +kernel
theorem d9 : decode yB 9 = .ok (.invokestatic 115, 3) := by decide +kernel
theorem d12 : decode yB 12 = .ok (.istore 4, 2) := by decide +kernel
theorem d14 : decode yB 14 = .ok (.iload 4, 2) := by decide +kernel
theorem d16 : decode yB 16 = .ok (.iload_n 2, 1) := by decide +kernel
theorem d17 : decode yB 17 = .ok (.if_icmp (.eq) 40, 3) := by decide +kernel
theorem d57 : decode yB 57 = .ok (.aload_n 3, 1) := by decide +kernel
theorem d58 : decode yB 58 = .ok (.areturn, 1) := by decide +kernel
def site : List Cond := [.arrayClass .byte, Cmp5.tab] ++ staticW U16 115 Cmp5.yN
def tab : Cond := tabOf yN yB 6 (some (.array .byte)) site
def P (b : Addr) (A : Cell) (o len : Nat) (args : Array Value) (s : State) : Prop := args = #[.ref b, .int (Int32.ofNat o), .int (Int32.ofNat len)] ∧ Ch b A s ∧ o + len ≤ A.slots.size ∧ len ≤ 536870912 ∧ ∀ i, i < len → ¬ 255 < cv A (o + i)
def E (b : Addr) (A : Cell) (o len : Nat) (r : Option Value) (s u : State) : Prop := NewArr .byte "[B" len (fun j => .int (lo8 (cv A (o + j)))) r s u ∧ u.heap.size = s.heap.size + 1
/-- no char of the range above 255: a new byte[] of their low bytes -/
theorem law (l : Launch) (b : Addr) (A : Cell) (o len : Nat) : Law l yN 3 3 1 18 yB 6 (some (.array .byte)) site (P b A o len) (E b A o len) [] 1 len := by
  refine Law.of_walk (plainFor_of_name (by decide +kernel)) (by decide +kernel) (by decide +kernel) (by decide) (fun _ _ h => by rw [h.1]; rfl) (fun _ U U' hal hh h => ⟨h.1, h.2.1.mv hal hh, h.2.2⟩) (fun r U U' V V' h1 hal h2 h => ⟨NewArr.mv r U U' V V' h1 hal h2 h.1, by rw [h1, h2]; exact h.2⟩) ?_
  intro p e s m args below meth c s₁ X0 hexec hbytes hml hret hlk hnm hown hh0 W hP
  obtain ⟨rfl, hA, l1, l2, hp⟩ := hP
  have a31 := hA.1.2.2.2
  have c1 : Steps p.tables e below (s₁.setTop (entryFrame m #[.ref b, .int (Int32.ofNat o), .int (Int32.ofNat len)] 6)) (s₁.setTop (mkF m 0 #[.val (.ref b), .val (.int (Int32.ofNat o)), .val (.int (Int32.ofNat len)), .unset, .unset, .unset] [])) := entry rfl
  have c2 : Steps p.tables e below (s₁.setTop (entryFrame m #[.ref b, .int (Int32.ofNat o), .int (Int32.ofNat len)] 6)) (s₁.setTop (mkF m 1 #[.val (.ref b), .val (.int (Int32.ofNat o)), .val (.int (Int32.ofNat len)), .unset, .unset, .unset] [.int (Int32.ofNat len)])) := c1.trans (by
    refine XS.iloadN X0.here hexec rfl (hb hbytes d0) rfl ?_
    exact Steps.refl _)
  obtain ⟨T3, B3, X3, ba3, bs3, bv3, bh3, bf3, st3⟩ := X0.anew hexec (atype := .byte) (wk W (.arrayClass .byte)) rfl (by show len * 1 ≤ _; omega) (by omega) (g := (mkF m 1 #[.val (.ref b), .val (.int (Int32.ofNat o)), .val (.int (Int32.ofNat len)), .unset, .unset, .unset] [.int (Int32.ofNat len)])) rfl (hb hbytes d1) (rest := []) rfl (Nat.le_refl _) (by show 0 + len ≤ len; omega)
  rw [hh0] at ba3 st3
  have kp3 : XT.Kept s T3 := (XT.Kept.of_eq hh0).push bh3
  have hA3 := hA.keep X3.warmed.alike (kp3 _ _ hA.1.1)
  have hne : b ≠ s.heap.size := hA.1.ne
  have c4 : Steps p.tables e below (s₁.setTop (entryFrame m #[.ref b, .int (Int32.ofNat o), .int (Int32.ofNat len)] 6)) (T3.setTop (mkF m 3 #[.val (.ref b), .val (.int (Int32.ofNat o)), .val (.int (Int32.ofNat len)), .unset, .unset, .unset] [.ref s.heap.size])) := c2.trans (st3 _ (Steps.refl _))
  have c5 : Steps p.tables e below (s₁.setTop (entryFrame m #[.ref b, .int (Int32.ofNat o), .int (Int32.ofNat len)] 6)) (T3.setTop (mkF m 9 #[.val (.ref b), .val (.int (Int32.ofNat o)), .val (.int (Int32.ofNat len)), .val (.ref s.heap.size), .unset, .unset] [.int (Int32.ofNat len), .int 0, .ref s.heap.size, .int (Int32.ofNat o), .ref b])) := c4.trans (by
    refine XS.astoreN X3.here hexec rfl (hb hbytes d3) rfl rfl rfl ?_
    refine XS.aloadN X3.here hexec rfl (hb hbytes d4) rfl rfl ?_
    refine XS.iloadN X3.here hexec rfl (hb hbytes d5) rfl ?_
    refine XS.aloadN X3.here hexec rfl (hb hbytes d6) rfl rfl ?_
    refine iconstV X3.here hexec rfl 0 (hb hbytes d7) (by decide) ?_
    refine XS.iloadN X3.here hexec rfl (hb hbytes d8) rfl ?_
    exact Steps.refl _)
  obtain ⟨v6, T6, X6, E6, g6⟩ := X3.callS hexec (Cmp5.law l b A s.heap.size B3 o 0 len) hown (wks W (staticW U16 115 Cmp5.yN)) (wk W Cmp5.tab) (W := 0) (Nat.le_of_ble_eq_true rfl) (Nat.le_of_ble_eq_true rfl) (Nat.le_refl _) (by show 0 + len + 0 ≤ len; omega) (g := (mkF m 9 #[.val (.ref b), .val (.int (Int32.ofNat o)), .val (.int (Int32.ofNat len)), .val (.ref s.heap.size), .unset, .unset] [.int (Int32.ofNat len), .int (Int32.ofNat 0), .ref s.heap.size, .int (Int32.ofNat o), .ref b])) rfl (by rw [hml]; rfl) c5 (argsL := [.ref b, .int (Int32.ofNat o), .ref s.heap.size, .int (Int32.ofNat 0), .int (Int32.ofNat len)]) (rest := []) rfl rfl (by show 2 * 0 + 0 ≤ _; decide) (hb hbytes d9) (⟨rfl, hA3, ba3, hne, l1, by rw [bs3]; simp, hp⟩)
  obtain ⟨rfl, B6, p6, f6⟩ := E6
  have c7 : Steps p.tables e below (s₁.setTop (entryFrame m #[.ref b, .int (Int32.ofNat o), .int (Int32.ofNat len)] 6)) (T6.setTop (mkF m 12 #[.val (.ref b), .val (.int (Int32.ofNat o)), .val (.int (Int32.ofNat len)), .val (.ref s.heap.size), .unset, .unset] [.int (Int32.ofNat len)])) := g6
  have c8 : Steps p.tables e below (s₁.setTop (entryFrame m #[.ref b, .int (Int32.ofNat o), .int (Int32.ofNat len)] 6)) (T6.setTop (mkF m 58 #[.val (.ref b), .val (.int (Int32.ofNat o)), .val (.int (Int32.ofNat len)), .val (.ref s.heap.size), .val (.int (Int32.ofNat len)), .unset] [.ref s.heap.size])) := c7.trans (by
    refine XS.istore X6.here hexec rfl (hb hbytes d12) rfl rfl ?_
    refine XS.iload X6.here hexec rfl (hb hbytes d14) rfl ?_
    refine XS.iloadN X6.here hexec rfl (hb hbytes d16) rfl ?_
    refine XS.icmpYes X6.here hexec rfl (pc0 := 17) rfl (hb hbytes d17) rfl (ii_eq_t rfl) (by decide) rfl ?_
    refine XS.aloadN X6.here hexec rfl (hb hbytes d57) rfl rfl ?_
    exact Steps.refl _)
  have X8 := X6.wide (L' := []) (cells' := 1) (slots' := len) (fun x hx hlt => by
    simp only [List.nil_append, copyLocs, List.mem_map, List.mem_range] at hx
    obtain ⟨i, -, rfl⟩ := hx
    exact absurd hlt (Nat.lt_irrefl _)) (Nat.le_refl _) (by omega)
  exact ⟨T6, some (.ref s.heap.size), _, _, _, X8, rfl, rfl, rfl, (fun h => by cases h), ⟨⟨rfl, B6, ba3.like (X3.warmed.alike.symm.trans X6.warmed.alike) p6.1 f6.1 f6.2.1 f6.2.2.1, f6.2.1.trans bv3, by rw [X6.warmed.alike.findClass, f6.1]; exact bf3, by rw [f6.2.2.1, bs3]; simp, fun j hj => by rw [f6.2.2.2 j, if_pos (by omega)]; rfl, kp3.put p6 (Nat.le_refl _)⟩, by rw [p6.2.2, bh3, hh0]; simp⟩, fun fs hl => c8.trans (X8.areturnOut hexec rfl hret rfl (hb hbytes d58) hl)⟩
end Cmp3
namespace CodL
def yN : MethodName := ⟨"java/lang/StringUTF16", "coderFromArrayLen", "([BI)B"⟩
abbrev yB : ByteArray := jdk_52_method_15_code
theorem d0 : decode yB 0 = .ok (.iload_n 1, 1) := by decide +kernel
theorem d1 : decode yB 1 = .ok (.aload_n 0, 1) := by decide +kernel
theorem d2 : decode yB 2 = .ok (.arraylength, 1) := by decide +kernel
theorem d3 : decode yB 3 = .ok (.isub, 1) := by decide +kernel
theorem d4 : decode yB 4 = .ok (.bipush 31, 2) := by decide +kernel
theorem d6 : decode yB 6 = .ok (.iushr, 1) := by decide +kernel
theorem d7 : decode yB 7 = .ok (.i2b, 1) := by decide +kernel
theorem d8 : decode yB 8 = .ok (.ireturn, 1) := by decide +kernel
def site : List Cond := []
def tab : Cond := tabOf yN yB 2 (some .byte) site
def P (d : Addr) (B : Cell) (args : Array Value) (s : State) : Prop := args = #[.ref d, .int (Int32.ofNat B.slots.size)] ∧ Arr .byte d B s
def E (r : Option Value) (s u : State) : Prop := XT.PureE (some (.int 0)) r s u
/-- an array as long as the number of chars: LATIN1 -/
theorem law (l : Launch) (d : Addr) (B : Cell) : Law l yN 2 2 0 0 yB 2 (some .byte) site (P d B) E [] 0 0 := by
  refine Law.of_walk (plainFor_of_name (by decide +kernel)) (by decide +kernel) (by decide +kernel) (by decide) (fun _ _ h => by rw [h.1]; rfl) (fun _ U U' hal hh h => ⟨h.1, h.2.mv hal hh⟩) (fun r U U' V V' h1 hal h2 h => XT.PureE.mv r U U' V V' h1 hal h2 h) ?_
  intro p e s m args below meth c s₁ X0 hexec hbytes hml hret hlk hnm hown hh0 W hP
  obtain ⟨rfl, hB⟩ := hP
  have hB0 := hB.mv X0.warmed.alike hh0
  have c1 : Steps p.tables e below (s₁.setTop (entryFrame m #[.ref d, .int (Int32.ofNat B.slots.size)] 2)) (s₁.setTop (mkF m 0 #[.val (.ref d), .val (.int (Int32.ofNat B.slots.size))] [])) := entry rfl
  have c2 : Steps p.tables e below (s₁.setTop (entryFrame m #[.ref d, .int (Int32.ofNat B.slots.size)] 2)) (s₁.setTop (mkF m 2 #[.val (.ref d), .val (.int (Int32.ofNat B.slots.size))] [.ref d, .int (Int32.ofNat B.slots.size)])) := c1.trans (by
    refine XS.iloadN X0.here hexec rfl (hb hbytes d0) rfl ?_
    refine XS.aloadN X0.here hexec rfl (hb hbytes d1) rfl rfl ?_
    exact Steps.refl _)
  have c3 : Steps p.tables e below (s₁.setTop (entryFrame m #[.ref d, .int (Int32.ofNat B.slots.size)] 2)) (s₁.setTop (mkF m 8 #[.val (.ref d), .val (.int (Int32.ofNat B.slots.size))] [.int (lo8 (ushr (Int32.ofNat B.slots.size - Int32.ofNat B.slots.size) 31))])) := c2.trans (by
    refine X0.alen hexec hB0 rfl rfl (hb hbytes d2) ?_
    refine XS.isub X0.here hexec rfl (hb hbytes d3) rfl ?_
    refine bipushV X0.here hexec rfl 31 (hb hbytes d4) (by decide) ?_
    refine iushr X0.here hexec rfl (hb hbytes d6) rfl ?_
    refine i2b X0.here hexec rfl (hb hbytes d7) rfl ?_
    exact Steps.refl _)
  have e0 : lo8 (ushr (Int32.ofNat B.slots.size - Int32.ofNat B.slots.size) 31) = 0 := by rw [Int32.sub_self]; decide
  rw [e0] at c3
  exact ⟨s₁, some (.int 0), _, _, _, X0, rfl, rfl, rfl, (fun h => by cases h), ⟨rfl, hh0⟩, fun fs hl => c3.trans (X0.ireturnOut hexec hret rfl (Or.inr (Or.inr (Or.inl rfl))) (hb hbytes d8) hl)⟩
end CodL
/-- the String at a is Latin-1 over a new byte[] (the heap's one new cell): the low bytes of the len chars of A from o on; every cell but a is kept -/
def Got (a : Addr) (D : Cell) (fV fC : Field) (A : Cell) (o len : Nat) (r : Option Value) (s u : State) : Prop := r = none ∧ ∃ D' V : Cell, Blank "java/lang/String" a D' u ∧ Same D D' [fV.slot, fC.slot] ∧ D'.slots[fV.slot]? = some (.ref s.heap.size) ∧ D'.slots[fC.slot]? = some (.int 0) ∧ Arr .byte s.heap.size V u ∧ V.vm = .none ∧ u.vm.findClass "[B" = some V.cls ∧ V.slots.size = len ∧ (∀ j, j < len → V.slots[j]? = some (.int (lo8 (cv A (o + j))))) ∧ (∀ (y : Addr) (c : Cell), y ≠ a → s.heap[y]? = some c → u.heap[y]? = some c) ∧ u.heap.size = s.heap.size + 1
theorem Got.mv {a : Addr} {D A : Cell} {fV fC : Field} {o len : Nat} : ∀ r (U U' V V' : State), U'.heap = U.heap → V.vm.Alike V'.vm → V'.heap = V.heap → Got a D fV fC A o len r U V → Got a D fV fC A o len r U' V' :=
  fun r U U' V V' h1 hal h2 ⟨e0, D', X, a1, a2, a3, a4, a5, a6, a7, a8, a9, a10, a11⟩ => ⟨e0, D', X, a1.mv hal h2, a2, by rw [h1]; exact a3, a4, by rw [h1]; exact a5.mv hal h2, a6, by rw [hal.findClass]; exact a7, a8, a9, by rw [h1, h2]; exact a10, by rw [h1, h2]; exact a11⟩
namespace New4
def yN : MethodName := ⟨"java/lang/String", "<init>", "([CIILjava/lang/Void;)V"⟩
abbrev yB : ByteArray := jdk_42_method_149_code
theorem d0 : decode yB 0 = .ok (.aload_n 0, 1) := by decide +kernel
theorem d1 : decode yB 1 = .ok (.invokespecial 1, 3) := by decide +kernel
theorem d4 : decode yB 4 = .ok (.iload_n 3, 1) := by decide +kernel
theorem d5 : decode yB 5 = .ok (.ifCond (.ne) 22, 3) := by decide +kernel
theorem d27 : decode yB 27 = .ok (.getstatic 38, 3) := by decide +kernel
theorem d30 : decode yB 30 = .ok (.ifCond (.eq) 28, 3) := by decide +kernel
theorem d33 : decode yB 33 = .ok (.aload_n 1, 1) := by decide +kernel
theorem d34 : decode yB 34 = .ok (.iload_n 2, 1) := by decide +kernel
theorem d35 : decode yB 35 = .ok (.iload_n 3, 1) := by decide +kernel
theorem d36 : decode yB 36 = .ok (.invokestatic 177, 3) := by decide +kernel
theorem d39 : decode yB 39 = .ok (.astore 5, 2) := by decide +kernel
theorem d41 : decode yB 41 = .ok (.aload_n 0, 1) := by decide +kernel
theorem d42 : decode yB 42 = .ok (.aload 5, 2) := by decide +kernel
theorem d44 : decode yB 44 = .ok (.iload_n 3, 1) := by decide +kernel
theorem d45 : decode yB 45 = .ok (.invokestatic 47, 3) := by decide +kernel
theorem d48 : decode yB 48 = .ok (.putfield 15, 3) := by decide +kernel
theorem d51 : decode yB 51 = .ok (.aload_n 0, 1) := by decide +kernel
theorem d52 : decode yB 52 = .ok (.aload 5, 2) := by decide +kernel
theorem d54 : decode yB 54 = .ok (.putfield 9, 3) := by decide +kernel
theorem d57 : decode yB 57 = .ok (.return_, 1) := by decide +kernel
def site : List Cond := [.fieldLink "java/lang/String" 38 "java/lang/String" "COMPACT_STRINGS" "Z", Cmp3.tab, CodL.tab, .laysFinal "java/lang/String" "java/lang/String" "value" "[B", .fieldLink "java/lang/String" 9 "java/lang/String" "value" "[B", .laysFinal "java/lang/String" "java/lang/String" "coder" "B", .fieldLink "java/lang/String" 15 "java/lang/String" "coder" "B"] ++ objW "java/lang/String" 1 ++ staticW "java/lang/String" 177 Cmp3.yN ++ staticW "java/lang/String" 47 CodL.yN
def tab : Cond := tabOf yN yB 6 none site
def P (a : Addr) (D : Cell) (fV fC : Field) (b : Addr) (A : Cell) (z : Int32) (o len : Nat) (args : Array Value) (s : State) : Prop := args = #[.ref a, .ref b, .int (Int32.ofNat o), .int (Int32.ofNat len), .null] ∧ Blank "java/lang/String" a D s ∧ Found "java/lang/String" "value" "[B" fV s ∧ Found "java/lang/String" "coder" "B" fC s ∧ Ch b A s ∧ StaticIs s "java/lang/String" "COMPACT_STRINGS" "Z" (.int z) ∧ ¬ z = 0 ∧ 0 < len ∧ o + len ≤ A.slots.size ∧ len ≤ 536870912 ∧ ∀ i, i < len → ¬ 255 < cv A (o + i)
def E (a : Addr) (D : Cell) (fV fC : Field) (A : Cell) (o len : Nat) (r : Option Value) (s u : State) : Prop := Got a D fV fC A o len r s u
/-- len > 0, no char of the range above 255: a Latin-1 String of their low bytes -/
theorem law (l : Launch) (a : Addr) (D : Cell) (fV fC : Field) (b : Addr) (A : Cell) (z : Int32) (o len : Nat) : Law l yN 5 4 2 35 yB 6 none site (P a D fV fC b A z o len) (E a D fV fC A o len) [⟨a, fC.slot⟩, ⟨a, fV.slot⟩] 1 len := by
  refine Law.of_walk (plainFor_of_name (by decide +kernel)) (by decide +kernel) (by decide +kernel) (by decide) (fun _ _ h => by rw [h.1]; rfl) (fun _ U U' hal hh h => ⟨h.1, h.2.1.mv hal hh, h.2.2.1.al hal, h.2.2.2.1.al hal, h.2.2.2.2.1.mv hal hh, h.2.2.2.2.2.1.there hal hh, h.2.2.2.2.2.2⟩) (fun r U U' V V' h1 hal h2 h => Got.mv r U U' V V' h1 hal h2 h) ?_
  intro p e s m args below meth c s₁ X0 hexec hbytes hml hret hlk hnm hown hh0 W hP
  obtain ⟨rfl, hB, f1, f2, hA, s1, hz, l0, l1, l2, hp⟩ := hP
  have a31 := hA.1.2.2.2
  have c1 : Steps p.tables e below (s₁.setTop (entryFrame m #[.ref a, .ref b, .int (Int32.ofNat o), .int (Int32.ofNat len), .null] 6)) (s₁.setTop (mkF m 0 #[.val (.ref a), .val (.ref b), .val (.int (Int32.ofNat o)), .val (.int (Int32.ofNat len)), .val .null, .unset] [])) := entry rfl
  have c2 : Steps p.tables e below (s₁.setTop (entryFrame m #[.ref a, .ref b, .int (Int32.ofNat o), .int (Int32.ofNat len), .null] 6)) (s₁.setTop (mkF m 1 #[.val (.ref a), .val (.ref b), .val (.int (Int32.ofNat o)), .val (.int (Int32.ofNat len)), .val .null, .unset] [.ref a])) := c1.trans (by
    refine XS.aloadN X0.here hexec rfl (hb hbytes d0) rfl rfl ?_
    exact Steps.refl _)
  obtain ⟨T3, X3, q3, st3⟩ := X0.oinit hexec hown (wks W (objW "java/lang/String" 1)) (g := (mkF m 1 #[.val (.ref a), .val (.ref b), .val (.int (Int32.ofNat o)), .val (.int (Int32.ofNat len)), .val .null, .unset] [.ref a])) rfl (by rw [hml]; rfl) (rest := []) rfl (hb hbytes d1) (W := 0) (by show 2 * 0 + 0 ≤ _; decide) (Nat.le_of_ble_eq_true rfl) (Nat.le_of_ble_eq_true rfl)
  have hh3 := q3.trans hh0
  have c4 : Steps p.tables e below (s₁.setTop (entryFrame m #[.ref a, .ref b, .int (Int32.ofNat o), .int (Int32.ofNat len), .null] 6)) (T3.setTop (mkF m 27 #[.val (.ref a), .val (.ref b), .val (.int (Int32.ofNat o)), .val (.int (Int32.ofNat len)), .val .null, .unset] [])) := (c2.trans (st3 _ (Steps.refl _))).trans (by
    refine XS.iloadN X3.here hexec rfl (hb hbytes d4) rfl ?_
    refine XS.ifYes X3.here hexec rfl (pc0 := 5) rfl (hb hbytes d5) rfl (i0_ne_t (nz32 (by omega) l0)) (by decide) rfl ?_
    exact Steps.refl _)
  obtain ⟨T5, X5, q5, st5⟩ := X3.sget hexec hown (wk W (.fieldLink "java/lang/String" 38 "java/lang/String" "COMPACT_STRINGS" "Z")) s1 (fun _ _ h => by rw [hh3]; exact h) (g := (mkF m 27 #[.val (.ref a), .val (.ref b), .val (.int (Int32.ofNat o)), .val (.int (Int32.ofNat len)), .val .null, .unset] [])) rfl (hb hbytes d27)
  have hh5 := q5.trans hh3
  have c6 : Steps p.tables e below (s₁.setTop (entryFrame m #[.ref a, .ref b, .int (Int32.ofNat o), .int (Int32.ofNat len), .null] 6)) (T5.setTop (mkF m 30 #[.val (.ref a), .val (.ref b), .val (.int (Int32.ofNat o)), .val (.int (Int32.ofNat len)), .val .null, .unset] [.int z])) := c4.trans (st5 _ (Steps.refl _))
  have c7 : Steps p.tables e below (s₁.setTop (entryFrame m #[.ref a, .ref b, .int (Int32.ofNat o), .int (Int32.ofNat len), .null] 6)) (T5.setTop (mkF m 36 #[.val (.ref a), .val (.ref b), .val (.int (Int32.ofNat o)), .val (.int (Int32.ofNat len)), .val .null, .unset] [.int (Int32.ofNat len), .int (Int32.ofNat o), .ref b])) := c6.trans (by
    refine XS.ifNo X5.here hexec rfl (hb hbytes d30) rfl (i0_eq_f hz) ?_
    refine XS.aloadN X5.here hexec rfl (hb hbytes d33) rfl rfl ?_
    refine XS.iloadN X5.here hexec rfl (hb hbytes d34) rfl ?_
    refine XS.iloadN X5.here hexec rfl (hb hbytes d35) rfl ?_
    exact Steps.refl _)
  obtain ⟨v8, T8, X8, E8, g8⟩ := X5.callS hexec (Cmp3.law l b A o len) hown (wks W (staticW "java/lang/String" 177 Cmp3.yN)) (wk W Cmp3.tab) (W := 0) (Nat.le_of_ble_eq_true rfl) (Nat.le_of_ble_eq_true rfl) (Nat.le_refl _) (by show 0 + len ≤ len; omega) (g := (mkF m 36 #[.val (.ref a), .val (.ref b), .val (.int (Int32.ofNat o)), .val (.int (Int32.ofNat len)), .val .null, .unset] [.int (Int32.ofNat len), .int (Int32.ofNat o), .ref b])) rfl (by rw [hml]; rfl) c7 (argsL := [.ref b, .int (Int32.ofNat o), .int (Int32.ofNat len)]) (rest := []) rfl rfl (by show 2 * 0 + 0 ≤ _; decide) (hb hbytes d36) (⟨rfl, hA.mv X5.warmed.alike hh5, l1, l2, hp⟩)
  obtain ⟨e8, z8⟩ := E8
  obtain ⟨rfl, N, n1, n2, n3, n4, n5, n6⟩ := NewArr.mv _ T5 s _ _ hh5.symm (Vm.Alike.refl _) rfl e8
  rw [hh5] at z8
  have hB1 := hB.keep X8.warmed.alike (n6 _ _ hB.1)
  have hne : s.heap.size ≠ a := (Nat.ne_of_lt (Array.getElem?_eq_some_iff.mp hB.1).1).symm
  have c9 : Steps p.tables e below (s₁.setTop (entryFrame m #[.ref a, .ref b, .int (Int32.ofNat o), .int (Int32.ofNat len), .null] 6)) (T8.setTop (mkF m 39 #[.val (.ref a), .val (.ref b), .val (.int (Int32.ofNat o)), .val (.int (Int32.ofNat len)), .val .null, .unset] [.ref s.heap.size])) := g8
  have c10 : Steps p.tables e below (s₁.setTop (entryFrame m #[.ref a, .ref b, .int (Int32.ofNat o), .int (Int32.ofNat len), .null] 6)) (T8.setTop (mkF m 45 #[.val (.ref a), .val (.ref b), .val (.int (Int32.ofNat o)), .val (.int (Int32.ofNat len)), .val .null, .val (.ref s.heap.size)] [.int (Int32.ofNat N.slots.size), .ref s.heap.size, .ref a])) := by
    have hc : Steps p.tables e below (s₁.setTop (entryFrame m #[.ref a, .ref b, .int (Int32.ofNat o), .int (Int32.ofNat len), .null] 6)) (T8.setTop (mkF m 45 #[.val (.ref a), .val (.ref b), .val (.int (Int32.ofNat o)), .val (.int (Int32.ofNat len)), .val .null, .val (.ref s.heap.size)] [.int (Int32.ofNat len), .ref s.heap.size, .ref a])) := c9.trans (by
      refine XS.astore X8.here hexec rfl (hb hbytes d39) rfl rfl rfl ?_
      refine XS.aloadN X8.here hexec rfl (hb hbytes d41) rfl rfl ?_
      refine XS.aload X8.here hexec rfl (hb hbytes d42) rfl rfl ?_
      refine XS.iloadN X8.here hexec rfl (hb hbytes d44) rfl ?_
      exact Steps.refl _)
    rw [n4]; exact hc
  obtain ⟨v11, T11, X11, E11, g11⟩ := X8.callS hexec (CodL.law l s.heap.size N) hown (wks W (staticW "java/lang/String" 47 CodL.yN)) (wk W CodL.tab) (W := 1) (Nat.le_of_ble_eq_true rfl) (Nat.le_of_ble_eq_true rfl) (Nat.le_refl _) (by show 0 + len + 0 ≤ len; omega) (g := (mkF m 45 #[.val (.ref a), .val (.ref b), .val (.int (Int32.ofNat o)), .val (.int (Int32.ofNat len)), .val .null, .val (.ref s.heap.size)] [.int (Int32.ofNat N.slots.size), .ref s.heap.size, .ref a])) rfl (by rw [hml]; rfl) c10 (argsL := [.ref s.heap.size, .int (Int32.ofNat N.slots.size)]) (rest := [.ref a]) rfl rfl (by show 2 * 0 + (1 + 0) ≤ _; decide) (hb hbytes d45) (⟨rfl, n1⟩)
  obtain ⟨rfl, q11⟩ := E11
  have hB11 := hB1.mv (X8.warmed.alike.symm.trans X11.warmed.alike) q11
  have c12 : Steps p.tables e below (s₁.setTop (entryFrame m #[.ref a, .ref b, .int (Int32.ofNat o), .int (Int32.ofNat len), .null] 6)) (T11.setTop (mkF m 48 #[.val (.ref a), .val (.ref b), .val (.int (Int32.ofNat o)), .val (.int (Int32.ofNat len)), .val .null, .val (.ref s.heap.size)] [.int 0, .ref a])) := g11
  obtain ⟨T13, X13, p13, bl13, sl13, st13⟩ := X11.finit hexec hown (wk W (.fieldLink "java/lang/String" 15 "java/lang/String" "coder" "B")) (Or.inr ⟨_, (wk W (.laysFinal "java/lang/String" "java/lang/String" "coder" "B"))⟩) (Or.inl ⟨rfl, hnm⟩) f2 (Or.inl rfl) hB11 (t := .byte) (by decide +kernel) rfl (g := (mkF m 48 #[.val (.ref a), .val (.ref b), .val (.int (Int32.ofNat o)), .val (.int (Int32.ofNat len)), .val .null, .val (.ref s.heap.size)] [.int 0, .ref a])) rfl (rest := []) rfl (hb hbytes d48)
  have c14 : Steps p.tables e below (s₁.setTop (entryFrame m #[.ref a, .ref b, .int (Int32.ofNat o), .int (Int32.ofNat len), .null] 6)) (T13.setTop (mkF m 54 #[.val (.ref a), .val (.ref b), .val (.int (Int32.ofNat o)), .val (.int (Int32.ofNat len)), .val .null, .val (.ref s.heap.size)] [.ref s.heap.size, .ref a])) := (c12.trans (st13 _ (Steps.refl _))).trans (by
    refine XS.aloadN X13.here hexec rfl (hb hbytes d51) rfl rfl ?_
    refine XS.aload X13.here hexec rfl (hb hbytes d52) rfl rfl ?_
    exact Steps.refl _)
  obtain ⟨T15, X15, p15, bl15, sl15, st15⟩ := X13.finit hexec hown (wk W (.fieldLink "java/lang/String" 9 "java/lang/String" "value" "[B")) (Or.inr ⟨_, (wk W (.laysFinal "java/lang/String" "java/lang/String" "value" "[B"))⟩) (Or.inl ⟨rfl, hnm⟩) f1 (Or.inl rfl) bl13 (t := (.array .byte)) (by decide +kernel) rfl (g := (mkF m 54 #[.val (.ref a), .val (.ref b), .val (.int (Int32.ofNat o)), .val (.int (Int32.ofNat len)), .val .null, .val (.ref s.heap.size)] [.ref s.heap.size, .ref a])) rfl (rest := []) rfl (hb hbytes d54)
  have c16 : Steps p.tables e below (s₁.setTop (entryFrame m #[.ref a, .ref b, .int (Int32.ofNat o), .int (Int32.ofNat len), .null] 6)) (T15.setTop (mkF m 57 #[.val (.ref a), .val (.ref b), .val (.int (Int32.ofNat o)), .val (.int (Int32.ofNat len)), .val .null, .val (.ref s.heap.size)] [])) := c14.trans (st15 _ (Steps.refl _))
  have ap := apart (Or.inr ⟨_, (wk W (.laysFinal "java/lang/String" "java/lang/String" "value" "[B"))⟩) (Or.inr ⟨_, (wk W (.laysFinal "java/lang/String" "java/lang/String" "coder" "B"))⟩) f1 f2 (t₁ := .array .byte) (t₂ := .byte) (by decide +kernel) (by decide +kernel) (by decide)
  have al := X8.warmed.alike.symm.trans X15.warmed.alike
  have n7 : T11.heap[s.heap.size]? = some N := by rw [q11]; exact n1.1
  exact ⟨T15, none, _, _, _, X15, by simp, rfl, by omega, (fun _ => rfl), ⟨rfl, _, N, bl15, ((Same.refl D _).set _ (by simp)).set _ (by simp), sl15, (Cell.slots_setSlot_ne _ ap).trans sl13, n1.keep al (p15.other hne (p13.other hne n7)), n2, by rw [al.findClass]; exact n3, n4, n5, fun y c h1 h2 => p15.other h1 (p13.other h1 (by rw [q11]; exact n6 y c h2)), by rw [p15.2.2, p13.2.2, q11]; exact z8⟩, fun fs hl => c16.trans (X15.returnOut hexec hret (hb hbytes d57) hl)⟩
end New4
namespace New1
def yN : MethodName := ⟨"java/lang/String", "<init>", "([C)V"⟩
abbrev yB : ByteArray := jdk_42_method_3_code
theorem d0 : decode yB 0 = .ok (.aload_n 0, 1) := by decide +kernel
theorem d1 : decode yB 1 = .ok (.aload_n 1, 1) := by decide +kernel
theorem d2 : decode yB 2 = .ok (.iconst 0, 1) := by decide +kernel
theorem d3 : decode yB 3 = .ok (.aload_n 1, 1) := by decide +kernel
theorem d4 : decode yB 4 = .ok (.arraylength, 1) := by decide +kernel
theorem d5 : decode yB 5 = .ok (.aconst_null, 1) := by decide +kernel
theorem d6 : decode yB 6 = .ok (.invokespecial 27, 3) := by decide +kernel
theorem d9 : decode yB 9 = .ok (.return_, 1) := by decide +kernel
def site : List Cond := [New4.tab] ++ initW "java/lang/String" 27 New4.yN
def tab : Cond := tabOf yN yB 2 none site
def P (a : Addr) (D : Cell) (fV fC : Field) (b : Addr) (A : Cell) (z : Int32) (args : Array Value) (s : State) : Prop := args = #[.ref a, .ref b] ∧ Blank "java/lang/String" a D s ∧ Found "java/lang/String" "value" "[B" fV s ∧ Found "java/lang/String" "coder" "B" fC s ∧ Ch b A s ∧ StaticIs s "java/lang/String" "COMPACT_STRINGS" "Z" (.int z) ∧ ¬ z = 0 ∧ 0 < A.slots.size ∧ A.slots.size ≤ 536870912 ∧ ∀ i, i < A.slots.size → ¬ 255 < cv A i
def E (a : Addr) (D : Cell) (fV fC : Field) (A : Cell) (r : Option Value) (s u : State) : Prop := Got a D fV fC A 0 A.slots.size r s u
/-- new String(chars), not empty, no char above 255: a Latin-1 String of their low bytes -/
theorem law (l : Launch) (a : Addr) (D : Cell) (fV fC : Field) (b : Addr) (A : Cell) (z : Int32) : Law l yN 2 1 3 52 yB 2 none site (P a D fV fC b A z) (E a D fV fC A) [⟨a, fC.slot⟩, ⟨a, fV.slot⟩] 1 A.slots.size := by
  refine Law.of_walk (plainFor_of_name (by decide +kernel)) (by decide +kernel) (by decide +kernel) (by decide) (fun _ _ h => by rw [h.1]; rfl) (fun _ U U' hal hh h => ⟨h.1, h.2.1.mv hal hh, h.2.2.1.al hal, h.2.2.2.1.al hal, h.2.2.2.2.1.mv hal hh, h.2.2.2.2.2.1.there hal hh, h.2.2.2.2.2.2⟩) (fun r U U' V V' h1 hal h2 h => Got.mv r U U' V V' h1 hal h2 h) ?_
  intro p e s m args below meth c s₁ X0 hexec hbytes hml hret hlk hnm hown hh0 W hP
  obtain ⟨rfl, hB, f1, f2, hA, s1, hz, l0, l2, hp⟩ := hP
  have c1 : Steps p.tables e below (s₁.setTop (entryFrame m #[.ref a, .ref b] 2)) (s₁.setTop (mkF m 0 #[.val (.ref a), .val (.ref b)] [])) := entry rfl
  have c2 : Steps p.tables e below (s₁.setTop (entryFrame m #[.ref a, .ref b] 2)) (s₁.setTop (mkF m 6 #[.val (.ref a), .val (.ref b)] [.null, .int (Int32.ofNat A.slots.size), .int 0, .ref b, .ref a])) := c1.trans (by
    refine XS.aloadN X0.here hexec rfl (hb hbytes d0) rfl rfl ?_
    refine XS.aloadN X0.here hexec rfl (hb hbytes d1) rfl rfl ?_
    refine iconstV X0.here hexec rfl 0 (hb hbytes d2) (by decide) ?_
    refine XS.aloadN X0.here hexec rfl (hb hbytes d3) rfl rfl ?_
    refine X0.alen hexec (hA.1.mv X0.warmed.alike hh0) rfl rfl (hb hbytes d4) ?_
    refine XS.aconstNull X0.here hexec rfl (hb hbytes d5) ?_
    exact Steps.refl _)
  obtain ⟨v3, T3, X3, E3, g3⟩ := X0.callN hexec (New4.law l a D fV fC b A z 0 A.slots.size) rfl hown (wks W (initW "java/lang/String" 27 New4.yN)) (W New4.tab (by simp only [site, List.mem_cons, List.mem_append, true_or, or_true])) (W := 0) (Nat.le_of_ble_eq_true rfl) (Nat.le_of_ble_eq_true rfl) (Nat.le_refl _) (by show 0 + A.slots.size ≤ A.slots.size; omega) (g := (mkF m 6 #[.val (.ref a), .val (.ref b)] [.null, .int (Int32.ofNat A.slots.size), .int (Int32.ofNat 0), .ref b, .ref a])) rfl (by rw [hml]; rfl) c2 (argsL := [.ref b, .int (Int32.ofNat 0), .int (Int32.ofNat A.slots.size), .null]) (rest := []) rfl rfl (by show 2 * 0 + 0 ≤ _; decide) (hb hbytes d6) (⟨rfl, hB.mv X0.warmed.alike hh0, f1.al X0.warmed.alike, f2.al X0.warmed.alike, hA.mv X0.warmed.alike hh0, s1.there X0.warmed.alike hh0, hz, l0, by omega, l2, fun i hi => by rw [Nat.zero_add]; exact hp i hi⟩)
  have e0 := Got.mv _ s₁ s _ _ hh0.symm (Vm.Alike.refl _) rfl E3
  obtain rfl := e0.1
  have c4 : Steps p.tables e below (s₁.setTop (entryFrame m #[.ref a, .ref b] 2)) (T3.setTop (mkF m 9 #[.val (.ref a), .val (.ref b)] [])) := g3
  exact ⟨T3, none, _, _, _, X3, by simp, rfl, by omega, (fun _ => rfl), e0, fun fs hl => c4.trans (X3.returnOut hexec hret (hb hbytes d9) hl)⟩
theorem pays {l : Launch} {R : Room} {p : Program} {e : Env} {below : List Frame} {s : State} {sargs : Array Value} {len W : Nat} (a : Addr) (D : Cell) (fV fC : Field) (b : Addr) (A : Cell) (z : Int32) (htab : tab.before sargs s = true) (hfr : 4 ≤ R.frames) (hlo : W + 65 ≤ R.locals) :
    Back l R p e below s sargs yN len W (fun A₁ a₁ => A₁.cells + 1 ≤ R.cells ∧ A₁.slots + A.slots.size ≤ R.slots ∧ P a D fV fC b A z a₁ A₁.U) (fun A₁ _ v₁ B₁ => E a D fV fC A v₁ A₁.U B₁.U ∧ B₁.locs = A₁.locs ++ [⟨a, fC.slot⟩, ⟨a, fV.slot⟩] ∧ B₁.cells = A₁.cells + 1 ∧ B₁.slots = A₁.slots + A.slots.size) :=
  (law l a D fV fC b A z).pays htab hfr (by omega)
end New1
end StrChars
namespace StrChars.Road
open Jvm Sem ClassFile Op Lib Jvm.Stand Jvm.Free Jvm.Free.XT
open Jvm.Lib.Cold (StaticIs)
abbrev ST : String := "java/lang/String"
/-- every table word that New1's law asks, flat -/
abbrev words : List Jvm.Cond := [.code New1.yN New1.yB 2 none, .initialized ST, .methodLink ST 27 New4.yN, .instanceMethod New4.yN,
  .code New4.yN New4.yB 6 none, .fieldLink ST 38 ST "COMPACT_STRINGS" "Z", .laysFinal ST ST "value" "[B", .fieldLink ST 9 ST "value" "[B", .laysFinal ST ST "coder" "B", .fieldLink ST 15 ST "coder" "B",
  .methodLink ST 1 Lib.objectInit, .instanceMethod Lib.objectInit, .code Lib.objectInit ⟨#[0xb1]⟩ 1 none, .methodLink ST 177 Cmp3.yN, .static Cmp3.yN, .methodLink ST 47 CodL.yN, .static CodL.yN,
  .code Cmp3.yN Cmp3.yB 6 (some (.array .byte)), .initialized U16, .arrayClass .byte, .methodLink U16 115 Cmp5.yN, .static Cmp5.yN, .code Cmp5.yN Cmp5.yB 7 (some .int), .code CodL.yN CodL.yB 2 (some .byte)]
theorem tab_of {a : Array Value} {s : State} (h : ∀ w ∈ words, w.before a s = true) : New1.tab.before a s = true := by
  have h5 : Cmp5.tab.before a s = true := unparts (wk h (.code Cmp5.yN Cmp5.yB 7 (some .int))) (wks h (.initialized Cmp5.yN.cls :: Cmp5.site))
  have hc : CodL.tab.before a s = true := unparts (wk h (.code CodL.yN CodL.yB 2 (some .byte))) (wks h (.initialized CodL.yN.cls :: CodL.site))
  have q5 : ∀ w ∈ Cmp5.tab :: words, w.before a s = true := fun w hw => (List.mem_cons.mp hw).elim (fun e => e ▸ h5) (h w)
  have h3 : Cmp3.tab.before a s = true := unparts (wk q5 (.code Cmp3.yN Cmp3.yB 6 (some (.array .byte)))) (wks q5 (.initialized Cmp3.yN.cls :: Cmp3.site))
  have q3 : ∀ w ∈ Cmp3.tab :: CodL.tab :: words, w.before a s = true := fun w hw => (List.mem_cons.mp hw).elim (fun e => e ▸ h3) fun hw => (List.mem_cons.mp hw).elim (fun e => e ▸ hc) (h w)
  have h4 : New4.tab.before a s = true := unparts (wk q3 (.code New4.yN New4.yB 6 none)) (wks q3 (.initialized New4.yN.cls :: New4.site))
  have q4 : ∀ w ∈ New4.tab :: words, w.before a s = true := fun w hw => (List.mem_cons.mp hw).elim (fun e => e ▸ h4) (h w)
  exact unparts (wk q4 (.code New1.yN New1.yB 2 none)) (wks q4 (.initialized New1.yN.cls :: New1.site))
/-- the words ride from the start Z to the walk's own state -/
theorem moved {Z s : State} {a0 args : Array Value} (hZ : Z.Warmed39 s.vm) (hw : ∀ d ∈ words, d.before a0 Z = true) : ∀ d ∈ words, d.before args s = true := fun d hd => by
  have q := hw d hd
  have t : ∀ d ∈ words, d = .arrayClass .byte ∨ (d.onTables && d.keepsFace) = true := by decide +kernel
  rcases t d hd with rfl | t
  · exact RoadKit.mvA hZ q
  · exact RoadKit.mv hZ q t
/-- WHAT COMES BACK, over the tables of the start Z: h the heap at the call, h' behind it -/
def Q (Z : State) (x : Addr) (A : Cell) (h : Heap) (v : Option Value) (h' : Heap) (L : List Loc) : Prop := v = none ∧ (∀ y ∈ L, y.base = x) ∧ RoadKit.Keep h h' [x] ∧ h'.size = h.size + 1 ∧ RoadKit.Exa Z h' x ST ∧ RoadKit.Fld Z h' x ST "value" "[B" (.ref h.size) ∧ RoadKit.Fld Z h' x ST "coder" "B" (.int 0) ∧
  (∃ V : Cell, RoadKit.Arr Z h' h.size V .byte ∧ V.vm = .none ∧ Z.vm.findClass "[B" = some V.cls ∧ V.slots.size = A.slots.size ∧ ∀ j, j < A.slots.size → V.slots[j]? = some (.int (lo8 (cv A j)))) ∧
  ∀ (O n d : String) (w : Value), RoadKit.Fld Z h x O n d w → RoadKit.slotOf Z O n d ≠ RoadKit.slotOf Z ST "value" "[B" → RoadKit.slotOf Z O n d ≠ RoadKit.slotOf Z ST "coder" "B" → RoadKit.Fld Z h' x O n d w
/-- **new String(chars) AT A CALL, IN THE ROAD'S FORM**: for specialBack behind newO: x the fresh String, b the char[] with the cell A -/
theorem back {p : Program} {l : Launch} {e : Env} {R : Room} {s : State} {args : Array Value} {below : List Frame} {len W : Nat} {Z : State} {a0 : Array Value} {h : Heap} (hZ : Z.Warmed39 s.vm) (hw : ∀ d ∈ words, d.before a0 Z = true) {kI : Nat} (wi : (Jvm.Cond.instantiable ST kI).before a0 Z = true)
    {x b : Addr} {A : Cell} {z : Int32} {v0 c0 : Value} (E : RoadKit.Exa Z h x ST) (V : RoadKit.Fld Z h x ST "value" "[B" v0) (C : RoadKit.Fld Z h x ST "coder" "B" c0) (K : RoadKit.Arr Z h b A .char) (hty : Typed .char A) (S : RoadKit.Sta Z h ST "COMPACT_STRINGS" "Z" (.int z)) (hz : ¬ z = 0)
    (l0 : 0 < A.slots.size) (l2 : A.slots.size ≤ 536870912) (hp : ∀ i, i < A.slots.size → ¬ 255 < cv A i) (hfr : 4 ≤ R.frames) (hlo : W + 65 ≤ R.locals) :
    Back l R p e below s args New1.yN len W (fun P a => a = #[.ref x, .ref b] ∧ P.U.heap = h ∧ P.cells + 1 ≤ R.cells ∧ P.slots + A.slots.size ≤ R.slots)
      (fun P _ v B => ∃ L, Q Z x A h v B.U.heap L ∧ B.locs = P.locs ++ L ∧ B.cells = P.cells + 1 ∧ B.slots = P.slots + A.slots.size) := by
  intro m meth c P g ig mk a X hg hsize hdg hW hn hp'
  obtain ⟨rfl, rfl, r1, r2⟩ := hp'
  have al : Z.vm.Alike P.U.vm := hZ.alike.trans X.warmed.alike
  obtain ⟨D, cfV, kV, iV, fV, hD, gV, stV, knV, obV, asV, slV⟩ := id V
  obtain ⟨D', cfC, kC, iC, fC, hD', gC, stC, -, -, asC, slC⟩ := id C
  cases hD.symm.trans hD'
  obtain ⟨D2, kD, e1, e2, e3, e4, e5⟩ := id E
  cases hD.symm.trans e1
  obtain ⟨c2, k2, i1, i2, i3, -⟩ := Cond.instantiable_spec wi
  cases e2.symm.trans i1
  cases e3.symm.trans i2
  obtain ⟨kU, u1, u2⟩ := al.2.2 _ _ e3
  have hB : Blank ST x D P.U := ⟨hD, ⟨knV, fun q hq => by rw [hq] at obV; cases obV⟩, by rw [al.findClass]; exact e2, kU, u1, by rw [u2]; exact i3, by rw [u2]; exact e5 i3⟩
  have F1 : Found ST "value" "[B" fV P.U := ⟨SBG.found_only al ⟨cfV, kV, iV, gV⟩, stV⟩
  have F2 : Found ST "coder" "B" fC P.U := ⟨SBG.found_only al ⟨cfC, kC, iC, gC⟩, stC⟩
  have hA : Ch b A P.U := ⟨⟨K.1, State.isArrayOf_alike al K.2.1, K.2.2, by omega⟩, hty⟩
  have hS : StaticIs P.U ST "COMPACT_STRINGS" "Z" (.int z) := by
    obtain ⟨cfS, iS, kS, fS, st, cS, t1, t2, t3, t4, t5, t6, t7⟩ := S
    exact StaticIs.there (s := { Z with heap := P.U.heap }) ⟨cfS, iS, kS, fS, st, cS, t1, t2, t3, t4, t5, (fun q => by rw [q] at t6; cases t6), t7⟩ al rfl
  obtain ⟨v, B, X', ⟨⟨hv, E', V', q1, q2, q3, q4, q5, q6, q7, q8, q9, q10, q11⟩, hl, hc, hs⟩, st⟩ := New1.pays x D fV fC b A z (tab_of (moved hZ hw)) hfr hlo m meth c P g ig mk _ X hg hsize hdg hW hn ⟨r1, r2, rfl, hB, F1, F2, hA, hS, hz, l0, l2, hp⟩
  have al' : Z.vm.Alike B.U.vm := hZ.alike.trans X'.warmed.alike
  have hsz : E'.slots.size = D.slots.size := by
    obtain ⟨-, -, -, kB, w1, w2, w3⟩ := q1
    obtain ⟨kB', y1, y2⟩ := al'.2.2 _ _ e3
    rw [q2.2.1] at w1
    cases w1.symm.trans y1
    rw [w3, e5 i3, y2]
  refine ⟨v, B, X', ⟨_, ⟨hv, ?_, ⟨by omega, fun y cy hy hn' => q10 y cy (by simpa using hn') hy, fun y cy hy => ?_⟩, q11, ⟨E', _, q1.1, by rw [q2.2.1]; exact e2, by rw [q2.2.1]; exact e3, by rw [q2.1]; exact obV, fun _ => by rw [hsz]; exact e5 i3⟩,
    ⟨E', cfV, kV, iV, fV, q1.1, gV, stV, by rw [q2.1]; exact knV, by rw [q2.1]; exact obV, by rw [q2.2.1]; exact asV, q3⟩, ⟨E', cfC, kC, iC, fC, q1.1, gC, stC, by rw [q2.1]; exact knV, by rw [q2.1]; exact obV, by rw [q2.2.1]; exact asC, q4⟩,
    ⟨V', ⟨q5.1, State.isArrayOf_alike al'.symm q5.2.1, q5.2.2.1⟩, q6, by rw [← al'.findClass]; exact q7, q8, fun j hj => by have := q9 j hj; rwa [Nat.zero_add] at this⟩, fun O n d w F n1 n2 => ?_⟩, hl, hc, hs⟩, st⟩
  · intro y hy
    simp only [List.mem_cons, List.not_mem_nil, or_false] at hy
    rcases hy with rfl | rfl <;> rfl
  · by_cases q : y = x
    · subst q
      cases hD.symm.trans hy
      exact ⟨E', q1.1, q2.2.1, q2.1, hsz⟩
    · exact ⟨cy, q10 y cy q hy, rfl, rfl, rfl⟩
  · obtain ⟨D3, cf, k, i, f, g1, g2, g3, g4, g5, g6, g7⟩ := F
    cases hD.symm.trans g1
    simp only [RoadKit.slotOf, g2, gV, gC, Option.map_some, Option.getD_some] at n1 n2
    exact ⟨E', cf, k, i, f, q1.1, g2, g3, by rw [q2.1]; exact g4, by rw [q2.1]; exact g5, by rw [q2.2.1]; exact g6, by rw [q2.2.2 f.slot (by simp [n1, n2])]; exact g7⟩
end StrChars.Road
namespace StrChars.Road
open Jvm Sem ClassFile Op Lib Jvm.Stand Jvm.Free Jvm.Free.XT
/-- WHAT COMES BACK, the byte[] as a list of values -/
def QA (Z : State) (x : Addr) (zn : Int32) (cs : List Int32) (h : Heap) (v : Option Value) (h' : Heap) (L : List Loc) : Prop := v = none ∧ (∀ y ∈ L, y.base = x) ∧ RoadKit.Keep h h' [x] ∧ h'.size = h.size + 1 ∧ RoadKit.Exa Z h' x ST ∧ RoadKit.Fld Z h' x ST "value" "[B" (.ref h.size) ∧ RoadKit.Fld Z h' x ST "coder" "B" (.int 0) ∧
  (∃ kb, Z.vm.findClass "[B" = some kb ∧ RoadKit.Arv Z h' h.size kb .byte zn (cs.map fun c => .int (lo8 c)) (.int 0)) ∧
  ∀ (O n d : String) (w : Value), RoadKit.Fld Z h x O n d w → RoadKit.slotOf Z O n d ≠ RoadKit.slotOf Z ST "value" "[B" → RoadKit.slotOf Z O n d ≠ RoadKit.slotOf Z ST "coder" "B" → RoadKit.Fld Z h' x O n d w
/-- **new String(chars) AT A CALL, THE ARRAYS AS LISTS**: the char[] at b holds cs, not empty, no char above 255 -/
theorem backArv {p : Program} {l : Launch} {e : Env} {R : Room} {s : State} {args : Array Value} {below : List Frame} {len W : Nat} {Z : State} {a0 : Array Value} {h : Heap} (hZ : Z.Warmed39 s.vm) (hw : ∀ d ∈ words, d.before a0 Z = true) {kI : Nat} (wi : (Jvm.Cond.instantiable ST kI).before a0 Z = true)
    {x b : Addr} {k : ClassId} {zn z : Int32} {cs : List Int32} {dv v0 c0 : Value} (E : RoadKit.Exa Z h x ST) (V : RoadKit.Fld Z h x ST "value" "[B" v0) (C : RoadKit.Fld Z h x ST "coder" "B" c0) (K : RoadKit.Arv Z h b k .char zn (cs.map Value.int) dv) (S : RoadKit.Sta Z h ST "COMPACT_STRINGS" "Z" (.int z)) (hz : ¬ z = 0)
    (hlen : zn.toNatClampNeg = cs.length) (h0 : 0 < cs.length) (hbig : cs.length ≤ 536870912) (hall : ∀ c ∈ cs, ¬ 255 < c) (hfr : 4 ≤ R.frames) (hlo : W + 65 ≤ R.locals) :
    Back l R p e below s args New1.yN len W (fun P a => a = #[.ref x, .ref b] ∧ P.U.heap = h ∧ P.cells + 1 ≤ R.cells ∧ P.slots + cs.length ≤ R.slots)
      (fun P _ v B => ∃ L, QA Z x zn cs h v B.U.heap L ∧ B.locs = P.locs ++ L ∧ B.cells = P.cells + 1 ∧ B.slots = P.slots + cs.length) := by
  obtain ⟨A, K1, K2, K3, K4, K5, K6⟩ := K
  have e : A.slots.size = cs.length := K3.trans hlen
  have hat : ∀ (i : Nat) (hi : i < cs.length), A.slots[i]? = some (.int cs[i]) := fun i hi => by rw [K5 i (by omega)]; simp [List.getD_eq_getElem?_getD, hi]
  have hcv : ∀ (i : Nat) (hi : i < cs.length), cv A i = cs[i] := fun i hi => by unfold cv; rw [hat i hi]
  have hty : Typed .char A := fun i v hv => by
    have hi : i < A.slots.size := (Array.getElem?_eq_some_iff.mp hv).1
    have q := K5 i hi
    rw [hv] at q
    rw [Option.some.inj q]
    exact K6 i hi
  refine Back.mono (back hZ hw wi E V C K1 hty S hz (by omega) (by omega) (fun i hi => by rw [hcv i (by omega)]; exact hall _ (List.getElem_mem _)) hfr hlo) (fun P a hp => ⟨hp.1, hp.2.1, hp.2.2.1, by rw [e]; exact hp.2.2.2⟩) (fun P a v B hp hq => ?_)
  obtain ⟨L, ⟨q1, q2, q3, q4, q5, q6, q7, ⟨V', v1, v2, v3, v4, v5⟩, q9⟩, hl, hc, hs⟩ := hq
  refine ⟨L, ⟨q1, q2, q3, q4, q5, q6, q7, ⟨V'.cls, v3, V', v1, rfl, by rw [v4, e, hlen], K4, fun i hi => ?_, fun i hi => ?_⟩, q9⟩, hl, hc, by rw [hs, e]⟩
  · have hi' : i < cs.length := by omega
    rw [v5 i (by omega), hcv i hi']; simp [List.getD_eq_getElem?_getD, hi']
  · have hi' : i < cs.length := by omega
    simp only [List.getD_eq_getElem?_getD, List.getElem?_map, List.getElem?_eq_getElem hi', Option.map_some, Option.getD_some]
    exact fits_lo8 _
end StrChars.Road
namespace StrChars.Road
open Jvm Sem ClassFile Op Lib Jvm.Stand Jvm.Free Jvm.Free.XT
/-- WHAT COMES BACK, in the writer's own shape -/
def QV (Z : State) (x : Addr) (N : Int32) (bs : List Int32) (h : Heap) (n0 : Nat) (v : Option Value) (h' : Heap) (L : List Loc) : Prop := v = none ∧ RoadKit.Fr n0 L ∧ RoadKit.Keep h h' [x] ∧ RoadKit.Exa Z h' x ST ∧ RoadKit.Fld Z h' x ST "coder" "B" (.int 0) ∧
  ∃ (t : Addr) (kb : ClassId), n0 ≤ t ∧ h.size ≤ t ∧ ¬ t = x ∧ RoadKit.Fld Z h' x ST "value" "[B" (.ref t) ∧ RoadKit.Arv Z h' t kb .byte N (bs.map Value.int) (.int 0)
/-- **new String(chars) AT A CALL, FOR THE WRITER**: a char[] of n known ints, each 0 to 255 -/
theorem backV {p : Program} {l : Launch} {e : Env} {R : Room} {s : State} {args : Array Value} {below : List Frame} {len W : Nat} {Z : State} {a0 : Array Value} {h : Heap} (hZ : Z.Warmed39 s.vm) (hw : ∀ d ∈ words, d.before a0 Z = true) {kI : Nat} (wi : (Jvm.Cond.instantiable ST kI).before a0 Z = true)
    {x b : Addr} {kC : ClassId} {cs bs : List Int32} {d v0 c0 : Value} {z N : Int32} {n n0 : Nat} (hx0 : n0 ≤ x) (hh0 : n0 ≤ h.size) (E : RoadKit.Exa Z h x ST) (V : RoadKit.Fld Z h x ST "value" "[B" v0) (C : RoadKit.Fld Z h x ST "coder" "B" c0) (K : RoadKit.Arv Z h b kC .char N (cs.map Value.int) d) (S : RoadKit.Sta Z h ST "COMPACT_STRINGS" "Z" (.int z)) (hz : ¬ z = 0)
    (hn : cs.length = n) (hN : N = Int32.ofNat n) (l0 : 0 < n) (l2 : n ≤ 4000) (hp : ∀ c ∈ cs, ¬ c < 0 ∧ ¬ (255 : Int32) < c) (hb : bs = cs.map (fun c => c.toInt8.toInt32)) (hfr : 4 ≤ R.frames) (hlo : W + 65 ≤ R.locals) :
    Back l R p e below s args (⟨"java/lang/String", "<init>", "([C)V"⟩ : MethodName) len W (fun P a => a = #[.ref x, .ref b] ∧ P.U.heap = h ∧ P.cells + 1 ≤ R.cells ∧ P.slots + n ≤ R.slots)
      (fun P _ v B => ∃ L, QV Z x N bs h n0 v B.U.heap L ∧ B.locs = P.locs ++ L ∧ B.cells = P.cells + 1 ∧ B.slots = P.slots + n) := by
  subst hn hN hb
  refine Back.mono (backArv hZ hw wi E V C K S hz (n32 (by omega)) l0 (by omega) (fun c hc => (hp c hc).2) hfr hlo) (fun P a hp => hp) (fun P a v B hp hq => ?_)
  obtain ⟨L, ⟨q1, q2, q3, q4, q5, q6, q7, ⟨kb, v1, v2⟩, q9⟩, hl, hc, hs⟩ := hq
  exact ⟨L, ⟨q1, fun y hy => by rw [q2 y hy]; exact hx0, q3, q5, q7, h.size, kb, hh0, Nat.le_refl _, Nat.ne_of_gt E.lt, q6, by rw [List.map_map]; exact v2⟩, hl, hc, hs⟩
end StrChars.Road
end Jvm.Pilot.@@N@@
namespace Jvm.Pilot.@@N@@
open Jvm Jvm.ClassFile Sem Op Lib Jvm.Free Jvm.Stand Jvm.LawKit Jvm.RoadKit Bundle Jvm.Pilot.@@N@@.Jvm.D
namespace Wk
open Jvm Jvm.ClassFile Sem Op Lib Jvm.Free Jvm.Stand Jvm.LawKit Jvm.RoadKit
/-- the fixed part of a walk: program, environment, the state at the invocation, the method, its arguments, the frames below, the method's record, its code -/
abbrev Wd : Type := Program × Env × State × MethodId × Array Value × List Frame × Method × Code
abbrev Wd.p (W : Wd) : Program := W.1
abbrev Wd.e (W : Wd) : Env := W.2.1
abbrev Wd.s (W : Wd) : State := W.2.2.1
abbrev Wd.m (W : Wd) : MethodId := W.2.2.2.1
abbrev Wd.a (W : Wd) : Array Value := W.2.2.2.2.1
abbrev Wd.b (W : Wd) : List Frame := W.2.2.2.2.2.1
abbrev Wd.t (W : Wd) : Method := W.2.2.2.2.2.2.1
abbrev Wd.c (W : Wd) : Code := W.2.2.2.2.2.2.2
abbrev Post : Type := Option Value → Heap → Prop
def Go (R : Room) (Z : State) (W : Wd) (Q : Post) (A : State) : Prop :=
  ∃ s₂ o, Steps W.p.tables W.e W.b A s₂ ∧ s₂.status = .running ∧ Ended s₂ W.b o ∧ ∃ v L, o = .returned v ∧ (Q v s₂.heap ∧ Ext Z.heap s₂.heap ∧ Fr Z.heap.size L) ∧ FrameEnd W.s o s₂ L R.cells R.slots
abbrev Std (l : Launch) (R : Room) (W : Wd) (T : State) (locs : List Loc) (k n : Nat) : Prop := Stand W.p l W.e R W.s W.m W.a W.b W.t W.c T locs k n
def Run (l : Launch) (R : Room) (Z : State) (W : Wd) (Q : Post) (h : Heap) (k n : Nat) (f : JFrame) : Prop :=
  ∀ T locs, Std l R W T locs k n → T.heap = h → Fr Z.heap.size locs → Ext Z.heap h → Go R Z W Q (T.setTop f)
def Cx (Z : State) (W : Wd) (own nm : String) (code : ByteArray) (maxL : Nat) (ret : Option FieldType) : Prop :=
  W.p.tables.exec = Jvm.exec ∧ W.c.code = code ∧ W.c.maxLocals = maxL ∧ W.s.vm.findClass own = some W.m.cls ∧ Z.Warmed39 W.s.vm ∧ W.t.sig.returnType = ret ∧ W.t.name = nm ∧ W.t.locks = false ∧ W.s.vm.MethodsKnown ∧ W.s.vm.FramesKnown W.b ∧ Ext Z.heap W.s.heap
section Kit
variable {l : Launch} {R : Room} {Z : State} {W : Wd} {Q : Post} {h : Heap} {k n : Nat} {own nm : String} {code : ByteArray} {maxL : Nat} {ret : Option FieldType} {a0 : Array Value} {pc pc' : Nat} {Ls : Array Slot} {st : List Value}
theorem Cx.hx (C : Cx Z W own nm code maxL ret) : W.p.tables.exec = Jvm.exec := C.1
theorem Cx.hb (C : Cx Z W own nm code maxL ret) {pc : Nat} {r : Except ClassFile.DecodeError (ClassFile.Instr × Nat)} (h2 : decode code pc = r) : decode W.c.code pc = r := C.2.1 ▸ h2
theorem Cx.ow (C : Cx Z W own nm code maxL ret) : W.s.vm.findClass own = some W.m.cls := C.2.2.2.1
theorem Cx.hZ (C : Cx Z W own nm code maxL ret) : Z.Warmed39 W.s.vm := C.2.2.2.2.1
theorem Cx.ml (C : Cx Z W own nm code maxL ret) : W.c.maxLocals = maxL := C.2.2.1
theorem Cx.rt (C : Cx Z W own nm code maxL ret) : W.t.sig.returnType = ret := C.2.2.2.2.2.1
theorem Cx.nme (C : Cx Z W own nm code maxL ret) : W.t.name = nm := C.2.2.2.2.2.2.1
theorem Cx.lk (C : Cx Z W own nm code maxL ret) : W.t.locks = false := C.2.2.2.2.2.2.2.1
theorem Cx.tk (C : Cx Z W own nm code maxL ret) : W.s.vm.MethodsKnown := C.2.2.2.2.2.2.2.2.1
theorem Cx.fk (C : Cx Z W own nm code maxL ret) : W.s.vm.FramesKnown W.b := C.2.2.2.2.2.2.2.2.2.1
theorem Cx.e0 (C : Cx Z W own nm code maxL ret) : Ext Z.heap W.s.heap := C.2.2.2.2.2.2.2.2.2.2
theorem old_of (O : Ext Z.heap h) : Old Z Z.heap.size h := ⟨rfl, O⟩
theorem Go.step {A B : State} (f : ∀ t, Steps W.p.tables W.e W.b B t → Steps W.p.tables W.e W.b A t) (g : Go R Z W Q B) : Go R Z W Q A := by
  obtain ⟨t, o, h1, r⟩ := g
  exact ⟨t, o, f t h1, r⟩
theorem Run.one {g g' : JFrame} (f : ∀ T locs, Std l R W T locs k n → T.heap = h → ∀ t, Steps W.p.tables W.e W.b (T.setTop g') t → Steps W.p.tables W.e W.b (T.setTop g) t) (r : Run l R Z W Q h k n g') : Run l R Z W Q h k n g :=
  fun T locs X eT N O => Go.step (f T locs X eT) (r T locs X eT N O)
theorem Run.old {f : JFrame} (r : Ext Z.heap h → Run l R Z W Q h k n f) : Run l R Z W Q h k n f := fun T locs X eT N O => r O T locs X eT N O
theorem Run.grow {f : JFrame} {k' n' : Nat} (hk : k ≤ k') (hn : n ≤ n') (r : Run l R Z W Q h k' n' f) : Run l R Z W Q h k n f := fun T locs X eT N O =>
  r T locs ⟨X.admits, X.cas, X.clock, X.frames, X.room, X.hears, X.method, X.code, X.here, X.tail, X.warmed, X.limits, X.bytes, X.same.mono hk hn⟩ eT N O

theorem iloadN (C : Cx Z W own nm code maxL ret) {i : Fin 4} {v : Int32} (hd : decode code pc = .ok (.iload_n i, 1)) (hl : Ls[i.val]? = some (.val (.int v))) (hp : pc + 1 = pc')
    (r : Run l R Z W Q h k n (mkF W.m pc' Ls (.int v :: st))) : Run l R Z W Q h k n (mkF W.m pc Ls (st)) := by
  subst hp
  exact Run.one (fun T locs X _ t g => XS.iloadN X.here C.hx rfl (C.hb hd) hl g) r
theorem iload (C : Cx Z W own nm code maxL ret) {i : Nat} {v : Int32} (hd : decode code pc = .ok (.iload i, 2)) (hl : Ls[i]? = some (.val (.int v))) (hp : pc + 2 = pc')
    (r : Run l R Z W Q h k n (mkF W.m pc' Ls (.int v :: st))) : Run l R Z W Q h k n (mkF W.m pc Ls (st)) := by
  subst hp
  exact Run.one (fun T locs X _ t g => XS.iload X.here C.hx rfl (C.hb hd) hl g) r
theorem aloadN (C : Cx Z W own nm code maxL ret) {i : Fin 4} {v : Value} (hd : decode code pc = .ok (.aload_n i, 1)) (hl : Ls[i.val]? = some (.val v)) (hv : v.isRef = true) (hp : pc + 1 = pc')
    (r : Run l R Z W Q h k n (mkF W.m pc' Ls (v :: st))) : Run l R Z W Q h k n (mkF W.m pc Ls (st)) := by
  subst hp
  exact Run.one (fun T locs X _ t g => XS.aloadN X.here C.hx rfl (C.hb hd) hl hv g) r
theorem aload (C : Cx Z W own nm code maxL ret) {i : Nat} {v : Value} (hd : decode code pc = .ok (.aload i, 2)) (hl : Ls[i]? = some (.val v)) (hv : v.isRef = true) (hp : pc + 2 = pc')
    (r : Run l R Z W Q h k n (mkF W.m pc' Ls (v :: st))) : Run l R Z W Q h k n (mkF W.m pc Ls (st)) := by
  subst hp
  exact Run.one (fun T locs X _ t g => XS.aload X.here C.hx rfl (C.hb hd) hl hv g) r
theorem istoreN (C : Cx Z W own nm code maxL ret) {i : Fin 4} {v : Int32} {Ls' : Array Slot} (hd : decode code pc = .ok (.istore_n i, 1)) (hl : storeLocals Ls i.val (.int v) = some Ls') (hp : pc + 1 = pc')
    (r : Run l R Z W Q h k n (mkF W.m pc' Ls' (st))) : Run l R Z W Q h k n (mkF W.m pc Ls (.int v :: st)) := by
  subst hp
  exact Run.one (fun T locs X _ t g => XS.istoreN X.here C.hx rfl (C.hb hd) rfl hl g) r
theorem istore (C : Cx Z W own nm code maxL ret) {i : Nat} {v : Int32} {Ls' : Array Slot} (hd : decode code pc = .ok (.istore i, 2)) (hl : storeLocals Ls i (.int v) = some Ls') (hp : pc + 2 = pc')
    (r : Run l R Z W Q h k n (mkF W.m pc' Ls' (st))) : Run l R Z W Q h k n (mkF W.m pc Ls (.int v :: st)) := by
  subst hp
  exact Run.one (fun T locs X _ t g => XS.istore X.here C.hx rfl (C.hb hd) rfl hl g) r
theorem astoreN (C : Cx Z W own nm code maxL ret) {i : Fin 4} {v : Value} {Ls' : Array Slot} (hd : decode code pc = .ok (.astore_n i, 1)) (hv : v.isRef = true) (hl : storeLocals Ls i.val v = some Ls') (hp : pc + 1 = pc')
    (r : Run l R Z W Q h k n (mkF W.m pc' Ls' (st))) : Run l R Z W Q h k n (mkF W.m pc Ls (v :: st)) := by
  subst hp
  exact Run.one (fun T locs X _ t g => XS.astoreN X.here C.hx rfl (C.hb hd) rfl hv hl g) r
theorem astore (C : Cx Z W own nm code maxL ret) {i : Nat} {v : Value} {Ls' : Array Slot} (hd : decode code pc = .ok (.astore i, 2)) (hv : v.isRef = true) (hl : storeLocals Ls i v = some Ls') (hp : pc + 2 = pc')
    (r : Run l R Z W Q h k n (mkF W.m pc' Ls' (st))) : Run l R Z W Q h k n (mkF W.m pc Ls (v :: st)) := by
  subst hp
  exact Run.one (fun T locs X _ t g => XS.astore X.here C.hx rfl (C.hb hd) rfl hv hl g) r
theorem iconst (C : Cx Z W own nm code maxL ret) {i : Int} {v : Int32} (hd : decode code pc = .ok (.iconst i, 1)) (hv : Int32.ofInt i = v) (hp : pc + 1 = pc')
    (r : Run l R Z W Q h k n (mkF W.m pc' Ls (.int v :: st))) : Run l R Z W Q h k n (mkF W.m pc Ls (st)) := by
  subst hp
  exact Run.one (fun T locs X _ t g => XS.iconst X.here C.hx rfl (C.hb hd) (hv ▸ g)) r
theorem bipush (C : Cx Z W own nm code maxL ret) {i : Int} {v : Int32} (hd : decode code pc = .ok (.bipush i, 2)) (hv : (Int8.ofInt i).toInt32 = v) (hp : pc + 2 = pc')
    (r : Run l R Z W Q h k n (mkF W.m pc' Ls (.int v :: st))) : Run l R Z W Q h k n (mkF W.m pc Ls (st)) := by
  subst hp
  exact Run.one (fun T locs X _ t g => XS.bipush X.here C.hx rfl (C.hb hd) (hv ▸ g)) r
theorem sipush (C : Cx Z W own nm code maxL ret) {i : Int} {v : Int32} (hd : decode code pc = .ok (.sipush i, 3)) (hv : (Int16.ofInt i).toInt32 = v) (hp : pc + 3 = pc')
    (r : Run l R Z W Q h k n (mkF W.m pc' Ls (.int v :: st))) : Run l R Z W Q h k n (mkF W.m pc Ls (st)) := by
  subst hp
  exact Run.one (fun T locs X _ t g => XS.sipush X.here C.hx rfl (C.hb hd) (hv ▸ g)) r
theorem aconstNull (C : Cx Z W own nm code maxL ret)  (hd : decode code pc = .ok (.aconst_null, 1)) (hp : pc + 1 = pc')
    (r : Run l R Z W Q h k n (mkF W.m pc' Ls (.null :: st))) : Run l R Z W Q h k n (mkF W.m pc Ls (st)) := by
  subst hp
  exact Run.one (fun T locs X _ t g => XS.aconstNull X.here C.hx rfl (C.hb hd) g) r
theorem isub (C : Cx Z W own nm code maxL ret) {x y v : Int32} (hd : decode code pc = .ok (.isub, 1)) (hv : x - y = v) (hp : pc + 1 = pc')
    (r : Run l R Z W Q h k n (mkF W.m pc' Ls (.int v :: st))) : Run l R Z W Q h k n (mkF W.m pc Ls (.int y :: .int x :: st)) := by
  subst hp
  exact Run.one (fun T locs X _ t g => XS.isub X.here C.hx rfl (C.hb hd) rfl (hv ▸ g)) r
theorem iand (C : Cx Z W own nm code maxL ret) {x y v : Int32} (hd : decode code pc = .ok (.iand, 1)) (hv : x &&& y = v) (hp : pc + 1 = pc')
    (r : Run l R Z W Q h k n (mkF W.m pc' Ls (.int v :: st))) : Run l R Z W Q h k n (mkF W.m pc Ls (.int y :: .int x :: st)) := by
  subst hp
  exact Run.one (fun T locs X _ t g => XS.iand X.here C.hx rfl (C.hb hd) rfl (hv ▸ g)) r
theorem idiv (C : Cx Z W own nm code maxL ret) {x y v : Int32} (hd : decode code pc = .ok (.idiv, 1)) (hy : ¬ y = 0) (hv : x / y = v) (hp : pc + 1 = pc')
    (r : Run l R Z W Q h k n (mkF W.m pc' Ls (.int v :: st))) : Run l R Z W Q h k n (mkF W.m pc Ls (.int y :: .int x :: st)) := by
  subst hp
  exact Run.one (fun T locs X _ t g => XS.idiv X.here C.hx rfl (C.hb hd) rfl hy (hv ▸ g)) r
theorem irem (C : Cx Z W own nm code maxL ret) {x y v : Int32} (hd : decode code pc = .ok (.irem, 1)) (hy : ¬ y = 0) (hv : x % y = v) (hp : pc + 1 = pc')
    (r : Run l R Z W Q h k n (mkF W.m pc' Ls (.int v :: st))) : Run l R Z W Q h k n (mkF W.m pc Ls (.int y :: .int x :: st)) := by
  subst hp
  exact Run.one (fun T locs X _ t g => iremM X C.hx rfl (C.hb hd) rfl hy (hv ▸ g)) r
theorem iushr (C : Cx Z W own nm code maxL ret) {x y v : Int32} (hd : decode code pc = .ok (.iushr, 1)) (hv : (x.toUInt32 >>> (y &&& 31).toUInt32).toInt32 = v) (hp : pc + 1 = pc')
    (r : Run l R Z W Q h k n (mkF W.m pc' Ls (.int v :: st))) : Run l R Z W Q h k n (mkF W.m pc Ls (.int y :: .int x :: st)) := by
  subst hp
  exact Run.one (fun T locs X _ t g => XS.iushr X.here C.hx rfl (C.hb hd) rfl (hv ▸ g)) r
theorem i2b (C : Cx Z W own nm code maxL ret) {x : Int32} {v : Int32} (hd : decode code pc = .ok (.i2b, 1)) (hv : x.toInt8.toInt32 = v) (hp : pc + 1 = pc')
    (r : Run l R Z W Q h k n (mkF W.m pc' Ls (.int v :: st))) : Run l R Z W Q h k n (mkF W.m pc Ls (.int x :: st)) := by
  subst hp
  exact Run.one (fun T locs X _ t g => XS.i2b X.here C.hx rfl (C.hb hd) rfl (hv ▸ g)) r
theorem i2c (C : Cx Z W own nm code maxL ret) {x : Int32} {v : Int32} (hd : decode code pc = .ok (.i2c, 1)) (hv : x.toUInt32.toUInt16.toUInt32.toInt32 = v) (hp : pc + 1 = pc')
    (r : Run l R Z W Q h k n (mkF W.m pc' Ls (.int v :: st))) : Run l R Z W Q h k n (mkF W.m pc Ls (.int x :: st)) := by
  subst hp
  exact Run.one (fun T locs X _ t g => XS.i2c X.here C.hx rfl (C.hb hd) rfl (hv ▸ g)) r
theorem dup (C : Cx Z W own nm code maxL ret) {v : Value} (hd : decode code pc = .ok (.dup, 1)) (hc : v.category = 1) (hp : pc + 1 = pc')
    (r : Run l R Z W Q h k n (mkF W.m pc' Ls (v :: v :: st))) : Run l R Z W Q h k n (mkF W.m pc Ls (v :: st)) := by
  subst hp
  exact Run.one (fun T locs X _ t g => XS.dup X.here C.hx rfl (C.hb hd) rfl hc g) r
theorem pop (C : Cx Z W own nm code maxL ret) {v : Value} (hd : decode code pc = .ok (.pop, 1)) (hc : v.category = 1) (hp : pc + 1 = pc')
    (r : Run l R Z W Q h k n (mkF W.m pc' Ls (st))) : Run l R Z W Q h k n (mkF W.m pc Ls (v :: st)) := by
  subst hp
  exact Run.one (fun T locs X _ t g => XS.pop X.here C.hx rfl (C.hb hd) rfl hc g) r
theorem iinc (C : Cx Z W own nm code maxL ret) {i : Nat} {d : Int} {x v : Int32} {Ls' : Array Slot} (hd : decode code pc = .ok (.iinc i d, 3)) (hl : Ls[i]? = some (.val (.int x))) (hv : x + Int32.ofInt d = v) (hl' : storeLocals Ls i (.int v) = some Ls') (hp : pc + 3 = pc')
    (r : Run l R Z W Q h k n (mkF W.m pc' Ls' st)) : Run l R Z W Q h k n (mkF W.m pc Ls st) := by
  subst hp hv
  exact Run.one (fun T locs X _ t g => XS.iinc X.here C.hx rfl (C.hb hd) hl hl' g) r
theorem goto (C : Cx Z W own nm code maxL ret) {o : Int} (hd : decode code pc = .ok (.goto o, 3)) (ho : 0 ≤ (pc : Int) + o) (hp : ((pc : Int) + o).toNat = pc')
    (r : Run l R Z W Q h k n (mkF W.m pc' Ls st)) : Run l R Z W Q h k n (mkF W.m pc Ls st) :=
  Run.one (fun T locs X _ t g => XS.goto X.here C.hx rfl rfl (C.hb hd) ho hp g) r
theorem icmp_eq (C : Cx Z W own nm code maxL ret) {x y : Int32} {o : Int} {pcT : Nat} (hd : decode code pc = .ok (.if_icmp .eq o, 3)) (ho : 0 ≤ (pc : Int) + o) (hp : ((pc : Int) + o).toNat = pcT) (hp' : pc + 3 = pc')
    (rt : x = y → Run l R Z W Q h k n (mkF W.m pcT Ls st)) (rf : ¬ x = y → Run l R Z W Q h k n (mkF W.m pc' Ls st)) : Run l R Z W Q h k n (mkF W.m pc Ls (.int y :: .int x :: st)) := by
  subst hp'
  by_cases q : x = y
  · exact Run.one (fun T locs X _ t g => XS.icmpYes X.here C.hx rfl rfl (C.hb hd) rfl (teq q).1 ho hp g) (rt q)
  · exact Run.one (fun T locs X _ t g => XS.icmpNo X.here C.hx rfl (C.hb hd) rfl (feq q).1 g) (rf q)
theorem if_eq (C : Cx Z W own nm code maxL ret) {x : Int32} {o : Int} {pcT : Nat} (hd : decode code pc = .ok (.ifCond .eq o, 3)) (ho : 0 ≤ (pc : Int) + o) (hp : ((pc : Int) + o).toNat = pcT) (hp' : pc + 3 = pc')
    (rt : x = (0 : Int32) → Run l R Z W Q h k n (mkF W.m pcT Ls st)) (rf : ¬ x = (0 : Int32) → Run l R Z W Q h k n (mkF W.m pc' Ls st)) : Run l R Z W Q h k n (mkF W.m pc Ls (.int x :: st)) := by
  subst hp'
  by_cases q : x = (0 : Int32)
  · exact Run.one (fun T locs X _ t g => XS.ifYes X.here C.hx rfl rfl (C.hb hd) rfl ((if0 _ _).trans (teq q).1) ho hp g) (rt q)
  · exact Run.one (fun T locs X _ t g => XS.ifNo X.here C.hx rfl (C.hb hd) rfl ((if0 _ _).trans (feq q).1) g) (rf q)
theorem icmp_ne (C : Cx Z W own nm code maxL ret) {x y : Int32} {o : Int} {pcT : Nat} (hd : decode code pc = .ok (.if_icmp .ne o, 3)) (ho : 0 ≤ (pc : Int) + o) (hp : ((pc : Int) + o).toNat = pcT) (hp' : pc + 3 = pc')
    (rt : ¬ x = y → Run l R Z W Q h k n (mkF W.m pcT Ls st)) (rf : x = y → Run l R Z W Q h k n (mkF W.m pc' Ls st)) : Run l R Z W Q h k n (mkF W.m pc Ls (.int y :: .int x :: st)) := by
  subst hp'
  by_cases q : x = y
  · exact Run.one (fun T locs X _ t g => XS.icmpNo X.here C.hx rfl (C.hb hd) rfl (teq q).2 g) (rf q)
  · exact Run.one (fun T locs X _ t g => XS.icmpYes X.here C.hx rfl rfl (C.hb hd) rfl (feq q).2 ho hp g) (rt q)
theorem if_ne (C : Cx Z W own nm code maxL ret) {x : Int32} {o : Int} {pcT : Nat} (hd : decode code pc = .ok (.ifCond .ne o, 3)) (ho : 0 ≤ (pc : Int) + o) (hp : ((pc : Int) + o).toNat = pcT) (hp' : pc + 3 = pc')
    (rt : ¬ x = (0 : Int32) → Run l R Z W Q h k n (mkF W.m pcT Ls st)) (rf : x = (0 : Int32) → Run l R Z W Q h k n (mkF W.m pc' Ls st)) : Run l R Z W Q h k n (mkF W.m pc Ls (.int x :: st)) := by
  subst hp'
  by_cases q : x = (0 : Int32)
  · exact Run.one (fun T locs X _ t g => XS.ifNo X.here C.hx rfl (C.hb hd) rfl ((if0 _ _).trans (teq q).2) g) (rf q)
  · exact Run.one (fun T locs X _ t g => XS.ifYes X.here C.hx rfl rfl (C.hb hd) rfl ((if0 _ _).trans (feq q).2) ho hp g) (rt q)
theorem icmp_gt (C : Cx Z W own nm code maxL ret) {x y : Int32} {o : Int} {pcT : Nat} (hd : decode code pc = .ok (.if_icmp .gt o, 3)) (ho : 0 ≤ (pc : Int) + o) (hp : ((pc : Int) + o).toNat = pcT) (hp' : pc + 3 = pc')
    (rt : y < x → Run l R Z W Q h k n (mkF W.m pcT Ls st)) (rf : ¬ y < x → Run l R Z W Q h k n (mkF W.m pc' Ls st)) : Run l R Z W Q h k n (mkF W.m pc Ls (.int y :: .int x :: st)) := by
  subst hp'
  by_cases q : y < x
  · exact Run.one (fun T locs X _ t g => XS.icmpYes X.here C.hx rfl rfl (C.hb hd) rfl (tlt q).2.2.1 ho hp g) (rt q)
  · exact Run.one (fun T locs X _ t g => XS.icmpNo X.here C.hx rfl (C.hb hd) rfl (flt q).2.2.1 g) (rf q)
theorem ifnonnullY (C : Cx Z W own nm code maxL ret) {o : Int} {b : Addr} (hd : decode code pc = .ok (.ifnonnull o, 3)) (ho : 0 ≤ (pc : Int) + o) (hp : ((pc : Int) + o).toNat = pc') (r : Run l R Z W Q h k n (mkF W.m pc' Ls st)) : Run l R Z W Q h k n (mkF W.m pc Ls (.ref b :: st)) :=
  Run.one (fun T locs X _ t g => XS.ifnonnullYes X.here C.hx rfl rfl (C.hb hd) rfl ho hp g) r
theorem ifnonnullN (C : Cx Z W own nm code maxL ret) {o : Int} (hd : decode code pc = .ok (.ifnonnull o, 3)) (hp : pc + 3 = pc') (r : Run l R Z W Q h k n (mkF W.m pc' Ls st)) : Run l R Z W Q h k n (mkF W.m pc Ls (.null :: st)) := by
  subst hp
  exact Run.one (fun T locs X _ t g => XS.ifnonnullNo X.here C.hx rfl (C.hb hd) rfl g) r
theorem Run.via {g g' : JFrame} (f : ∀ T locs, Std l R W T locs k n → T.heap = h → ∃ T', Std l R W T' locs k n ∧ T'.heap = h ∧ ∀ t, Steps W.p.tables W.e W.b (T'.setTop g') t → Steps W.p.tables W.e W.b (T.setTop g) t) (r : Run l R Z W Q h k n g') : Run l R Z W Q h k n g :=
  fun T locs X eT N O => by
    obtain ⟨T', X', e', s'⟩ := f T locs X eT
    exact Go.step s' (r T' locs X' e' N O)
theorem getF (C : Cx Z W own nm code maxL ret) {R0 O nmF d : String} {ix : Nat} (hd : decode code pc = .ok (.getfield ix, 3)) (w : (Cond.fieldLink own ix R0 nmF d).before a0 Z = true) (via : Via Z R0 O nmF d) {a : Addr} {v : Value} (F : Fld Z h a O nmF d v) (hp : pc + 3 = pc')
    (r : Run l R Z W Q h k n (mkF W.m pc' Ls (v :: st))) : Run l R Z W Q h k n (mkF W.m pc Ls (.ref a :: st)) := by
  subst hp
  exact Run.via (fun T locs X eT => RoadKit.getF X C.hx C.hZ C.ow (host := "") (Or.inl w) via eT F (g := mkF W.m pc Ls (.ref a :: st)) rfl rfl (C.hb hd)) r
theorem getS (C : Cx Z W own nm code maxL ret) {R0 O nmF d : String} {ix : Nat} (hd : decode code pc = .ok (.getstatic ix, 3)) (w : (Cond.fieldLink own ix R0 nmF d).before a0 Z = true) (via : Via Z R0 O nmF d) {v : Value} (F : Sta Z h O nmF d v) (hp : pc + 3 = pc')
    (r : Run l R Z W Q h k n (mkF W.m pc' Ls (v :: st))) : Run l R Z W Q h k n (mkF W.m pc Ls st) := by
  subst hp
  exact Run.via (fun T locs X eT => getS2 X C.hx C.hZ C.ow (host := "") (Or.inl w) via eT F (g := mkF W.m pc Ls st) rfl (C.hb hd)) r
/-- an array as a list: its kind, its length, its elements -/
def Ary (Z : State) (h : Heap) (a : Addr) (ty : FieldType) (vs : List Value) : Prop := ∃ c : Cell, Arr Z h a c ty ∧ c.slots = vs.toArray ∧ vs.length < 2 ^ 31 ∧ ∀ v ∈ vs, fits ty v = true
theorem Ary.lt {a : Addr} {ty : FieldType} {vs : List Value} (F : Ary Z h a ty vs) : a < h.size := by obtain ⟨c, A, -⟩ := F; exact A.lt
theorem Ary.ext {h' : Heap} {a : Addr} {ty : FieldType} {vs : List Value} (F : Ary Z h a ty vs) (E : Ext h h') : Ary Z h' a ty vs := by obtain ⟨c, A, r⟩ := F; exact ⟨c, A.ext E, r⟩
theorem Ary.other {h' : Heap} {a b : Addr} {sl : Nat} {v : Value} {ty : FieldType} {vs : List Value} (F : Ary Z h b ty vs) (X : Wr h h' a sl v) (q : b ≠ a) : Ary Z h' b ty vs := by obtain ⟨c, A, r⟩ := F; exact ⟨c, A.other X q, r⟩
theorem Ary.keep {h' : Heap} {a : Addr} {ws : List Addr} {ty : FieldType} {vs : List Value} (F : Ary Z h a ty vs) (K : Keep h h' ws) (q : a ∉ ws) : Ary Z h' a ty vs := by obtain ⟨c, A, r⟩ := F; exact ⟨c, ⟨K.2.1 a c A.1 q, A.2⟩, r⟩
theorem Ary.set {h' : Heap} {a : Addr} {i : Nat} {v : Value} {ty : FieldType} {vs : List Value} (F : Ary Z h a ty vs) (X : Wr h h' a i v) (hv : fits ty v = true) : Ary Z h' a ty (vs.set i v) := by
  obtain ⟨c, A, e, q, f⟩ := F
  refine ⟨_, A.same X, ?_, by simpa using q, fun w hw => ?_⟩
  · show (c.slots.setIfInBounds i v) = _
    rw [e]; simp
  · rcases List.mem_or_eq_of_mem_set hw with hw | rfl
    · exact f w hw
    · exact hv
theorem Ary.inb {a : Addr} {ty : FieldType} {vs : List Value} {c : Cell} {j : Int32} (e : c.slots = vs.toArray) (h0 : ¬ j < 0) (h1 : j.toNatClampNeg < vs.length) : ¬ (j < 0 ∨ c.slots.size ≤ j.toNatClampNeg) := by
  rw [e]
  rintro (q | q)
  · exact h0 q
  · simp at q; omega
theorem Ary.arv {a : Addr} {ty : FieldType} {vs : List Value} {d : Value} (F : Ary Z h a ty vs) : ∃ kc, Arv Z h a kc ty (Int32.ofNat vs.length) vs d := by
  obtain ⟨c, A, e, q, f⟩ := F
  have hn : (Int32.ofNat vs.length).toNatClampNeg = vs.length := by
    rw [Int32.toNatClampNeg_ofNat_of_lt q]
  refine ⟨c.cls, c, A, rfl, by rw [hn, e]; simp, ?_, fun i hi => ?_, fun i hi => ?_⟩
  · rw [Int32.lt_iff_toInt_lt, Int32.toInt_ofNat_of_lt q]; simp
  · have hi' : i < vs.length := by rw [e] at hi; simpa using hi
    rw [e]; simp [List.getD_eq_getElem?_getD, hi']
  · have hi' : i < vs.length := by rw [e] at hi; simpa using hi
    have := f _ (List.getElem_mem hi')
    simpa [List.getD_eq_getElem?_getD, hi'] using this
theorem Ary.of_arv {a : Addr} {kc : ClassId} {ty : FieldType} {z : Int32} {vs : List Value} {d : Value} (F : Arv Z h a kc ty z vs d) (hz : z.toNatClampNeg = vs.length) : Ary Z h a ty vs := by
  obtain ⟨c, A, -, S, z0, H, G⟩ := F
  have hs : c.slots.size = vs.length := S.trans hz
  refine ⟨c, A, ?_, by rw [← hz]; exact (back32 z0).2, fun v hv => ?_⟩
  · apply Array.ext
    · simpa using hs
    · intro i h1 h2
      have q := H i h1
      rw [Array.getElem?_eq_getElem h1] at q
      have h3 : i < vs.length := by omega
      simpa [List.getD_eq_getElem?_getD, h3] using q
  · obtain ⟨i, hi, rfl⟩ := List.getElem_of_mem hv
    have := G i (by omega)
    simpa [List.getD_eq_getElem?_getD, hi] using this
theorem alen (C : Cx Z W own nm code maxL ret) (hd : decode code pc = .ok (.arraylength, 1)) {a : Addr} {ty : FieldType} {vs : List Value} {z : Int32} (F : Ary Z h a ty vs) (hz : Int32.ofNat vs.length = z) (hp : pc + 1 = pc')
    (r : Run l R Z W Q h k n (mkF W.m pc' Ls (.int z :: st))) : Run l R Z W Q h k n (mkF W.m pc Ls (.ref a :: st)) := by
  subst hp hz
  obtain ⟨c, A, e, -⟩ := F
  have e2 : c.slots.size.toInt32 = Int32.ofNat vs.length := by rw [e]; simp
  exact Run.one (fun T locs X eT t g => X.arraylength C.hx (by rw [eT]; exact A.1) (State.isArrayOf_alike C.hZ.alike A.2.1) (g := mkF W.m pc Ls (.ref a :: st)) rfl rfl (C.hb hd) t (by rw [e2]; exact g)) r
theorem caload (C : Cx Z W own nm code maxL ret) (hd : decode code pc = .ok (.caload, 1)) {a : Addr} {vs : List Value} {j : Int32} {v : Value} (F : Ary Z h a .char vs) (h0 : ¬ j < 0) (hv : vs[j.toNatClampNeg]? = some v) (hp : pc + 1 = pc')
    (r : Run l R Z W Q h k n (mkF W.m pc' Ls (v :: st))) : Run l R Z W Q h k n (mkF W.m pc Ls (.int j :: .ref a :: st)) := by
  subst hp
  obtain ⟨c, A, e, -⟩ := F
  have h1 : j.toNatClampNeg < vs.length := (List.getElem?_eq_some_iff.mp hv).1
  exact Run.one (fun T locs X eT t g => X.caload C.hx (by rw [eT]; exact A.1) (State.isArrayOf_alike C.hZ.alike A.2.1) A.2.2 (Ary.inb (a := a) (ty := .char) e h0 h1) (by rw [e]; simpa using hv) (g := mkF W.m pc Ls (.int j :: .ref a :: st)) rfl rfl (C.hb hd) t g) r
theorem Run.wrote {a : Addr} {sl : Nat} {v : Value} {g g' : JFrame} (ha : Z.heap.size ≤ a) (f : ∀ T locs, Std l R W T locs k n → T.heap = h → ∃ T' h', Std l R W T' (locs ++ [⟨a, sl⟩]) k n ∧ T'.heap = h' ∧ Wr h h' a sl v ∧ ∀ t, Steps W.p.tables W.e W.b (T'.setTop g') t → Steps W.p.tables W.e W.b (T.setTop g) t)
    (r : ∀ h', Wr h h' a sl v → Ext Z.heap h' → Run l R Z W Q h' k n g') : Run l R Z W Q h k n g := fun T locs X eT N O => by
  obtain ⟨T', h', X', e', w', s'⟩ := f T locs X eT
  have O' : Ext Z.heap h' := ((old_of O).wr w' ha).2
  exact Go.step s' (r h' w' O' T' _ X' e' (Fr.snoc X' N ha) O')
theorem putF (C : Cx Z W own nm code maxL ret) {R0 O nmF d K : String} {ix kk : Nat} {ty : FieldType} (hd : decode code pc = .ok (.putfield ix, 3)) (w : (Cond.fieldLink own ix R0 nmF d).before a0 Z = true) (via : Via Z R0 O nmF d) {a : Addr} {v old : Value} (F : Fld Z h a O nmF d old) (E : Exa Z h a K)
    (L : (Cond.lays K O nmF d).before a0 Z = true ∨ ((Cond.laysFinal K O nmF d).before a0 Z = true ∧ own = O ∧ nm = "<init>")) (wi : (Cond.instantiable K kk).before a0 Z = true) (hty : parseFieldDescriptor d = some ty) (hn : narrow ty v = v) (hf : fits ty v = true) (ha : Z.heap.size ≤ a) (hp : pc + 3 = pc')
    (r : ∀ h', Wr h h' a (RoadKit.slotOf Z O nmF d) v → Ext Z.heap h' → Run l R Z W Q h' k n (mkF W.m pc' Ls st)) : Run l R Z W Q h k n (mkF W.m pc Ls (v :: .ref a :: st)) := by
  subst hp
  exact Run.wrote ha (fun T locs X eT => RoadKit.putF X C.hx C.hZ C.ow (host := "") (Or.inl w) via eT F E (L.imp id fun q => ⟨q.1, q.2.1, C.nme.trans q.2.2⟩) wi hty hn hf (g := mkF W.m pc Ls (v :: .ref a :: st)) rfl rfl (C.hb hd)) r
theorem castore (C : Cx Z W own nm code maxL ret) (hd : decode code pc = .ok (.castore, 1)) {a : Addr} {vs vs' : List Value} {j x : Int32} (F : Ary Z h a .char vs) (h0 : ¬ j < 0) (h1 : j.toNatClampNeg < vs.length) (hx : nar .char x = x) (hs : vs.set j.toNatClampNeg (.int x) = vs') (ha : Z.heap.size ≤ a) (hp : pc + 1 = pc')
    (r : ∀ h', Wr h h' a j.toNatClampNeg (.int x) → Ary Z h' a .char vs' → Ext Z.heap h' → Run l R Z W Q h' k n (mkF W.m pc' Ls st)) : Run l R Z W Q h k n (mkF W.m pc Ls (.int x :: .int j :: .ref a :: st)) := by
  subst hp hs
  have F' := F
  obtain ⟨c, A, e, -⟩ := F'
  exact Run.wrote ha (fun T locs X eT => by have w0 := RoadKit.stC X C.hx C.hZ eT A (Ary.inb (a := a) (ty := .char) e h0 h1) (g := mkF W.m pc Ls (.int x :: .int j :: .ref a :: st)) rfl rfl (C.hb hd); rw [hx] at w0; exact w0) (fun h' w' O' => r h' w' (F.set w' (hx ▸ fits_nar_char x)) O')
theorem bastore (C : Cx Z W own nm code maxL ret) (hd : decode code pc = .ok (.bastore, 1)) {a : Addr} {vs vs' : List Value} {j x : Int32} (F : Ary Z h a .byte vs) (h0 : ¬ j < 0) (h1 : j.toNatClampNeg < vs.length) (hs : vs.set j.toNatClampNeg (.int (nar .byte x)) = vs') (ha : Z.heap.size ≤ a) (hp : pc + 1 = pc')
    (r : ∀ h', Wr h h' a j.toNatClampNeg (.int (nar .byte x)) → Ary Z h' a .byte vs' → Ext Z.heap h' → Run l R Z W Q h' k n (mkF W.m pc' Ls st)) : Run l R Z W Q h k n (mkF W.m pc Ls (.int x :: .int j :: .ref a :: st)) := by
  subst hp hs
  have F' := F
  obtain ⟨c, A, e, -⟩ := F'
  exact Run.wrote ha (fun T locs X eT => by have w0 := RoadKit.stB X C.hx C.hZ eT A (Ary.inb (a := a) (ty := .byte) e h0 h1) (g := mkF W.m pc Ls (.int x :: .int j :: .ref a :: st)) rfl rfl (C.hb hd); exact w0) (fun h' w' O' => r h' w' (F.set w' (fits_nar_byte x)) O')
/-- what a fresh object holds -/
abbrev Fresh (Z : State) (a0 : Array Value) (h' : Heap) (a : Addr) (K : String) : Prop := ∀ {O nm d : String} {ty : FieldType}, Laid Z a0 K O nm d → parseFieldDescriptor d = some ty → Fld Z h' a O nm d (defaultValue ty)
theorem newO (C : Cx Z W own nm code maxL ret) {K : String} {ix sl k' n' : Nat} (hd : decode code pc = .ok (.new ix, 3)) (w : (Cond.classLink own ix K).before a0 Z = true) (wi : (Cond.instantiable K sl).before a0 Z = true) (wz : (Cond.initialized K).before a0 Z = true) (hc : k + 1 = k') (hl : n + sl = n') (hc' : k' ≤ R.cells) (hl' : n' ≤ R.slots) (hp : pc + 3 = pc')
    (r : ∀ a h', a = h.size → Z.heap.size ≤ a → Ext h h' → Exa Z h' a K → Fresh Z a0 h' a K → Unt h' a → Ext Z.heap h' → Run l R Z W Q h' k' n' (mkF W.m pc' Ls (.ref a :: st))) : Run l R Z W Q h k n (mkF W.m pc Ls st) := by
  subst hp hc hl
  intro T locs X eT N O
  obtain ⟨T', h', X', e', E', A', D', U', s'⟩ := RoadKit.newO X C.hx C.hZ C.ow w wi wz eT (g := mkF W.m pc Ls st) rfl (C.hb hd) hc' hl'
  have O' : Ext Z.heap h' := ((old_of O).ext E').2
  exact Go.step s' (r h.size h' rfl O.1 E' A' D' U' O' T' locs X' e' N O')
theorem newA (C : Cx Z W own nm code maxL ret) {aty : ArrayType} {ty : FieldType} {z : Int32} {k' n' cap : Nat} (hd : decode code pc = .ok (.newarray aty, 2)) (ht : newarray.typeOf aty = ty) (w : (Cond.arrayClass ty).before a0 Z = true) (hz : ¬ z < 0) (hcap : z.toNatClampNeg ≤ cap) (hb : cap * 8 ≤ 536870912) (hc : k + 1 = k') (hl : n + cap = n') (hc' : k' ≤ R.cells) (hl' : n' ≤ R.slots) (hdf : fits ty (defaultValue ty) = true) (hp : pc + 2 = pc')
    (r : ∀ a h', a = h.size → Z.heap.size ≤ a → Ext h h' → Ary Z h' a ty (List.replicate z.toNatClampNeg (defaultValue ty)) → Ext Z.heap h' → Run l R Z W Q h' k' n' (mkF W.m pc' Ls (.ref a :: st))) : Run l R Z W Q h k n (mkF W.m pc Ls (.int z :: st)) := by
  subst hp hc hl ht
  intro T locs X eT N O
  obtain ⟨T', h', cA, X', e', E', A', s'⟩ := newP X C.hx C.hZ w eT (g := mkF W.m pc Ls (.int z :: st)) rfl (C.hb hd) rfl hz hcap hb hc' hl'
  have O' : Ext Z.heap h' := ((old_of O).ext E').2
  have hz2 : z.toNatClampNeg < 2 ^ 31 := (back32 hz).2
  refine Go.step s' (r h.size h' rfl O.1 E' ⟨_, A', ?_, by simpa using hz2, fun v hv => ?_⟩ O' T' locs X' e' N O')
  · show Array.replicate _ _ = _
    simp
  · rw [(List.mem_replicate.mp hv).2]; exact hdf
/-- an array of references to K: its class -/
def RefA (Z : State) (h : Heap) (a : Addr) (K : String) : Prop := ∃ cl : Cell, h[a]? = some cl ∧ Ovr Z cl.cls K
theorem RefA.ext {h' : Heap} {a : Addr} {K : String} (F : RefA Z h a K) (E : Ext h h') : RefA Z h' a K := by
  obtain ⟨cl, h1, r⟩ := F
  exact ⟨cl, E.2 _ _ h1, r⟩
theorem RefA.wr {h' : Heap} {a b : Addr} {K : String} {sl : Nat} {v : Value} (F : RefA Z h a K) (W : Wr h h' b sl v) : RefA Z h' a K := by
  obtain ⟨cl, h1, r⟩ := F
  obtain ⟨d, d1, d2, -⟩ := wr_at W h1
  exact ⟨d, d1, by rw [d2]; exact r⟩
theorem initO (C : Cx Z W own nm code maxL ret) {ix Wn : Nat} (hd : decode code pc = .ok (.invokespecial ix, 3)) (w1 : (Cond.methodLink own ix Lib.objectInit).before a0 Z = true) (w2 : (Cond.instanceMethod Lib.objectInit).before a0 Z = true) (w3 : (Cond.code Lib.objectInit ⟨#[0xb1]⟩ 1 none).before a0 Z = true) {a : Addr} (hsz : Ls.size = maxL) (hf : 1 ≤ R.frames) (hW : (st.map fun v => v.category).sum ≤ Wn) (hl : Wn + 12 ≤ R.locals) (hp : pc + 3 = pc')
    (r : Run l R Z W Q h k n (mkF W.m pc' Ls st)) : Run l R Z W Q h k n (mkF W.m pc Ls (.ref a :: st)) := by
  subst hp
  exact Run.via (fun T locs X eT => RoadKit.initO X C.hx C.hZ C.ow w1 w2 w3 eT (g := mkF W.m pc Ls (.ref a :: st)) rfl (hsz.trans C.ml.symm) rfl (C.hb hd) hf (W := Wn) (by show 2 * 0 + _ ≤ _; omega) hl) r
/-! ## contracts and calls -/
/-- the method y, called with these arguments at the heap h0, returns with Q -/
def Con (l : Launch) (Z : State) (y : MethodName) (bytes : ByteArray) (maxL : Nat) (ret : Option FieldType) (rm : Room) (as' : Array Value) (h0 : Heap) (Q : Post) : Prop :=
  ∀ ws, MetFree l y (head1 (Jvm.Cond.code y bytes maxL ret :: ws) rm) (fun a U => a = as' ∧ Z.Warmed39 U.vm ∧ U.heap = h0) (fun _ _ bl s _ => s.vm.MethodsKnown ∧ s.vm.FramesKnown bl) (fun _ U o U' => ∃ v L, o = .returned v ∧ (Q v U'.heap ∧ Ext Z.heap U'.heap ∧ Fr Z.heap.size L) ∧ FrameEnd U o U' L rm.cells rm.slots)
theorem Con.intro {y : MethodName} {bytes : ByteArray} {rm : Room} {as' : Array Value} {Ls0 : Array Slot} (hy : plainFor y = true) (O : Ext Z.heap h) (he : ∀ m, entryFrame m as' maxL = mkF m 0 Ls0 [])
    (body : ∀ W : Wd, Cx Z W y.cls y.name bytes maxL ret → Run l rm Z W Q h 0 0 (mkF W.m 0 Ls0 [])) : Con l Z y bytes maxL ret rm as' h Q := by
  intro ws
  refine MetFree.of_bodySF hy hisR ?_
  intro p e s m args below meth c s₁ Bd hml0 hP hK
  obtain ⟨rfl, hZ, hh⟩ := hP
  have e0 : s₁.heap = h := by rw [← hh, Bd.state]; rfl
  have X0 : Stand p l e rm s m args below meth c s₁ [] 0 0 := Stand.of_body Bd
  have r := body (p, e, s, m, args, below, meth, c) ⟨Bd.exec, Bd.bytes, hml0, findClass_of_methodNamed Bd.named, hZ, Bd.returns, (name_of_methodNamed Bd.named Bd.method).1, Bd.notSynchronized, hK.1, hK.2, by rw [show (s : State).heap = h from hh]; exact O⟩ s₁ [] X0 e0 (Fr.nil _) O
  rw [he m]
  exact r
theorem Con.mono {y : MethodName} {bytes : ByteArray} {rm : Room} {as' : Array Value} {Q' : Post} (c : Con l Z y bytes maxL ret rm as' h Q) (f : ∀ v h', Q v h' → Q' v h') : Con l Z y bytes maxL ret rm as' h Q' := by
  intro ws p e ha hc hk s m args below hf happ hP hK
  obtain ⟨n, o, h1, h2, h3, v, L, h4, ⟨h5, h6⟩, h7⟩ := c ws p e ha hc hk s m args below hf happ hP hK
  exact ⟨n, o, h1, h2, h3, v, L, h4, ⟨f _ _ h5, h6⟩, h7⟩
section Calls
variable {y : MethodName} {bytes : ByteArray} {mxL : Nat} {rt : Option FieldType} {rm : Room} {Qc : Post} {argsL : List Value} {as' : Array Value} {ix Wn k' n' kc nc : Nat} {st' : List Value}
/-- a law of the library, or a contract, as a call takes it -/
abbrev Pays (l : Launch) (R : Room) (W : Wd) (y : MethodName) (ln Wn : Nat) (as' : Array Value) (h : Heap) (kc nc : Nat) (Qv : Option Value → Heap → List Loc → Prop) : Prop :=
  Back l R W.p W.e W.b W.s W.a y ln Wn (fun P a => a = as' ∧ P.U.heap = h ∧ P.cells + kc ≤ R.cells ∧ P.slots + nc ≤ R.slots) (fun P _ v B => ∃ L, Qv v B.U.heap L ∧ B.locs = P.locs ++ L ∧ B.cells = P.cells + kc ∧ B.slots = P.slots + nc)
abbrev Clean (Z : State) (Qc : Post) (Qv : Option Value → Heap → List Loc → Prop) : Prop := ∀ v h' L, Qv v h' L → Qc v h' ∧ Ext Z.heap h' ∧ Fr Z.heap.size L
theorem Con.pays (C : Cx Z W own nm code maxL ret) {ln : Nat} (K : Con l Z y bytes mxL rt rm as' h Qc) (w4 : (Cond.code y bytes mxL rt).before a0 Z = true) (wz : (Cond.initialized y.cls).before a0 Z = true) (hf : rm.frames + 1 ≤ R.frames) (hl : Wn + (mxL + 11) + rm.locals ≤ R.locals) :
    Pays l R W y ln Wn as' h rm.cells rm.slots (fun v h' L => Qc v h' ∧ Ext Z.heap h' ∧ Fr Z.heap.size L) := backOfKL (W := Wn) (Q := fun v h' L => Qc v h' ∧ Ext Z.heap h' ∧ Fr Z.heap.size L) (K []) C.hZ w4 wz hf hl C.tk C.fk
theorem callS (C : Cx Z W own nm code maxL ret) (hd : decode code pc = .ok (.invokestatic ix, 3)) {Qv : Option Value → Heap → List Loc → Prop} (K : Pays l R W y 3 Wn as' h kc nc Qv) (hQ : Clean Z Qc Qv) (w1 : (Cond.methodLink own ix y).before a0 Z = true) (w2 : (Cond.static y).before a0 Z = true) (w3 : (Cond.initialized y.cls).before a0 Z = true) (w4 : (Cond.code y bytes mxL rt).before a0 Z = true) (hy : y.cls ≠ "java/lang/invoke/MethodHandle" ∧ y.cls ≠ "java/lang/invoke/VarHandle")
    (has : argsL.toArray = as') (hst : argsL.reverse ++ st = st') (hlen : ∀ sig, parseMethodDescriptor y.desc = some sig → argsL.length = sig.parameters.length) (hsz : Ls.size = maxL) (hW : (st.map fun v => v.category).sum ≤ Wn) (hk : k + kc = k') (hn : n + nc = n') (hk' : k' ≤ R.cells) (hn' : n' ≤ R.slots) (hp : pc + 3 = pc')
    (r : ∀ v h', Qc v h' → Ext Z.heap h' → Run l R Z W Q h' k' n' (mkF W.m pc' Ls (v.toList ++ st))) : Run l R Z W Q h k n (mkF W.m pc Ls st') := by
  subst hp hk hn has hst
  intro T locs X eT N O
  obtain ⟨v, vm₁, ⟨T', L', k', n'⟩, -, X', ⟨L, q0, l1, y1, z1⟩, s'⟩ := Jvm.LawKit.callS X C.hx (y := y) C.ow (mvT C.hZ w1) (mvT C.hZ w2) (mvT C.hZ w3) (mvT C.hZ w4) hy K (g := mkF W.m pc Ls (argsL.reverse ++ st)) rfl (hsz.trans C.ml.symm) (argsL := argsL) (rest := st) hlen rfl (by show 2 * 0 + _ ≤ _; omega) (C.hb hd) (fun _ _ => ⟨rfl, eT, hk', hn'⟩)
  dsimp only [Pt.U, Pt.locs, Pt.cells, Pt.slots] at X' l1 y1 z1 s' q0
  subst l1 y1 z1
  obtain ⟨q1, q2, q3⟩ := hQ _ _ _ q0
  exact Go.step s' (r v T'.heap q1 q2 T' _ X' rfl (N.app q3) q2)
theorem callI (C : Cx Z W own nm code maxL ret) (hd : decode code pc = .ok (.invokespecial ix, 3)) {a : Addr} {Qv : Option Value → Heap → List Loc → Prop} (K : Pays l R W y 3 Wn as' h kc nc Qv) (hQ : Clean Z Qc Qv) (hi : y.name = "<init>") (w1 : (Cond.methodLink own ix y).before a0 Z = true) (w2 : (Cond.instanceMethod y).before a0 Z = true) (w4 : (Cond.code y bytes mxL none).before a0 Z = true) (hy : y.cls ≠ "java/lang/invoke/MethodHandle" ∧ y.cls ≠ "java/lang/invoke/VarHandle")
    (has : (Value.ref a :: argsL).toArray = as') (hst : argsL.reverse ++ .ref a :: st = st') (hlen : ∀ sig, parseMethodDescriptor y.desc = some sig → argsL.length = sig.parameters.length) (hsz : Ls.size = maxL) (hW : (st.map fun v => v.category).sum ≤ Wn) (hk : k + kc = k') (hn : n + nc = n') (hk' : k' ≤ R.cells) (hn' : n' ≤ R.slots) (hp : pc + 3 = pc')
    (r : ∀ v h', Qc v h' → Ext Z.heap h' → Run l R Z W Q h' k' n' (mkF W.m pc' Ls (v.toList ++ st))) : Run l R Z W Q h k n (mkF W.m pc Ls st') := by
  subst hp hk hn has hst
  intro T locs X eT N O
  obtain ⟨v, vm₁, ⟨T', L', k', n'⟩, -, X', ⟨L, q0, l1, y1, z1⟩, s'⟩ := X.specialBack C.hx (y := y) hi C.ow (mvT C.hZ w1) (mvT C.hZ w2) (mvT C.hZ w4) hy K (g := mkF W.m pc Ls (argsL.reverse ++ .ref a :: st)) rfl (hsz.trans C.ml.symm) (Steps.refl _) (a := a) (argsL := argsL) (rest := st) hlen rfl (by show 2 * 0 + _ ≤ _; omega) (C.hb hd) (fun _ _ => ⟨rfl, eT, hk', hn'⟩)
  dsimp only [Pt.U, Pt.locs, Pt.cells, Pt.slots] at X' l1 y1 z1 s' q0
  subst l1 y1 z1
  obtain ⟨q1, q2, q3⟩ := hQ _ _ _ q0
  exact Go.step (fun t => s'.trans) (r v T'.heap q1 q2 T' _ X' rfl (N.app q3) q2)
theorem callV (C : Cx Z W own nm code maxL ret) (hd : decode code pc = .ok (.invokevirtual ix, 3)) {y0 : MethodName} {K0 : String} {a : Addr} {Qv : Option Value → Heap → List Loc → Prop} (K : Pays l R W y 3 Wn as' h kc nc Qv) (hQ : Clean Z Qc Qv) (E : Exa Z h a K0) (w1 : (Cond.methodLink own ix y0).before a0 Z = true) (w2 : (Cond.declares y0).before a0 Z = true) (nf : NotFace W.s y0) (w3 : (Cond.selects K0 y0 y).before a0 Z = true) (w5 : (Cond.instanceMethod y).before a0 Z = true) (hy : y0.cls ≠ "java/lang/invoke/MethodHandle" ∧ y0.cls ≠ "java/lang/invoke/VarHandle")
    (has : (Value.ref a :: argsL).toArray = as') (hst : argsL.reverse ++ .ref a :: st = st') (hlen : ∀ sig, parseMethodDescriptor y0.desc = some sig → argsL.length = sig.parameters.length) (hsz : Ls.size = maxL) (hW : (st.map fun v => v.category).sum ≤ Wn) (hk : k + kc = k') (hn : n + nc = n') (hk' : k' ≤ R.cells) (hn' : n' ≤ R.slots) (hp : pc + 3 = pc')
    (r : ∀ v h', Qc v h' → Ext Z.heap h' → Run l R Z W Q h' k' n' (mkF W.m pc' Ls (v.toList ++ st))) : Run l R Z W Q h k n (mkF W.m pc Ls st') := by
  subst hp hk hn has hst
  intro T locs X eT N O
  obtain ⟨cq, kq, qa, qb, qc⟩ := isOf C.hZ eT E
  obtain ⟨v, vm₁, ⟨T', L', k', n'⟩, -, X', ⟨L, q0, l1, y1, z1⟩, s'⟩ := X.virtualBack C.hx (y := y0) (z := y) C.ow (mvT C.hZ w1) (mvT C.hZ w2) nf (mvT C.hZ w3) (mvT C.hZ w5) hy K qa qc (g := mkF W.m pc Ls (argsL.reverse ++ .ref a :: st)) rfl (hsz.trans C.ml.symm) (Steps.refl _) (argsL := argsL) (rest := st) hlen rfl (by show 2 * 0 + _ ≤ _; omega) (C.hb hd) (fun _ _ => ⟨rfl, eT, hk', hn'⟩)
  dsimp only [Pt.U, Pt.locs, Pt.cells, Pt.slots] at X' l1 y1 z1 s' q0
  subst l1 y1 z1
  obtain ⟨q1, q2, q3⟩ := hQ _ _ _ q0
  exact Go.step (fun t => s'.trans) (r v T'.heap q1 q2 T' _ X' rfl (N.app q3) q2)
theorem cleanC {Qc : Post} : Clean Z Qc (fun v h' L => Qc v h' ∧ Ext Z.heap h' ∧ Fr Z.heap.size L) := fun v h' L q => q
end Calls
theorem Ext.refl (h : Heap) : Ext h h := ⟨Nat.le_refl _, fun _ _ q => q⟩
theorem Ext.trans {h1 h2 h3 : Heap} (A : Ext h1 h2) (B : Ext h2 h3) : Ext h1 h3 := ⟨Nat.le_trans A.1 B.1, fun a c q => B.2 a c (A.2 a c q)⟩
theorem Ext.wr {Z : State} {h1 h2 h3 : Heap} {a : Addr} {sl : Nat} {v : Value} (A : Ext h1 h2) (B : Wr h2 h3 a sl v) (q : h1.size ≤ a) : Ext h1 h3 := ((old_of (Z := { Z with heap := h1 }) A).wr B q).2
theorem Ext.keep1 {Z : State} {h1 h2 h3 : Heap} {a : Addr} (A : Ext h1 h2) (B : Keep h2 h3 [a]) (q : h1.size ≤ a) : Ext h1 h3 := ((old_of (Z := { Z with heap := h1 }) A).keep B (allS q all0)).2
/-! ## the call of fillInStackTrace() -/
abbrev supW : Cond := .lays Jvm.Bundle.tN Jvm.Bundle.tN "suppressedExceptions" Jvm.Bundle.listD
theorem untWr {a b : Addr} {sl : Nat} {v : Value} {h1 h2 : Heap} (U : Unt h1 a) (w : Wr h1 h2 b sl v) : Unt h2 a := by
  obtain ⟨c0, w1, w2, w3, rfl⟩ := w
  obtain ⟨c, u1, u2, u3⟩ := U
  by_cases e : b = a
  · subst e
    cases u1.symm.trans w1
    exact ⟨_, Array.getElem?_setIfInBounds_self_of_lt (Array.getElem?_eq_some_iff.mp u1).1, u2, u3⟩
  · exact ⟨c, by rw [Array.getElem?_setIfInBounds_ne e]; exact u1, u2, u3⟩
theorem fldOf {h1 h2 : Heap} {a : Addr} {K O nF dF : String} {sl : Nat} {ws : List Addr} (U : Unt h1 a) (Kp : Keep h1 h2 ws) (E : Exa Z h2 a K) (wi : (Cond.instantiable K sl).before a0 Z = true) (Lf : Laid Z a0 K O nF dF) : ∃ v, Fld Z h2 a O nF dF v := by
  obtain ⟨c0, u1, u2, -⟩ := U
  obtain ⟨c', q1, -, q3, -⟩ := Kp.2.2 _ _ u1
  exact fld_laid E ⟨c', q1, by rw [q3, u2]; simp⟩ wi Lf
set_option maxHeartbeats 4000000 in
theorem links {s : State} {args : Array Value} {pl : Platform} {rc : String} (hrc : rc ≠ Jvm.Bundle.tN) (howns : pl.frameOwnsMonitors = true) (hfin : pl.finalization = false) (hpl : pl.magicAccessors = ({} : Platform).magicAccessors)
    (ws : ∀ w : Cond, w ∈ Jvm.Free.Exc.excAtoms rc → w ≠ supW → w.holds args s none s [] = true) :
    ∃ T : ThrowableC, T.Links pl s ∧ s.vm.findClass Jvm.Bundle.tN = some T.cT ∧ s.methodNamed? Jvm.Bundle.tFill = some T.fill ∧ s.methodNamed? Jvm.Bundle.tFill0 = some T.fill0 ∧
      s.fieldFound? Jvm.Bundle.tN "stackTrace" Jvm.Bundle.steD = some (T.cT, T.kT, T.i17, T.fStack) ∧ s.fieldFound? Jvm.Bundle.tN "UNASSIGNED_STACK" Jvm.Bundle.steD = some (T.cT, T.kT, T.i13, T.fUnassigned) ∧ T.fStack.type = .array (.object "java/lang/StackTraceElement") := by
  obtain ⟨⟨cT, jN⟩, mN, nN, aN, nat, cod, lck, sgN⟩ := Cond.native_spec (ws (.native Jvm.Bundle.tFill0) (by simp [Jvm.Free.Exc.excAtoms, Jvm.Bundle.throwableAtoms]) (by simp [supW]))
  have fT : s.vm.findClass Jvm.Bundle.tN = some cT := findClass_of_methodNamed nN
  obtain ⟨kT, atT, nameT⟩ := Vm.findClass_spec fT
  have bootT := Vm.findClass_boot fT atT
  have initT := Cond.initialized_spec fT atT (ws (.initialized Jvm.Bundle.tN) (by simp [Jvm.Free.Exc.excAtoms, Jvm.Bundle.throwableAtoms]) (by simp [supW]))
  obtain ⟨-, kS, -, -, atS, -, -, -, -, faceT⟩ := Cond.superclass_spec fT (ws (.superclass Jvm.Bundle.tN "java/lang/Object") (by simp [Jvm.Free.Exc.excAtoms, Jvm.Bundle.throwableAtoms]) (by simp [supW]))
  cases Option.some.inj (atT.symm.trans atS)
  obtain ⟨jF, mF, nF, aF, inF, stF, abF, -, -⟩ := Cond.ownMethod (x := Jvm.Bundle.tFill) fT atT (ws (.instanceMethod Jvm.Bundle.tFill) (by simp [Jvm.Free.Exc.excAtoms, Jvm.Bundle.throwableAtoms]) (by simp [supW]))
  obtain ⟨mF', kF, aF', cF, bF, lF, rF, yF, -, gF⟩ := Cond.codeSync_spec nF (ws (.codeSync Jvm.Bundle.tFill LibCode.Throwable.Fill.code 1 (some (.object Jvm.Bundle.tN))) (by simp [Jvm.Free.Exc.excAtoms, Jvm.Bundle.throwableAtoms]) (by simp [supW]))
  cases Option.some.inj (aF.symm.trans aF')
  obtain ⟨jN', mN', nN', aN', inN, stN, abN, nmN, dsN⟩ := Cond.ownMethod (x := Jvm.Bundle.tFill0) fT atT (ws (.instanceMethod Jvm.Bundle.tFill0) (by simp [Jvm.Free.Exc.excAtoms, Jvm.Bundle.throwableAtoms]) (by simp [supW]))
  cases Option.some.inj (nN.symm.trans nN')
  cases Option.some.inj (aN.symm.trans aN')
  obtain ⟨jI, mI, nI, aI, inI, -, -, -, -⟩ := Cond.ownMethod (x := Jvm.Bundle.tInit0) fT atT (ws (.instanceMethod Jvm.Bundle.tInit0) (by simp [Jvm.Free.Exc.excAtoms, Jvm.Bundle.throwableAtoms]) (by simp [supW]))
  obtain ⟨mI', kI, aI', cI, bI, lI, -, yI, -, -⟩ := Cond.code_spec nI (ws (.code Jvm.Bundle.tInit0 LibCode.Throwable.Init0.code 1 none) (by simp [Jvm.Free.Exc.excAtoms, Jvm.Bundle.throwableAtoms]) (by simp [supW]))
  cases Option.some.inj (aI.symm.trans aI')
  obtain ⟨mO, hO, nO, aO, stO, abO⟩ := Cond.instanceMethod_spec (ws (.instanceMethod Jvm.Bundle.oInit) (by simp [Jvm.Free.Exc.excAtoms, Jvm.Bundle.throwableAtoms]) (by simp [supW]))
  obtain ⟨hO', kO, aO', cO, bO, lO, -, yO, -, gO⟩ := Cond.code_spec nO (ws (.code Jvm.Bundle.oInit ⟨#[0xb1]⟩ 1 none) (by simp [Jvm.Free.Exc.excAtoms, Jvm.Bundle.throwableAtoms]) (by simp [supW]))
  cases Option.some.inj (aO.symm.trans aO')
  obtain ⟨jO, atO, nameO⟩ := Vm.findClass_spec (findClass_of_methodNamed nO)
  obtain ⟨nmO, dsO⟩ := name_of_methodNamed nO aO
  obtain ⟨c1, e1, cf0, l1, r1, fl0, p1⟩ := Cond.linkedMethod fT atT nO (ws (.methodLink Jvm.Bundle.tN 1 Jvm.Bundle.oInit) (by simp [Jvm.Free.Exc.excAtoms, Jvm.Bundle.throwableAtoms]) (by simp [supW])) pl hpl
  obtain ⟨c27, e27, cf1, l27, r27, fl1, p27⟩ := Cond.linkedMethod fT atT nF (ws (.methodLink Jvm.Bundle.tN 27 Jvm.Bundle.tFill) (by simp [Jvm.Free.Exc.excAtoms, Jvm.Bundle.throwableAtoms]) (by simp [supW])) pl hpl
  cases Option.some.inj (fl0.symm.trans fl1)
  obtain ⟨c202, e202, cf2, l202, r202, fl2, p202⟩ := Cond.linkedMethod fT atT nN (ws (.methodLink Jvm.Bundle.tN 202 Jvm.Bundle.tFill0) (by simp [Jvm.Free.Exc.excAtoms, Jvm.Bundle.throwableAtoms]) (by simp [supW])) pl hpl
  cases Option.some.inj (fl0.symm.trans fl2)
  obtain ⟨d7, j7, f7, q7, g7, o7, s7, w7, m7, y7, z7⟩ := Cond.ownField (t := .object Jvm.Bundle.tN) fT atT (by decide +kernel) (ws (.fieldLink Jvm.Bundle.tN 7 Jvm.Bundle.tN "cause" "Ljava/lang/Throwable;") (by simp [Jvm.Free.Exc.excAtoms, Jvm.Bundle.throwableAtoms]) (by simp [supW])) (ws (.lays Jvm.Bundle.tN Jvm.Bundle.tN "cause" "Ljava/lang/Throwable;") (by simp [Jvm.Free.Exc.excAtoms, Jvm.Bundle.throwableAtoms]) (by simp [supW])) pl hpl
  obtain ⟨d17, j17, f17, q17, g17, o17, s17, w17, m17, y17, z17⟩ := Cond.ownField (t := .array (.object "java/lang/StackTraceElement")) fT atT (by decide +kernel) (ws (.fieldLink Jvm.Bundle.tN 17 Jvm.Bundle.tN "stackTrace" Jvm.Bundle.steD) (by simp [Jvm.Free.Exc.excAtoms, Jvm.Bundle.throwableAtoms]) (by simp [supW])) (ws (.lays Jvm.Bundle.tN Jvm.Bundle.tN "stackTrace" Jvm.Bundle.steD) (by simp [Jvm.Free.Exc.excAtoms, Jvm.Bundle.throwableAtoms]) (by simp [supW])) pl hpl
  obtain ⟨d24, j24, f24, q24, g24, o24, s24, w24, m24, y24, z24⟩ := Cond.ownField (t := .object "java/util/List") fT atT (by decide +kernel) (ws (.fieldLink Jvm.Bundle.tN 24 Jvm.Bundle.tN "suppressedExceptions" Jvm.Bundle.listD) (by simp [Jvm.Free.Exc.excAtoms, Jvm.Bundle.throwableAtoms]) (by simp [supW])) (ws (.lays rc Jvm.Bundle.tN "suppressedExceptions" Jvm.Bundle.listD) (by simp [Jvm.Free.Exc.excAtoms, Jvm.Bundle.throwableAtoms]) (by simp [supW, hrc])) pl hpl
  obtain ⟨d13, j13, f13, aS13, cS13, q13, g13, o13, s13, -, -, t13, -, -, -, -, z13⟩ := Cond.ownStatic (t := .array (.object "java/lang/StackTraceElement")) fT atT (by decide +kernel) (ws (.fieldLink Jvm.Bundle.tN 13 Jvm.Bundle.tN "UNASSIGNED_STACK" Jvm.Bundle.steD) (by simp [Jvm.Free.Exc.excAtoms, Jvm.Bundle.throwableAtoms]) (by simp [supW])) (ws (.laysStatic Jvm.Bundle.tN "UNASSIGNED_STACK" Jvm.Bundle.steD) (by simp [Jvm.Free.Exc.excAtoms, Jvm.Bundle.throwableAtoms]) (by simp [supW])) pl hpl
  obtain ⟨d20, j20, f20, aS20, cS20, q20, g20, o20, s20, -, -, t20, -, -, -, -, z20⟩ := Cond.ownStatic (t := .object "java/util/List") fT atT (by decide +kernel) (ws (.fieldLink Jvm.Bundle.tN 20 Jvm.Bundle.tN "SUPPRESSED_SENTINEL" Jvm.Bundle.listD) (by simp [Jvm.Free.Exc.excAtoms, Jvm.Bundle.throwableAtoms]) (by simp [supW])) (ws (.laysStatic Jvm.Bundle.tN "SUPPRESSED_SENTINEL" Jvm.Bundle.listD) (by simp [Jvm.Free.Exc.excAtoms, Jvm.Bundle.throwableAtoms]) (by simp [supW])) pl hpl
  obtain ⟨-, -, cM, kM, jM, fM, -, -, zM, sM, wM, -⟩ := Cond.lays_spec (ws (.lays Jvm.Bundle.tN Jvm.Bundle.tN "detailMessage" "Ljava/lang/String;") (by simp [Jvm.Free.Exc.excAtoms, Jvm.Bundle.throwableAtoms]) (by simp [supW]))
  obtain ⟨cR, kR, -, -, -, -, fR, atR, -⟩ := Cond.lays_spec (ws (.lays rc Jvm.Bundle.tN "suppressedExceptions" Jvm.Bundle.listD) (by simp [Jvm.Free.Exc.excAtoms, Jvm.Bundle.throwableAtoms]) (by simp [supW, hrc]))
  obtain ⟨-, dA, eA, nA⟩ := Cond.laysAt fR atR z17 (ws (.lays rc Jvm.Bundle.tN "stackTrace" Jvm.Bundle.steD) (by simp [Jvm.Free.Exc.excAtoms, Jvm.Bundle.throwableAtoms]) (by simp [supW, hrc]))
  obtain ⟨-, dB, eB, nB⟩ := Cond.laysAt fR atR z24 (ws (.lays rc Jvm.Bundle.tN "suppressedExceptions" Jvm.Bundle.listD) (by simp [Jvm.Free.Exc.excAtoms, Jvm.Bundle.throwableAtoms]) (by simp [supW, hrc]))
  have apart : f17.slot ≠ f24.slot := Cond.laysApart eA eB nA nB (by rw [m17, m24]; decide)
  have pF : mF.sig.parameters = [] := by
    have q : (parseMethodDescriptor (Jvm.Bundle.tFill).desc).map (·.parameters) = some [] := by decide +kernel
    rw [gF] at q; simpa using q
  have pN : mN.sig.parameters = [.int] := by
    have q : (parseMethodDescriptor (Jvm.Bundle.tFill0).desc).map (·.parameters) = some [.int] := by decide +kernel
    rw [sgN] at q; simpa using q
  have pO : hO.sig.parameters.length = 0 := by
    have q : (parseMethodDescriptor (Jvm.Bundle.oInit).desc).map (·.parameters) = some [] := by decide +kernel
    rw [gO] at q
    have q2 : hO.sig.parameters = [] := by simpa using q
    rw [q2]; rfl
  exact ⟨{ cT := cT, kT := kT, cO := cT, aS := aS13, fillIdx := jF, fill0Idx := jN, initSIdx := jI, obj := mO, kObj := jO, methFill := mF, methFill0 := mN, methInitS := mI, methObj := hO, codeFill := kF, codeInitS := kI, codeObj := kO, fBack := f7, fDepth := f7, fStack := f17, fCause := f7, fSupp := f24, fMsg := fM, fUnassigned := f13, fSentinel := f20, cfT := cf0, ci1 := c1, n1 := e1, ci27 := c27, n27 := e27, ci202 := c202, n202 := e202, ci7 := d7, i7 := j7, ci13 := d13, i13 := j13, ci17 := d17, i17 := j17, ci20 := d20, i20 := j20, ci24 := d24, i24 := j24 }, { owns := howns, noFinalization := hfin, cls := atT, name := nameT, boot := bootT, notInterface := faceT, initialized := initT, statics := t13, fillAt := inF, fillCode := cF, fillBytes := bF, fillLocals := lF, fillLocks := yF, fillStatic := stF, fillAbstract := abF, fillReturns := rF, fillParams := pF, fill0At := inN, fill0Name := nmN, fill0Desc := dsN, fill0Params := pN, fill0Static := stN, fill0Native := nat, fill0Code := cod, fill0Locks := lck, fill0Abstract := abN, stackInstance := s17, stackNotFinal := w17, unassignedStatic := s13, objClass := atO, objClassName := nameO, objMethod := aO, objName := nmO, objStatic := stO, objAbstract := abO, objFound := by rw [dsO]; exact lookupSpecial_of_named nO aO stO, objParams := pO, objCode := cO, objBytes := bO, objLocks := yO, causeInstance := s7, causeNotFinal := w7, sentinelStatic := s20, suppInstance := s24, suppNotFinal := w24, msgInstance := sM, msgNotFinal := wM, stackApartSupp := apart, file := fl0, mlink1 := l1, mright1 := r1, pool1 := p1, mlink27 := l27, mright27 := r27, pool27 := p27, mlink202 := l202, mright202 := r202, pool202 := p202, link7 := q7, right7 := g7, at7 := o7, link13 := q13, right13 := g13, at13 := o13, link17 := q17, right17 := g17, at17 := o17, link20 := q20, right20 := g20, at20 := o20, link24 := q24, right24 := g24, at24 := o24 }, fT, nF, nN, z17, z13, y17⟩
set_option maxHeartbeats 4000000 in
theorem fillP (C : Cx Z W own nm code maxL ret) (hl : l.stackTraces = true) {rc : String} {sl Wn : Nat} (hrc : rc ≠ Jvm.Bundle.tN) (hw : ∀ w : Cond, w ∈ Jvm.Free.Exc.excAtoms rc → w ≠ supW → w.before a0 Z = true) (wi : (Cond.instantiable rc sl).before a0 Z = true)
    {a u : Addr} (ha : Z.heap.size ≤ a) (E : Exa Z h a rc) (U : Unt h a) (B : Fld Z h a "java/lang/Throwable" "backtrace" "Ljava/lang/Object;" .null) (S : Fld Z h a "java/lang/Throwable" "stackTrace" "[Ljava/lang/StackTraceElement;" (.ref u)) (SU : Sta Z Z.heap "java/lang/Throwable" "UNASSIGNED_STACK" "[Ljava/lang/StackTraceElement;" (.ref u)) (O : Ext Z.heap h)
    (hf : 3 ≤ R.frames) (hlo : Wn + 42 ≤ R.locals) :
    Pays l R W Jvm.Bundle.tFill 3 Wn #[.ref a] h 1 2752 (fun v h' L => (v = some (.ref a) ∧ Keep h h' [a]) ∧ Ext Z.heap h' ∧ Fr Z.heap.size L) := by
  intro m meth c P g ig mk as X hg hsize hdg hWd hmk hPre
  obtain ⟨p1, p2, p3, p4⟩ := hPre
  have htr : W.e.platform.stackTraces = true := by rw [X.admits.platform]; exact hl
  have howns : W.e.platform.frameOwnsMonitors = true := by rw [X.admits.platform]
  have hfin : W.e.platform.finalization = false := by rw [X.admits.platform]
  have hpl : W.e.platform.magicAccessors = ({} : Platform).magicAccessors := by rw [X.admits.platform]
  have hal : Z.vm.Alike W.s.vm := C.hZ.alike
  have ws : ∀ w : Cond, w ∈ Jvm.Free.Exc.excAtoms rc → w ≠ supW → w.holds W.a W.s none W.s [] = true := fun w hm hn => mvX (ThS.ext C.e0 ThS.start) C.hZ (List.all_eq_true.mp exc_ok w hm) (hw w hm hn)
  obtain ⟨T, L, yT, yF, yN, yS, yU, tS⟩ := links hrc howns hfin hpl ws
  obtain ⟨cell, kc, h1, h2, h3, -, h5⟩ := E
  obtain ⟨c2, u1, u2, u3⟩ := U
  cases h1.symm.trans u1
  obtain ⟨c4, k2, i1, i2, i3, -⟩ := Cond.instantiable_spec wi
  cases h2.symm.trans i1
  cases h3.symm.trans i2
  obtain ⟨kX, q1, q2⟩ := hal.2.2 _ _ h3
  have fX : W.s.vm.findClass rc = some cell.cls := by rw [hal.findClass]; exact h2
  have oX : kX.kind = .ordinary := by rw [q2]; exact i3
  have zX : cell.slots.size = kX.instanceTypes.size := by rw [q2]; exact h5 i3
  have sel : selectMethod W.e.platform W.s.vm cell.cls T.fill0 = .method T.fill0 := by
    obtain ⟨c5, r5, m5, x1, x2, x3, x4, -⟩ := Cond.selects_spec (ws (.selects rc Jvm.Bundle.tFill0 Jvm.Bundle.tFill0) (by simp [Jvm.Free.Exc.excAtoms, Jvm.Bundle.throwableAtoms]) (by simp [supW]))
    cases Option.some.inj (x1.symm.trans fX)
    cases Option.some.inj (x2.symm.trans (State.methodFound?_of_named yN (by decide)))
    cases Option.some.inj (x3.symm.trans yN)
    rw [Launch.admits_selectMethod X.admits]; exact x4
  obtain ⟨cf, i, k', f, stA, cellS, s1, s2, s3, s4, s5, s6, s7⟩ := SU
  obtain ⟨k6, v1, v2⟩ := State.fieldFound?_setVm hal s1
  cases v1.symm.trans yU
  have aS : T.aS = stA := by
    have q := L.statics
    rw [v2] at q
    exact Option.some.inj (q.symm.trans s4)
  have hS : h[T.aS]? = some cellS := by rw [aS]; exact O.2 _ _ s5
  have neS : T.aS ≠ a := fun e => by
    rw [e] at hS
    cases h1.symm.trans hS
    rw [u2] at s6; cases s6
  have knS : cellS.vm ≠ .unknown := fun e => by rw [e] at s6; cases s6
  obtain ⟨c7, cf7, k7, i7, f7, b1, b2, -, -, -, -, b7⟩ := S
  cases h1.symm.trans b1
  obtain ⟨k8, v3, -⟩ := State.fieldFound?_setVm hal b2
  cases v3.symm.trans yS
  obtain ⟨d198, j198, fB, q198, g198, o198, sB, -, nB, tB, zB⟩ := Cond.ownField (t := .object "java/lang/Object") yT L.cls (by decide +kernel) (ws (.fieldLink Jvm.Bundle.tN 198 Jvm.Bundle.tN "backtrace" Jvm.Free.Exc.obD) (by simp [Jvm.Free.Exc.excAtoms, Jvm.Bundle.throwableAtoms]) (by simp [supW])) (ws (.lays Jvm.Bundle.tN Jvm.Bundle.tN "backtrace" Jvm.Free.Exc.obD) (by simp [Jvm.Free.Exc.excAtoms, Jvm.Bundle.throwableAtoms]) (by simp [supW])) W.e.platform hpl
  obtain ⟨c9, cf9, k9, i9, f9, e1, e2, -, -, -, -, e7⟩ := B
  cases h1.symm.trans e1
  obtain ⟨k10, v4, -⟩ := State.fieldFound?_setVm hal e2
  cases v4.symm.trans zB
  obtain ⟨-, -, cD, kD, iD, fD, -, -, zD, sD, -⟩ := Cond.lays_spec (ws (.lays rc Jvm.Bundle.tN "depth" "I") (by simp [Jvm.Free.Exc.excAtoms, Jvm.Bundle.throwableAtoms]) (by simp [supW, hrc]))
  cases Option.some.inj ((Cond.lays_declared (ws (.lays rc Jvm.Bundle.tN "depth" "I") (by simp [Jvm.Free.Exc.excAtoms, Jvm.Bundle.throwableAtoms]) (by simp [supW, hrc])) zD).symm.trans yT)
  obtain ⟨aD, oD⟩ := State.fieldFound?_spec zD
  cases Option.some.inj (aD.symm.trans L.cls)
  obtain ⟨nD, tD⟩ := State.fieldFound?_type zD (t := .int) (by decide +kernel)
  have hfb := Cond.soleField_find yT L.cls (ws (.soleField Jvm.Bundle.tN "backtrace") (by simp [Jvm.Free.Exc.excAtoms, Jvm.Bundle.throwableAtoms]) (by simp [supW])) o198 nB sB
  have hfd := Cond.soleField_find yT L.cls (ws (.soleField Jvm.Bundle.tN "depth") (by simp [Jvm.Free.Exc.excAtoms, Jvm.Bundle.throwableAtoms]) (by simp [supW])) oD nD sD
  obtain ⟨comp, cO, kO, -, -, aO, kO', fO⟩ := Cond.arrayOver_spec (args := W.a) (s := W.s) (ws (.arrayOver (.object "java/lang/Object")) (by simp [Jvm.Free.Exc.excAtoms, Jvm.Bundle.throwableAtoms]) (by simp [supW]))
  obtain ⟨lS, -⟩ := Cond.laysAt fX q1 yS (ws (.lays rc Jvm.Bundle.tN "stackTrace" Jvm.Bundle.steD) (by simp [Jvm.Free.Exc.excAtoms, Jvm.Bundle.throwableAtoms]) (by simp [supW, hrc]))
  obtain ⟨lB, -⟩ := Cond.laysAt fX q1 zB (ws (.lays rc Jvm.Bundle.tN "backtrace" Jvm.Free.Exc.obD) (by simp [Jvm.Free.Exc.excAtoms, Jvm.Bundle.throwableAtoms]) (by simp [supW, hrc]))
  obtain ⟨lD, -⟩ := Cond.laysAt fX q1 zD (ws (.lays rc Jvm.Bundle.tN "depth" "I") (by simp [Jvm.Free.Exc.excAtoms, Jvm.Bundle.throwableAtoms]) (by simp [supW, hrc]))
  have tk : ∀ {f : Field} {v : Value}, kX.instanceTypes[f.slot]? = some f.type → fits f.type v = true → Takes W.s cell f v := fun {f v} x1 x2 => by
    obtain ⟨y1, y2⟩ := Takes.of_laid (v := v) q1 oX x1 x2
    exact ⟨by rw [zX]; simpa using y1, by rw [u2]; exact y2⟩
  have K := Jvm.Free.Str.fillPays (l := l) (R := R) (len := 3) (W := Wn) (sargs := W.a) C.hx htr T L yF (u0 := ⟨.ref u, rfl⟩) (fun e => nomatch e) (self := a) (cell := cell) (cellS := cellS) (fun k e => by rw [u2] at e; cases e) (by rw [u2]; simp) (by rw [u3]) (by rw [u3]) b7 sel neS knS s7
    (tk lS (by rw [tS]; rfl)) ⟨⟨d198, j198, fB⟩, ⟨q198, g198, o198, sB⟩, e7⟩ C.tk C.fk yT fO aO kO' hfb hfd (fun x => tk lB (by rw [tB]; rfl)) (fun x => tk lD (by rw [tD]; rfl)) (by omega) hlo
  obtain ⟨v, ⟨U', L', ck, cs⟩, X', ⟨hv, vm', lines, hln, -, hU, hL, hk, hn⟩, sts⟩ := K m meth c P g ig mk as X hg hsize hdg hWd hmk ⟨p1, p3, p4, by rw [p2]; exact h1, by rw [p2]; exact hS⟩
  dsimp only [Pt.U, Pt.locs, Pt.cells, Pt.slots] at X' hU hL hk hn sts
  have hh : U'.heap = (h.push (traceHolder cO lines)).setIfInBounds a (Jvm.Free.Str.filledOn T.toThrowableT fB fD cell ⟨.ref u, rfl⟩ P.U.heap.size lines.length.toInt32) := by rw [hU, ← p2]; rfl
  have lt : a < h.size := (Array.getElem?_eq_some_iff.mp h1).1
  have oth : ∀ (x : Addr) (cx : Cell), h[x]? = some cx → a ≠ x → U'.heap[x]? = some cx := fun x cx q ne => by
    have lx : x < h.size := (Array.getElem?_eq_some_iff.mp q).1
    rw [hh, Array.getElem?_setIfInBounds_ne ne, Array.getElem?_push, if_neg (Nat.ne_of_lt lx)]; exact q
  have kp : Keep h U'.heap [a] := by
    refine ⟨by rw [hh]; simp, fun x cx q nx => oth x cx q fun e => nx (by rw [e]; exact List.mem_singleton.mpr rfl), fun x cx q => ?_⟩
    by_cases e : a = x
    · subst e
      cases h1.symm.trans q
      refine ⟨Jvm.Free.Str.filledOn T.toThrowableT fB fD cell ⟨.ref u, rfl⟩ P.U.heap.size lines.length.toInt32, ?_, rfl, rfl, by simp [Jvm.Free.Str.filledOn, Cell.setSlot]⟩
      rw [hh]
      exact Array.getElem?_setIfInBounds_self_of_lt (Nat.lt_of_lt_of_le lt (by simp))
    · exact ⟨cx, oth x cx q e, rfl, rfl, rfl⟩
  refine ⟨v, ⟨U', L', ck, P.slots + 2752⟩, X'.more (Nat.le_refl _) (by rw [hn]; exact Nat.add_le_add_left (traceHolder_size_le cO hln) _), ⟨_, ⟨⟨hv, kp⟩, Ext.keep1 (Z := Z) O kp ha, fun y hy => ?_⟩, hL, hk, rfl⟩, sts⟩
  simp only [List.mem_cons, List.not_mem_nil, or_false] at hy
  rcases hy with rfl | rfl | rfl <;> exact ha
/-! ## returns -/
theorem Run.leave (C : Cx Z W own nm code maxL ret) {v : Option Value} {f : JFrame} (hv : ret = none → v = none) (q : Q v h) (hk : k ≤ R.cells) (hn : n ≤ R.slots)
    (s' : ∀ T locs, Std l R W T locs k n → ∀ fs, (∀ (f : JFrame) (acts : List Action), f.method = W.m → f.locked = none → f.entered = [] → (doReturn W.e (T.setTop f) acts v).1 = T.setFrames fs) → Steps W.p.tables W.e W.b (T.setTop f) (T.setFrames fs)) : Run l R Z W Q h k n f := by
  intro T locs X eT N O
  have hlk : W.t.locks = false := C.lk
  obtain ⟨fs, hr, hrun, hended, hW, hsame⟩ := X.leave (v := v) (fun hh => hv (C.rt.symm.trans hh))
  have e2 : (T.setFrames fs).heap = h := eT
  exact ⟨_, _, s' T locs X fs hr, hrun, hended, _, _, rfl, ⟨by rw [e2]; exact q, by rw [e2]; exact O, N⟩, ⟨_, rfl⟩, hW, hsame.mono hk hn⟩
theorem retV (C : Cx Z W own nm code maxL none) (hd : decode code pc = .ok (.return_, 1)) (hk : k ≤ R.cells) (hn : n ≤ R.slots) (q : Q none h) : Run l R Z W Q h k n (mkF W.m pc Ls []) :=
  Run.leave C (fun _ => rfl) q hk hn (fun T locs X fs hr => X.returnOut C.hx C.rt (C.hb hd) hr)
theorem retNar {ty : FieldType} (C : Cx Z W own nm code maxL (some ty)) (ht : ty = .boolean ∨ ty = .byte ∨ ty = .char ∨ ty = .short) (hd : decode code pc = .ok (.ireturn, 1)) {z z' : Int32} (hz : nar ty z = z') (hk : k ≤ R.cells) (hn : n ≤ R.slots) (q : Q (some (.int z')) h) : Run l R Z W Q h k n (mkF W.m pc Ls (.int z :: st)) := by
  subst hz
  exact Run.leave C (fun hh => nomatch hh) q hk hn (fun T locs X fs hr => retN X C.hx C.rt ht (C.hb hd) hr)
theorem retA {ty : FieldType} {v : Value} (C : Cx Z W own nm code maxL (some ty)) (ht : ty.isReference = true) (hv : v.isRef = true) (hd : decode code pc = .ok (.areturn, 1)) (hk : k ≤ R.cells) (hn : n ≤ R.slots) (q : Q (some v) h) : Run l R Z W Q h k n (mkF W.m pc Ls (v :: st)) :=
  Run.leave C (fun hh => nomatch hh) q hk hn (fun T locs X fs hr => retOut X C.hx C.rt (by rcases ref_cases hv with rfl | ⟨a, rfl⟩ <;> cases ty <;> simp [FieldType.isReference] at ht <;> rfl) (Or.inr (Or.inr (Or.inr (Or.inr ⟨rfl, ht, hv⟩)))) (C.hb hd) hr)
end Kit
end Wk

theorem Wk.tkOf {s : State} (h : tablesKnown s = true) : s.vm.MethodsKnown := by
  intro m x hx
  unfold Vm.method? at hx
  cases hk : s.vm.classes[m.cls]? with
  | none => simp [hk] at hx
  | some k =>
    refine ⟨k, hk, fun cf hcf => ?_⟩
    have q := (Array.all_eq_true_iff_forall_mem.mp h) k (Array.mem_of_getElem? hk)
    simp only [hcf, beq_iff_eq] at q
    simp only [hk, Option.bind_some] at hx
    obtain ⟨h1, -⟩ := Array.getElem?_eq_some_iff.mp hx
    rw [Option.isSome_iff_exists]
    exact ⟨_, Array.getElem?_eq_getElem (by omega)⟩
theorem Wk.knOf {vm : Vm} {m : MethodId} (h : methodKnown vm m = true) : vm.knowsMethod m := by
  unfold methodKnown at h
  cases hk : vm.classes[m.cls]? with
  | none => simp [hk] at h
  | some k =>
    refine ⟨k, hk, fun cf hcf => ?_⟩
    simpa [hk, hcf] using h
theorem Wk.fkOf {s : State} {fr : Frame} {below : List Frame} (h : framesKnown s = true) (hf : s.frames = fr :: below) : s.vm.FramesKnown below := by
  intro y hy m' hm'
  have q := List.all_eq_true.mp h y (by rw [hf]; exact List.mem_cons_of_mem _ hy)
  cases y with
  | java g => cases (show some g.method = some m' from hm'); exact Wk.knOf q
  | native g => cases (show some g.method = some m' from hm'); exact Wk.knOf q
  | _ => cases (show none = some m' from hm')
def Ws (a0 : Array Value) (Z : State) : Prop := ∀ d ∈ tables_1, d.before a0 Z = true
theorem Wk.nar_i2c {x v : Int32} (h : x.toUInt32.toUInt16.toUInt32.toInt32 = v) : nar .char v = v := by subst h; simp only [nar, UInt32.toUInt32_toInt32, UInt16.toUInt16_toUInt32]
theorem Wk.nar_i2b {x v : Int32} (h : x.toInt8.toInt32 = v) : nar .byte v = v := by
  subst h
  show x.toInt8.toInt32.toInt8.toInt32 = _
  simp
theorem Wk.narR {v : Value} {t : FieldType} (h : v.isRef = true) (ht : t.isReference = true) : narrow t v = v := by rcases ref_cases h with rfl | ⟨a, rfl⟩ <;> cases t <;> simp [FieldType.isReference] at ht <;> rfl
theorem Wk.fitR {v : Value} {t : FieldType} (h : v.isRef = true) (ht : t.isReference = true) : fits t v = true := by rcases ref_cases h with rfl | ⟨a, rfl⟩ <;> cases t <;> simp [FieldType.isReference] at ht <;> rfl
theorem Wk.rng255 {p v w : Int32} (h : p &&& 255 = v) (h' : v.toUInt32.toUInt16.toUInt32.toInt32 = w) : ¬ w < 0 ∧ ¬ (255 : Int32) < w := by
  subst h h'
  rw [i2c_mask, Int32.lt_iff_toInt_lt, Int32.lt_iff_toInt_lt, c_mask p 255 8 (by decide) (by decide)]
  have : (0 : Int32).toInt = 0 := by decide
  have : (255 : Int32).toInt = 255 := by decide
  omega
theorem Wk.eqI {x y : Int32} (h : x.toInt = y.toInt) : x = y := Int32.toInt_inj.mp h
theorem Wk.ltI {x y : Int32} : x < y ↔ x.toInt < y.toInt := Int32.lt_iff_toInt_lt
theorem Wk.nn {x : Int32} (h : 0 ≤ x.toInt) : ¬ x < 0 := by
  have e0 : (0 : Int32).toInt = 0 := by decide
  rw [Wk.ltI]; omega
theorem Wk.ofNat {x : Int32} (h : 0 ≤ x.toInt) : x = Int32.ofNat x.toNatClampNeg := ((back32 (Wk.nn h)).1).symm
theorem Wk.nat32 {n : Nat} (h : n ≤ 4000) : (Int32.ofNat n).toInt = n ∧ (Int32.ofNat n).toNatClampNeg = n := ⟨Int32.toInt_ofNat_of_lt (by omega), Int32.toNatClampNeg_ofNat_of_lt (by omega)⟩
theorem Wk.succ32 {n : Nat} (h : n < 4000) : Int32.ofNat n + Int32.ofInt 1 = Int32.ofNat (n + 1) := by
  have a := c_iadd (Int32.ofNat n) 1
  have b := rng32 (Int32.ofNat n + 1)
  have c1 : (1 : Int32).toInt = 1 := by decide
  have c2 := (Wk.nat32 (n := n) (by omega)).1
  have c3 := (Wk.nat32 (n := n + 1) (by omega)).1
  exact Wk.eqI (by show (Int32.ofNat n + 1).toInt = _; omega)
theorem Wk.lt32 {a b : Nat} (ha : a ≤ 4000) (hb : b ≤ 4000) : Int32.ofNat a < Int32.ofNat b ↔ a < b := by rw [Wk.ltI, (Wk.nat32 ha).1, (Wk.nat32 hb).1]; omega
abbrev StN : String := "java/lang/String"
abbrev PcN : String := "jdk/internal/util/Preconditions"
/-- null, or a String -/
def SN (Z : State) (h : Heap) (v : Value) : Prop := v = .null ∨ ∃ x, v = .ref x ∧ Exa Z h x StN
theorem SN.ext {Z : State} {h h' : Heap} {v : Value} (F : SN Z h v) (E : Ext h h') : SN Z h' v := F.imp id fun ⟨x, e, A⟩ => ⟨x, e, A.ext E⟩
theorem SN.wr {Z : State} {h h' : Heap} {v u : Value} {b : Addr} {sl : Nat} (F : SN Z h v) (W : Wr h h' b sl u) : SN Z h' v := F.imp id fun ⟨x, e, A⟩ => ⟨x, e, A.wr W⟩
theorem SN.keep {Z : State} {h h' : Heap} {v : Value} {ws : List Addr} (F : SN Z h v) (K : Keep h h' ws) : SN Z h' v := F.imp id fun ⟨x, e, A⟩ => ⟨x, e, A.keep K⟩
theorem SN.ref {Z : State} {h : Heap} {v : Value} (F : SN Z h v) : v.isRef = true := by rcases F with rfl | ⟨x, rfl, -⟩ <;> rfl
/-- the named sets of the JDK's statics, at the start -/
def Sets (Z : State) : Prop := ∃ (z : Int32) (fm : Value), Sta Z Z.heap StN "COMPACT_STRINGS" "Z" (.int z) ∧ ¬ z = 0 ∧ Sta Z Z.heap PcN "SIOOBE_FORMATTER" "Ljava/util/function/BiFunction;" fm ∧ fm.isRef = true
theorem w0 {a0 : Array Value} {Z : State} (hw : Ws a0 Z) : (Jvm.Cond.classLink "com/example/consentry/consentry/oauth/TokenRequestExceptionIsTemporaryPinLaw" (7 : Nat) "java/lang/String").before a0 Z = true := hw _ (List.mem_of_getElem? (i := 0) rfl)
theorem w1 {a0 : Array Value} {Z : State} (hw : Ws a0 Z) : (Jvm.Cond.instantiable "java/lang/String" (4 : Nat)).before a0 Z = true := hw _ (List.mem_of_getElem? (i := 1) rfl)
theorem w2 {a0 : Array Value} {Z : State} (hw : Ws a0 Z) : (Jvm.Cond.initialized "java/lang/String").before a0 Z = true := hw _ (List.mem_of_getElem? (i := 2) rfl)
theorem w3 {a0 : Array Value} {Z : State} (hw : Ws a0 Z) : (Jvm.Cond.arrayClass Jvm.ClassFile.FieldType.char).before a0 Z = true := hw _ (List.mem_of_getElem? (i := 3) rfl)
theorem w4 {a0 : Array Value} {Z : State} (hw : Ws a0 Z) : (Jvm.Cond.methodLink "com/example/consentry/consentry/oauth/TokenRequestExceptionIsTemporaryPinLaw" (9 : Nat) ({ cls := "java/lang/String", name := "<init>", desc := "([C)V" } : Jvm.MethodName)).before a0 Z = true := hw _ (List.mem_of_getElem? (i := 4) rfl)
theorem w5 {a0 : Array Value} {Z : State} (hw : Ws a0 Z) : (Jvm.Cond.instanceMethod ({ cls := "java/lang/String", name := "<init>", desc := "([C)V" } : Jvm.MethodName)).before a0 Z = true := hw _ (List.mem_of_getElem? (i := 5) rfl)
theorem w6 {a0 : Array Value} {Z : State} (hw : Ws a0 Z) : (Jvm.Cond.code ({ cls := "java/lang/String", name := "<init>", desc := "([C)V" } : Jvm.MethodName) jdk_42_method_3_code (2 : Nat) (Option.none : Option Jvm.ClassFile.FieldType)).before a0 Z = true := hw _ (List.mem_of_getElem? (i := 6) rfl)
theorem w7 {a0 : Array Value} {Z : State} (hw : Ws a0 Z) : (Jvm.Cond.methodLink "java/lang/String" (27 : Nat) ({ cls := "java/lang/String", name := "<init>", desc := "([CIILjava/lang/Void;)V" } : Jvm.MethodName)).before a0 Z = true := hw _ (List.mem_of_getElem? (i := 7) rfl)
theorem w8 {a0 : Array Value} {Z : State} (hw : Ws a0 Z) : (Jvm.Cond.instanceMethod ({ cls := "java/lang/String", name := "<init>", desc := "([CIILjava/lang/Void;)V" } : Jvm.MethodName)).before a0 Z = true := hw _ (List.mem_of_getElem? (i := 8) rfl)
theorem w10 {a0 : Array Value} {Z : State} (hw : Ws a0 Z) : (Jvm.Cond.code ({ cls := "java/lang/String", name := "<init>", desc := "([CIILjava/lang/Void;)V" } : Jvm.MethodName) jdk_42_method_149_code (6 : Nat) (Option.none : Option Jvm.ClassFile.FieldType)).before a0 Z = true := hw _ (List.mem_of_getElem? (i := 10) rfl)
theorem w11 {a0 : Array Value} {Z : State} (hw : Ws a0 Z) : (Jvm.Cond.methodLink "java/lang/String" (1 : Nat) ({ cls := "java/lang/Object", name := "<init>", desc := "()V" } : Jvm.MethodName)).before a0 Z = true := hw _ (List.mem_of_getElem? (i := 11) rfl)
theorem w12 {a0 : Array Value} {Z : State} (hw : Ws a0 Z) : (Jvm.Cond.instanceMethod ({ cls := "java/lang/Object", name := "<init>", desc := "()V" } : Jvm.MethodName)).before a0 Z = true := hw _ (List.mem_of_getElem? (i := 12) rfl)
theorem w13 {a0 : Array Value} {Z : State} (hw : Ws a0 Z) : (Jvm.Cond.code ({ cls := "java/lang/Object", name := "<init>", desc := "()V" } : Jvm.MethodName) object_method_1_code (1 : Nat) (Option.none : Option Jvm.ClassFile.FieldType)).before a0 Z = true := hw _ (List.mem_of_getElem? (i := 13) rfl)
theorem w14 {a0 : Array Value} {Z : State} (hw : Ws a0 Z) : (Jvm.Cond.stringLink "java/lang/String" (7 : Nat) "").before a0 Z = true := hw _ (List.mem_of_getElem? (i := 14) rfl)
theorem w15 {a0 : Array Value} {Z : State} (hw : Ws a0 Z) : (Jvm.Cond.arrayClass Jvm.ClassFile.FieldType.byte).before a0 Z = true := hw _ (List.mem_of_getElem? (i := 15) rfl)
theorem w16 {a0 : Array Value} {Z : State} (hw : Ws a0 Z) : (Jvm.Cond.laysFinal "java/lang/String" "java/lang/String" "value" "[B").before a0 Z = true := hw _ (List.mem_of_getElem? (i := 16) rfl)
theorem w17 {a0 : Array Value} {Z : State} (hw : Ws a0 Z) : (Jvm.Cond.laysFinal "java/lang/String" "java/lang/String" "coder" "B").before a0 Z = true := hw _ (List.mem_of_getElem? (i := 17) rfl)
theorem w18 {a0 : Array Value} {Z : State} (hw : Ws a0 Z) : (Jvm.Cond.soleField "java/lang/String" "value").before a0 Z = true := hw _ (List.mem_of_getElem? (i := 18) rfl)
theorem w19 {a0 : Array Value} {Z : State} (hw : Ws a0 Z) : (Jvm.Cond.soleField "java/lang/String" "coder").before a0 Z = true := hw _ (List.mem_of_getElem? (i := 19) rfl)
theorem w20 {a0 : Array Value} {Z : State} (hw : Ws a0 Z) : (Jvm.Cond.fieldLink "java/lang/String" (9 : Nat) "java/lang/String" "value" "[B").before a0 Z = true := hw _ (List.mem_of_getElem? (i := 20) rfl)
theorem w21 {a0 : Array Value} {Z : State} (hw : Ws a0 Z) : (Jvm.Cond.fieldLink "java/lang/String" (15 : Nat) "java/lang/String" "coder" "B").before a0 Z = true := hw _ (List.mem_of_getElem? (i := 21) rfl)
theorem w22 {a0 : Array Value} {Z : State} (hw : Ws a0 Z) : (Jvm.Cond.classLink "com/example/consentry/consentry/oauth/TokenRequestExceptionIsTemporaryPinLaw" (16 : Nat) "com/example/consentry/consentry/oauth/TokenRequestException").before a0 Z = true := hw _ (List.mem_of_getElem? (i := 22) rfl)
theorem w23 {a0 : Array Value} {Z : State} (hw : Ws a0 Z) : (Jvm.Cond.instantiable "com/example/consentry/consentry/oauth/TokenRequestException" (8 : Nat)).before a0 Z = true := hw _ (List.mem_of_getElem? (i := 23) rfl)
theorem w24 {a0 : Array Value} {Z : State} (hw : Ws a0 Z) : (Jvm.Cond.initialized "com/example/consentry/consentry/oauth/TokenRequestException").before a0 Z = true := hw _ (List.mem_of_getElem? (i := 24) rfl)
theorem w25 {a0 : Array Value} {Z : State} (hw : Ws a0 Z) : (Jvm.Cond.stringLink "com/example/consentry/consentry/oauth/TokenRequestExceptionIsTemporaryPinLaw" (18 : Nat) "m").before a0 Z = true := hw _ (List.mem_of_getElem? (i := 25) rfl)
theorem w26 {a0 : Array Value} {Z : State} (hw : Ws a0 Z) : (Jvm.Cond.methodLink "com/example/consentry/consentry/oauth/TokenRequestExceptionIsTemporaryPinLaw" (20 : Nat) ({ cls := "com/example/consentry/consentry/oauth/TokenRequestException", name := "<init>", desc := "(Ljava/lang/String;ILjava/lang/String;)V" } : Jvm.MethodName)).before a0 Z = true := hw _ (List.mem_of_getElem? (i := 26) rfl)
theorem w27 {a0 : Array Value} {Z : State} (hw : Ws a0 Z) : (Jvm.Cond.instanceMethod ({ cls := "com/example/consentry/consentry/oauth/TokenRequestException", name := "<init>", desc := "(Ljava/lang/String;ILjava/lang/String;)V" } : Jvm.MethodName)).before a0 Z = true := hw _ (List.mem_of_getElem? (i := 27) rfl)
theorem w28 {a0 : Array Value} {Z : State} (hw : Ws a0 Z) : (Jvm.Cond.code ({ cls := "com/example/consentry/consentry/oauth/TokenRequestException", name := "<init>", desc := "(Ljava/lang/String;ILjava/lang/String;)V" } : Jvm.MethodName) prog_57_method_1_code (4 : Nat) (Option.none : Option Jvm.ClassFile.FieldType)).before a0 Z = true := hw _ (List.mem_of_getElem? (i := 28) rfl)
theorem w29 {a0 : Array Value} {Z : State} (hw : Ws a0 Z) : (Jvm.Cond.methodLink "com/example/consentry/consentry/oauth/TokenRequestException" (1 : Nat) ({ cls := "java/lang/Exception", name := "<init>", desc := "(Ljava/lang/String;)V" } : Jvm.MethodName)).before a0 Z = true := hw _ (List.mem_of_getElem? (i := 29) rfl)
theorem w30 {a0 : Array Value} {Z : State} (hw : Ws a0 Z) : (Jvm.Cond.instanceMethod ({ cls := "java/lang/Exception", name := "<init>", desc := "(Ljava/lang/String;)V" } : Jvm.MethodName)).before a0 Z = true := hw _ (List.mem_of_getElem? (i := 30) rfl)
theorem w32 {a0 : Array Value} {Z : State} (hw : Ws a0 Z) : (Jvm.Cond.initialized "java/lang/Exception").before a0 Z = true := hw _ (List.mem_of_getElem? (i := 32) rfl)
theorem w33 {a0 : Array Value} {Z : State} (hw : Ws a0 Z) : (Jvm.Cond.code ({ cls := "java/lang/Exception", name := "<init>", desc := "(Ljava/lang/String;)V" } : Jvm.MethodName) jdk_59_method_2_code (2 : Nat) (Option.none : Option Jvm.ClassFile.FieldType)).before a0 Z = true := hw _ (List.mem_of_getElem? (i := 33) rfl)
theorem w34 {a0 : Array Value} {Z : State} (hw : Ws a0 Z) : (Jvm.Cond.methodLink "java/lang/Exception" (7 : Nat) ({ cls := "java/lang/Throwable", name := "<init>", desc := "(Ljava/lang/String;)V" } : Jvm.MethodName)).before a0 Z = true := hw _ (List.mem_of_getElem? (i := 34) rfl)
theorem w35 {a0 : Array Value} {Z : State} (hw : Ws a0 Z) : (Jvm.Cond.instanceMethod ({ cls := "java/lang/Throwable", name := "<init>", desc := "(Ljava/lang/String;)V" } : Jvm.MethodName)).before a0 Z = true := hw _ (List.mem_of_getElem? (i := 35) rfl)
theorem w38 {a0 : Array Value} {Z : State} (hw : Ws a0 Z) : (Jvm.Cond.initialized "java/lang/Throwable").before a0 Z = true := hw _ (List.mem_of_getElem? (i := 38) rfl)
theorem w39 {a0 : Array Value} {Z : State} (hw : Ws a0 Z) : (Jvm.Cond.code ({ cls := "java/lang/Throwable", name := "<init>", desc := "(Ljava/lang/String;)V" } : Jvm.MethodName) jdk_78_method_2_code (2 : Nat) (Option.none : Option Jvm.ClassFile.FieldType)).before a0 Z = true := hw _ (List.mem_of_getElem? (i := 39) rfl)
theorem w40 {a0 : Array Value} {Z : State} (hw : Ws a0 Z) : (Jvm.Cond.methodLink "java/lang/Throwable" (1 : Nat) ({ cls := "java/lang/Object", name := "<init>", desc := "()V" } : Jvm.MethodName)).before a0 Z = true := hw _ (List.mem_of_getElem? (i := 40) rfl)
theorem w41 {a0 : Array Value} {Z : State} (hw : Ws a0 Z) : (Jvm.Cond.fieldLink "java/lang/Throwable" (7 : Nat) "java/lang/Throwable" "cause" "Ljava/lang/Throwable;").before a0 Z = true := hw _ (List.mem_of_getElem? (i := 41) rfl)
theorem w42 {a0 : Array Value} {Z : State} (hw : Ws a0 Z) : (Jvm.Cond.lays "com/example/consentry/consentry/oauth/TokenRequestException" "java/lang/Throwable" "cause" "Ljava/lang/Throwable;").before a0 Z = true := hw _ (List.mem_of_getElem? (i := 42) rfl)
theorem w43 {a0 : Array Value} {Z : State} (hw : Ws a0 Z) : (Jvm.Cond.fieldLink "java/lang/Throwable" (13 : Nat) "java/lang/Throwable" "UNASSIGNED_STACK" "[Ljava/lang/StackTraceElement;").before a0 Z = true := hw _ (List.mem_of_getElem? (i := 43) rfl)
theorem w44 {a0 : Array Value} {Z : State} (hw : Ws a0 Z) : (Jvm.Cond.fieldLink "java/lang/Throwable" (17 : Nat) "java/lang/Throwable" "stackTrace" "[Ljava/lang/StackTraceElement;").before a0 Z = true := hw _ (List.mem_of_getElem? (i := 44) rfl)
theorem w45 {a0 : Array Value} {Z : State} (hw : Ws a0 Z) : (Jvm.Cond.lays "com/example/consentry/consentry/oauth/TokenRequestException" "java/lang/Throwable" "stackTrace" "[Ljava/lang/StackTraceElement;").before a0 Z = true := hw _ (List.mem_of_getElem? (i := 45) rfl)
theorem w46 {a0 : Array Value} {Z : State} (hw : Ws a0 Z) : (Jvm.Cond.fieldLink "java/lang/Throwable" (20 : Nat) "java/lang/Throwable" "SUPPRESSED_SENTINEL" "Ljava/util/List;").before a0 Z = true := hw _ (List.mem_of_getElem? (i := 46) rfl)
theorem w47 {a0 : Array Value} {Z : State} (hw : Ws a0 Z) : (Jvm.Cond.fieldLink "java/lang/Throwable" (24 : Nat) "java/lang/Throwable" "suppressedExceptions" "Ljava/util/List;").before a0 Z = true := hw _ (List.mem_of_getElem? (i := 47) rfl)
theorem w48 {a0 : Array Value} {Z : State} (hw : Ws a0 Z) : (Jvm.Cond.lays "com/example/consentry/consentry/oauth/TokenRequestException" "java/lang/Throwable" "suppressedExceptions" "Ljava/util/List;").before a0 Z = true := hw _ (List.mem_of_getElem? (i := 48) rfl)
theorem w49 {a0 : Array Value} {Z : State} (hw : Ws a0 Z) : (Jvm.Cond.methodLink "java/lang/Throwable" (27 : Nat) ({ cls := "java/lang/Throwable", name := "fillInStackTrace", desc := "()Ljava/lang/Throwable;" } : Jvm.MethodName)).before a0 Z = true := hw _ (List.mem_of_getElem? (i := 49) rfl)
theorem w50 {a0 : Array Value} {Z : State} (hw : Ws a0 Z) : (Jvm.Cond.declares ({ cls := "java/lang/Throwable", name := "fillInStackTrace", desc := "()Ljava/lang/Throwable;" } : Jvm.MethodName)).before a0 Z = true := hw _ (List.mem_of_getElem? (i := 50) rfl)
theorem w51 {a0 : Array Value} {Z : State} (hw : Ws a0 Z) : (Jvm.Cond.instanceMethod ({ cls := "java/lang/Throwable", name := "fillInStackTrace", desc := "()Ljava/lang/Throwable;" } : Jvm.MethodName)).before a0 Z = true := hw _ (List.mem_of_getElem? (i := 51) rfl)
theorem w52 {a0 : Array Value} {Z : State} (hw : Ws a0 Z) : (Jvm.Cond.selects "com/example/consentry/consentry/oauth/TokenRequestException" ({ cls := "java/lang/Throwable", name := "fillInStackTrace", desc := "()Ljava/lang/Throwable;" } : Jvm.MethodName) ({ cls := "java/lang/Throwable", name := "fillInStackTrace", desc := "()Ljava/lang/Throwable;" } : Jvm.MethodName)).before a0 Z = true := hw _ (List.mem_of_getElem? (i := 52) rfl)
theorem w69 {a0 : Array Value} {Z : State} (hw : Ws a0 Z) : (Jvm.Cond.laysStatic "java/lang/Throwable" "UNASSIGNED_STACK" "[Ljava/lang/StackTraceElement;").before a0 Z = true := hw _ (List.mem_of_getElem? (i := 69) rfl)
theorem w70 {a0 : Array Value} {Z : State} (hw : Ws a0 Z) : (Jvm.Cond.laysStatic "java/lang/Throwable" "SUPPRESSED_SENTINEL" "Ljava/util/List;").before a0 Z = true := hw _ (List.mem_of_getElem? (i := 70) rfl)
theorem w72 {a0 : Array Value} {Z : State} (hw : Ws a0 Z) : (Jvm.Cond.lays "com/example/consentry/consentry/oauth/TokenRequestException" "java/lang/Throwable" "detailMessage" "Ljava/lang/String;").before a0 Z = true := hw _ (List.mem_of_getElem? (i := 72) rfl)
theorem w73 {a0 : Array Value} {Z : State} (hw : Ws a0 Z) : (Jvm.Cond.lays "com/example/consentry/consentry/oauth/TokenRequestException" "java/lang/Throwable" "backtrace" "Ljava/lang/Object;").before a0 Z = true := hw _ (List.mem_of_getElem? (i := 73) rfl)
theorem w74 {a0 : Array Value} {Z : State} (hw : Ws a0 Z) : (Jvm.Cond.lays "com/example/consentry/consentry/oauth/TokenRequestException" "java/lang/Throwable" "depth" "I").before a0 Z = true := hw _ (List.mem_of_getElem? (i := 74) rfl)
theorem w76 {a0 : Array Value} {Z : State} (hw : Ws a0 Z) : (Jvm.Cond.fieldLink "java/lang/Throwable" (31 : Nat) "java/lang/Throwable" "detailMessage" "Ljava/lang/String;").before a0 Z = true := hw _ (List.mem_of_getElem? (i := 76) rfl)
theorem w77 {a0 : Array Value} {Z : State} (hw : Ws a0 Z) : (Jvm.Cond.fieldLink "com/example/consentry/consentry/oauth/TokenRequestException" (7 : Nat) "com/example/consentry/consentry/oauth/TokenRequestException" "status" "I").before a0 Z = true := hw _ (List.mem_of_getElem? (i := 77) rfl)
theorem w78 {a0 : Array Value} {Z : State} (hw : Ws a0 Z) : (Jvm.Cond.laysFinal "com/example/consentry/consentry/oauth/TokenRequestException" "com/example/consentry/consentry/oauth/TokenRequestException" "status" "I").before a0 Z = true := hw _ (List.mem_of_getElem? (i := 78) rfl)
theorem w79 {a0 : Array Value} {Z : State} (hw : Ws a0 Z) : (Jvm.Cond.fieldLink "com/example/consentry/consentry/oauth/TokenRequestException" (13 : Nat) "com/example/consentry/consentry/oauth/TokenRequestException" "error" "Ljava/lang/String;").before a0 Z = true := hw _ (List.mem_of_getElem? (i := 79) rfl)
theorem w80 {a0 : Array Value} {Z : State} (hw : Ws a0 Z) : (Jvm.Cond.laysFinal "com/example/consentry/consentry/oauth/TokenRequestException" "com/example/consentry/consentry/oauth/TokenRequestException" "error" "Ljava/lang/String;").before a0 Z = true := hw _ (List.mem_of_getElem? (i := 80) rfl)
theorem w81 {a0 : Array Value} {Z : State} (hw : Ws a0 Z) : (Jvm.Cond.methodLink "com/example/consentry/consentry/oauth/TokenRequestExceptionIsTemporaryPinLaw" (23 : Nat) ({ cls := "com/example/consentry/consentry/oauth/TokenRequestException", name := "isTemporary", desc := "()Z" } : Jvm.MethodName)).before a0 Z = true := hw _ (List.mem_of_getElem? (i := 81) rfl)
theorem w82 {a0 : Array Value} {Z : State} (hw : Ws a0 Z) : (Jvm.Cond.declares ({ cls := "com/example/consentry/consentry/oauth/TokenRequestException", name := "isTemporary", desc := "()Z" } : Jvm.MethodName)).before a0 Z = true := hw _ (List.mem_of_getElem? (i := 82) rfl)
theorem w83 {a0 : Array Value} {Z : State} (hw : Ws a0 Z) : (Jvm.Cond.instanceMethod ({ cls := "com/example/consentry/consentry/oauth/TokenRequestException", name := "isTemporary", desc := "()Z" } : Jvm.MethodName)).before a0 Z = true := hw _ (List.mem_of_getElem? (i := 83) rfl)
theorem w84 {a0 : Array Value} {Z : State} (hw : Ws a0 Z) : (Jvm.Cond.selects "com/example/consentry/consentry/oauth/TokenRequestException" ({ cls := "com/example/consentry/consentry/oauth/TokenRequestException", name := "isTemporary", desc := "()Z" } : Jvm.MethodName) ({ cls := "com/example/consentry/consentry/oauth/TokenRequestException", name := "isTemporary", desc := "()Z" } : Jvm.MethodName)).before a0 Z = true := hw _ (List.mem_of_getElem? (i := 84) rfl)
theorem w85 {a0 : Array Value} {Z : State} (hw : Ws a0 Z) : (Jvm.Cond.code ({ cls := "com/example/consentry/consentry/oauth/TokenRequestException", name := "isTemporary", desc := "()Z" } : Jvm.MethodName) prog_57_method_5_code (1 : Nat) (Option.some Jvm.ClassFile.FieldType.boolean)).before a0 Z = true := hw _ (List.mem_of_getElem? (i := 85) rfl)
theorem w86 {a0 : Array Value} {Z : State} (hw : Ws a0 Z) : (Jvm.Cond.methodLink "com/example/consentry/consentry/oauth/TokenRequestExceptionIsTemporaryPinLaw" (12 : Nat) ({ cls := "java/lang/String", name := "valueOf", desc := "(C)Ljava/lang/String;" } : Jvm.MethodName)).before a0 Z = true := hw _ (List.mem_of_getElem? (i := 86) rfl)
theorem w87 {a0 : Array Value} {Z : State} (hw : Ws a0 Z) : (Jvm.Cond.static ({ cls := "java/lang/String", name := "valueOf", desc := "(C)Ljava/lang/String;" } : Jvm.MethodName)).before a0 Z = true := hw _ (List.mem_of_getElem? (i := 87) rfl)
theorem w88 {a0 : Array Value} {Z : State} (hw : Ws a0 Z) : (Jvm.Cond.code ({ cls := "java/lang/String", name := "valueOf", desc := "(C)Ljava/lang/String;" } : Jvm.MethodName) jdk_42_method_139_code (1 : Nat) (Option.some (Jvm.ClassFile.FieldType.object "java/lang/String"))).before a0 Z = true := hw _ (List.mem_of_getElem? (i := 88) rfl)
theorem w89 {a0 : Array Value} {Z : State} (hw : Ws a0 Z) : (Jvm.Cond.fieldLink "java/lang/String" (38 : Nat) "java/lang/String" "COMPACT_STRINGS" "Z").before a0 Z = true := hw _ (List.mem_of_getElem? (i := 89) rfl)
theorem w90 {a0 : Array Value} {Z : State} (hw : Ws a0 Z) : (Jvm.Cond.methodLink "java/lang/String" (1015 : Nat) ({ cls := "java/lang/StringLatin1", name := "canEncode", desc := "(C)Z" } : Jvm.MethodName)).before a0 Z = true := hw _ (List.mem_of_getElem? (i := 90) rfl)
theorem w91 {a0 : Array Value} {Z : State} (hw : Ws a0 Z) : (Jvm.Cond.static ({ cls := "java/lang/StringLatin1", name := "canEncode", desc := "(C)Z" } : Jvm.MethodName)).before a0 Z = true := hw _ (List.mem_of_getElem? (i := 91) rfl)
theorem w92 {a0 : Array Value} {Z : State} (hw : Ws a0 Z) : (Jvm.Cond.initialized "java/lang/StringLatin1").before a0 Z = true := hw _ (List.mem_of_getElem? (i := 92) rfl)
theorem w93 {a0 : Array Value} {Z : State} (hw : Ws a0 Z) : (Jvm.Cond.code ({ cls := "java/lang/StringLatin1", name := "canEncode", desc := "(C)Z" } : Jvm.MethodName) jdk_43_method_3_code (1 : Nat) (Option.some Jvm.ClassFile.FieldType.boolean)).before a0 Z = true := hw _ (List.mem_of_getElem? (i := 93) rfl)
theorem w94 {a0 : Array Value} {Z : State} (hw : Ws a0 Z) : (Jvm.Cond.classLink "java/lang/String" (10 : Nat) "java/lang/String").before a0 Z = true := hw _ (List.mem_of_getElem? (i := 94) rfl)
theorem w95 {a0 : Array Value} {Z : State} (hw : Ws a0 Z) : (Jvm.Cond.methodLink "java/lang/String" (1018 : Nat) ({ cls := "java/lang/StringLatin1", name := "toBytes", desc := "(C)[B" } : Jvm.MethodName)).before a0 Z = true := hw _ (List.mem_of_getElem? (i := 95) rfl)
theorem w96 {a0 : Array Value} {Z : State} (hw : Ws a0 Z) : (Jvm.Cond.static ({ cls := "java/lang/StringLatin1", name := "toBytes", desc := "(C)[B" } : Jvm.MethodName)).before a0 Z = true := hw _ (List.mem_of_getElem? (i := 96) rfl)
theorem w97 {a0 : Array Value} {Z : State} (hw : Ws a0 Z) : (Jvm.Cond.code ({ cls := "java/lang/StringLatin1", name := "toBytes", desc := "(C)[B" } : Jvm.MethodName) jdk_43_method_46_code (1 : Nat) (Option.some (Jvm.ClassFile.FieldType.array Jvm.ClassFile.FieldType.byte))).before a0 Z = true := hw _ (List.mem_of_getElem? (i := 97) rfl)
theorem w98 {a0 : Array Value} {Z : State} (hw : Ws a0 Z) : (Jvm.Cond.methodLink "java/lang/String" (209 : Nat) ({ cls := "java/lang/String", name := "<init>", desc := "([BB)V" } : Jvm.MethodName)).before a0 Z = true := hw _ (List.mem_of_getElem? (i := 98) rfl)
theorem w99 {a0 : Array Value} {Z : State} (hw : Ws a0 Z) : (Jvm.Cond.instanceMethod ({ cls := "java/lang/String", name := "<init>", desc := "([BB)V" } : Jvm.MethodName)).before a0 Z = true := hw _ (List.mem_of_getElem? (i := 99) rfl)
theorem w100 {a0 : Array Value} {Z : State} (hw : Ws a0 Z) : (Jvm.Cond.code ({ cls := "java/lang/String", name := "<init>", desc := "([BB)V" } : Jvm.MethodName) jdk_42_method_151_code (3 : Nat) (Option.none : Option Jvm.ClassFile.FieldType)).before a0 Z = true := hw _ (List.mem_of_getElem? (i := 100) rfl)
theorem d_jdk_78m2_0 : decode jdk_78_method_2_code 0 = .ok (.aload_n 0, 1) := by decide +kernel
theorem d_jdk_78m2_1 : decode jdk_78_method_2_code 1 = .ok (.invokespecial 1, 3) := by decide +kernel
theorem d_jdk_78m2_4 : decode jdk_78_method_2_code 4 = .ok (.aload_n 0, 1) := by decide +kernel
theorem d_jdk_78m2_5 : decode jdk_78_method_2_code 5 = .ok (.aload_n 0, 1) := by decide +kernel
theorem d_jdk_78m2_6 : decode jdk_78_method_2_code 6 = .ok (.putfield 7, 3) := by decide +kernel
theorem d_jdk_78m2_9 : decode jdk_78_method_2_code 9 = .ok (.aload_n 0, 1) := by decide +kernel
theorem d_jdk_78m2_10 : decode jdk_78_method_2_code 10 = .ok (.getstatic 13, 3) := by decide +kernel
theorem d_jdk_78m2_13 : decode jdk_78_method_2_code 13 = .ok (.putfield 17, 3) := by decide +kernel
theorem d_jdk_78m2_16 : decode jdk_78_method_2_code 16 = .ok (.aload_n 0, 1) := by decide +kernel
theorem d_jdk_78m2_17 : decode jdk_78_method_2_code 17 = .ok (.getstatic 20, 3) := by decide +kernel
theorem d_jdk_78m2_20 : decode jdk_78_method_2_code 20 = .ok (.putfield 24, 3) := by decide +kernel
theorem d_jdk_78m2_23 : decode jdk_78_method_2_code 23 = .ok (.aload_n 0, 1) := by decide +kernel
theorem d_jdk_78m2_24 : decode jdk_78_method_2_code 24 = .ok (.invokevirtual 27, 3) := by decide +kernel
theorem d_jdk_78m2_27 : decode jdk_78_method_2_code 27 = .ok (.pop, 1) := by decide +kernel
theorem d_jdk_78m2_28 : decode jdk_78_method_2_code 28 = .ok (.aload_n 0, 1) := by decide +kernel
theorem d_jdk_78m2_29 : decode jdk_78_method_2_code 29 = .ok (.aload_n 1, 1) := by decide +kernel
theorem d_jdk_78m2_30 : decode jdk_78_method_2_code 30 = .ok (.putfield 31, 3) := by decide +kernel
theorem d_jdk_78m2_33 : decode jdk_78_method_2_code 33 = .ok (.return_, 1) := by decide +kernel
theorem d_jdk_59m2_0 : decode jdk_59_method_2_code 0 = .ok (.aload_n 0, 1) := by decide +kernel
theorem d_jdk_59m2_1 : decode jdk_59_method_2_code 1 = .ok (.aload_n 1, 1) := by decide +kernel
theorem d_jdk_59m2_2 : decode jdk_59_method_2_code 2 = .ok (.invokespecial 7, 3) := by decide +kernel
theorem d_jdk_59m2_5 : decode jdk_59_method_2_code 5 = .ok (.return_, 1) := by decide +kernel
theorem d_prog_57m1_0 : decode prog_57_method_1_code 0 = .ok (.aload_n 0, 1) := by decide +kernel
theorem d_prog_57m1_1 : decode prog_57_method_1_code 1 = .ok (.aload_n 1, 1) := by decide +kernel
theorem d_prog_57m1_2 : decode prog_57_method_1_code 2 = .ok (.invokespecial 1, 3) := by decide +kernel
theorem d_prog_57m1_5 : decode prog_57_method_1_code 5 = .ok (.aload_n 0, 1) := by decide +kernel
theorem d_prog_57m1_6 : decode prog_57_method_1_code 6 = .ok (.iload_n 2, 1) := by decide +kernel
theorem d_prog_57m1_7 : decode prog_57_method_1_code 7 = .ok (.putfield 7, 3) := by decide +kernel
theorem d_prog_57m1_10 : decode prog_57_method_1_code 10 = .ok (.aload_n 0, 1) := by decide +kernel
theorem d_prog_57m1_11 : decode prog_57_method_1_code 11 = .ok (.aload_n 3, 1) := by decide +kernel
theorem d_prog_57m1_12 : decode prog_57_method_1_code 12 = .ok (.putfield 13, 3) := by decide +kernel
theorem d_prog_57m1_15 : decode prog_57_method_1_code 15 = .ok (.return_, 1) := by decide +kernel
theorem d_prog_57m5_0 : decode prog_57_method_5_code 0 = .ok (.aload_n 0, 1) := by decide +kernel
theorem d_prog_57m5_1 : decode prog_57_method_5_code 1 = .ok (.getfield 7, 3) := by decide +kernel
theorem d_prog_57m5_4 : decode prog_57_method_5_code 4 = .ok (.ifCond .eq 42, 3) := by decide +kernel
theorem d_prog_57m5_46 : decode prog_57_method_5_code 46 = .ok (.iconst 1, 1) := by decide +kernel
theorem d_prog_57m5_47 : decode prog_57_method_5_code 47 = .ok (.goto 4, 3) := by decide +kernel
theorem d_prog_57m5_51 : decode prog_57_method_5_code 51 = .ok (.ireturn, 1) := by decide +kernel
theorem d_prog_57m5_7 : decode prog_57_method_5_code 7 = .ok (.aload_n 0, 1) := by decide +kernel
theorem d_prog_57m5_8 : decode prog_57_method_5_code 8 = .ok (.getfield 7, 3) := by decide +kernel
theorem d_prog_57m5_11 : decode prog_57_method_5_code 11 = .ok (.sipush 429, 3) := by decide +kernel
theorem d_prog_57m5_14 : decode prog_57_method_5_code 14 = .ok (.if_icmp .eq 32, 3) := by decide +kernel
theorem d_prog_57m5_17 : decode prog_57_method_5_code 17 = .ok (.aload_n 0, 1) := by decide +kernel
theorem d_prog_57m5_18 : decode prog_57_method_5_code 18 = .ok (.getfield 7, 3) := by decide +kernel
theorem d_prog_57m5_21 : decode prog_57_method_5_code 21 = .ok (.bipush 100, 2) := by decide +kernel
theorem d_prog_57m5_23 : decode prog_57_method_5_code 23 = .ok (.idiv, 1) := by decide +kernel
theorem d_prog_57m5_24 : decode prog_57_method_5_code 24 = .ok (.iconst 5, 1) := by decide +kernel
theorem d_prog_57m5_25 : decode prog_57_method_5_code 25 = .ok (.if_icmp .eq 21, 3) := by decide +kernel
theorem d_prog_57m5_28 : decode prog_57_method_5_code 28 = .ok (.aload_n 0, 1) := by decide +kernel
theorem d_prog_57m5_29 : decode prog_57_method_5_code 29 = .ok (.getfield 7, 3) := by decide +kernel
theorem d_prog_57m5_32 : decode prog_57_method_5_code 32 = .ok (.bipush 100, 2) := by decide +kernel
theorem d_prog_57m5_34 : decode prog_57_method_5_code 34 = .ok (.idiv, 1) := by decide +kernel
theorem d_prog_57m5_35 : decode prog_57_method_5_code 35 = .ok (.iconst 2, 1) := by decide +kernel
theorem d_prog_57m5_36 : decode prog_57_method_5_code 36 = .ok (.if_icmp .eq 14, 3) := by decide +kernel
theorem d_prog_57m5_50 : decode prog_57_method_5_code 50 = .ok (.iconst 0, 1) := by decide +kernel
theorem d_prog_57m5_39 : decode prog_57_method_5_code 39 = .ok (.aload_n 0, 1) := by decide +kernel
theorem d_prog_57m5_40 : decode prog_57_method_5_code 40 = .ok (.getfield 13, 3) := by decide +kernel
theorem d_prog_57m5_43 : decode prog_57_method_5_code 43 = .ok (.ifnonnull 7, 3) := by decide +kernel
theorem d_jdk_43m3_0 : decode jdk_43_method_3_code 0 = .ok (.iload_n 0, 1) := by decide +kernel
theorem d_jdk_43m3_1 : decode jdk_43_method_3_code 1 = .ok (.sipush 255, 3) := by decide +kernel
theorem d_jdk_43m3_4 : decode jdk_43_method_3_code 4 = .ok (.if_icmp .gt 7, 3) := by decide +kernel
theorem d_jdk_43m3_7 : decode jdk_43_method_3_code 7 = .ok (.iconst 1, 1) := by decide +kernel
theorem d_jdk_43m3_8 : decode jdk_43_method_3_code 8 = .ok (.goto 4, 3) := by decide +kernel
theorem d_jdk_43m3_12 : decode jdk_43_method_3_code 12 = .ok (.ireturn, 1) := by decide +kernel
theorem d_jdk_43m46_0 : decode jdk_43_method_46_code 0 = .ok (.iconst 1, 1) := by decide +kernel
theorem d_jdk_43m46_1 : decode jdk_43_method_46_code 1 = .ok (.newarray .byte, 2) := by decide +kernel
theorem d_jdk_43m46_3 : decode jdk_43_method_46_code 3 = .ok (.dup, 1) := by decide +kernel
theorem d_jdk_43m46_4 : decode jdk_43_method_46_code 4 = .ok (.iconst 0, 1) := by decide +kernel
theorem d_jdk_43m46_5 : decode jdk_43_method_46_code 5 = .ok (.iload_n 0, 1) := by decide +kernel
theorem d_jdk_43m46_6 : decode jdk_43_method_46_code 6 = .ok (.i2b, 1) := by decide +kernel
theorem d_jdk_43m46_7 : decode jdk_43_method_46_code 7 = .ok (.bastore, 1) := by decide +kernel
theorem d_jdk_43m46_8 : decode jdk_43_method_46_code 8 = .ok (.areturn, 1) := by decide +kernel
theorem d_jdk_42m151_0 : decode jdk_42_method_151_code 0 = .ok (.aload_n 0, 1) := by decide +kernel
theorem d_jdk_42m151_1 : decode jdk_42_method_151_code 1 = .ok (.invokespecial 1, 3) := by decide +kernel
theorem d_jdk_42m151_4 : decode jdk_42_method_151_code 4 = .ok (.aload_n 0, 1) := by decide +kernel
theorem d_jdk_42m151_5 : decode jdk_42_method_151_code 5 = .ok (.aload_n 1, 1) := by decide +kernel
theorem d_jdk_42m151_6 : decode jdk_42_method_151_code 6 = .ok (.putfield 9, 3) := by decide +kernel
theorem d_jdk_42m151_9 : decode jdk_42_method_151_code 9 = .ok (.aload_n 0, 1) := by decide +kernel
theorem d_jdk_42m151_10 : decode jdk_42_method_151_code 10 = .ok (.iload_n 2, 1) := by decide +kernel
theorem d_jdk_42m151_11 : decode jdk_42_method_151_code 11 = .ok (.putfield 15, 3) := by decide +kernel
theorem d_jdk_42m151_14 : decode jdk_42_method_151_code 14 = .ok (.return_, 1) := by decide +kernel
theorem d_jdk_42m139_0 : decode jdk_42_method_139_code 0 = .ok (.getstatic 38, 3) := by decide +kernel
theorem d_jdk_42m139_3 : decode jdk_42_method_139_code 3 = .ok (.ifCond .eq 23, 3) := by decide +kernel
theorem d_jdk_42m139_6 : decode jdk_42_method_139_code 6 = .ok (.iload_n 0, 1) := by decide +kernel
theorem d_jdk_42m139_7 : decode jdk_42_method_139_code 7 = .ok (.invokestatic 1015, 3) := by decide +kernel
theorem d_jdk_42m139_10 : decode jdk_42_method_139_code 10 = .ok (.ifCond .eq 16, 3) := by decide +kernel
theorem d_jdk_42m139_13 : decode jdk_42_method_139_code 13 = .ok (.new 10, 3) := by decide +kernel
theorem d_jdk_42m139_16 : decode jdk_42_method_139_code 16 = .ok (.dup, 1) := by decide +kernel
theorem d_jdk_42m139_17 : decode jdk_42_method_139_code 17 = .ok (.iload_n 0, 1) := by decide +kernel
theorem d_jdk_42m139_18 : decode jdk_42_method_139_code 18 = .ok (.invokestatic 1018, 3) := by decide +kernel
theorem d_jdk_42m139_21 : decode jdk_42_method_139_code 21 = .ok (.iconst 0, 1) := by decide +kernel
theorem d_jdk_42m139_22 : decode jdk_42_method_139_code 22 = .ok (.invokespecial 209, 3) := by decide +kernel
theorem d_jdk_42m139_25 : decode jdk_42_method_139_code 25 = .ok (.areturn, 1) := by decide +kernel
theorem d_jdk_42m149_0 : decode jdk_42_method_149_code 0 = .ok (.aload_n 0, 1) := by decide +kernel
theorem d_jdk_42m149_1 : decode jdk_42_method_149_code 1 = .ok (.invokespecial 1, 3) := by decide +kernel
theorem d_jdk_42m149_4 : decode jdk_42_method_149_code 4 = .ok (.iload_n 3, 1) := by decide +kernel
theorem d_jdk_42m149_5 : decode jdk_42_method_149_code 5 = .ok (.ifCond .ne 22, 3) := by decide +kernel
theorem d_jdk_42m149_8 : decode jdk_42_method_149_code 8 = .ok (.aload_n 0, 1) := by decide +kernel
theorem d_jdk_42m149_9 : decode jdk_42_method_149_code 9 = .ok (.ldc 7, 2) := by decide +kernel
theorem d_jdk_42m149_11 : decode jdk_42_method_149_code 11 = .ok (.getfield 9, 3) := by decide +kernel
theorem d_jdk_42m149_14 : decode jdk_42_method_149_code 14 = .ok (.putfield 9, 3) := by decide +kernel
theorem d_jdk_42m149_17 : decode jdk_42_method_149_code 17 = .ok (.aload_n 0, 1) := by decide +kernel
theorem d_jdk_42m149_18 : decode jdk_42_method_149_code 18 = .ok (.ldc 7, 2) := by decide +kernel
theorem d_jdk_42m149_20 : decode jdk_42_method_149_code 20 = .ok (.getfield 15, 3) := by decide +kernel
theorem d_jdk_42m149_23 : decode jdk_42_method_149_code 23 = .ok (.putfield 15, 3) := by decide +kernel
theorem d_jdk_42m149_26 : decode jdk_42_method_149_code 26 = .ok (.return_, 1) := by decide +kernel
theorem d_jdk_42m3_0 : decode jdk_42_method_3_code 0 = .ok (.aload_n 0, 1) := by decide +kernel
theorem d_jdk_42m3_1 : decode jdk_42_method_3_code 1 = .ok (.aload_n 1, 1) := by decide +kernel
theorem d_jdk_42m3_2 : decode jdk_42_method_3_code 2 = .ok (.iconst 0, 1) := by decide +kernel
theorem d_jdk_42m3_3 : decode jdk_42_method_3_code 3 = .ok (.aload_n 1, 1) := by decide +kernel
theorem d_jdk_42m3_4 : decode jdk_42_method_3_code 4 = .ok (.arraylength, 1) := by decide +kernel
theorem d_jdk_42m3_5 : decode jdk_42_method_3_code 5 = .ok (.aconst_null, 1) := by decide +kernel
theorem d_jdk_42m3_6 : decode jdk_42_method_3_code 6 = .ok (.invokespecial 27, 3) := by decide +kernel
theorem d_jdk_42m3_9 : decode jdk_42_method_3_code 9 = .ok (.return_, 1) := by decide +kernel
theorem pd0 : parseMethodDescriptor "()Ljava/lang/Throwable;" = some ⟨[], some (.object "java/lang/Throwable")⟩ := by decide +kernel
theorem pd1 : parseMethodDescriptor "(Ljava/lang/String;)V" = some ⟨[(.object "java/lang/String")], none⟩ := by decide +kernel
theorem pd2 : parseMethodDescriptor "(C)Z" = some ⟨[.char], some .boolean⟩ := by decide +kernel
theorem pd3 : parseMethodDescriptor "(C)[B" = some ⟨[.char], some (.array .byte)⟩ := by decide +kernel
theorem pd4 : parseMethodDescriptor "([BB)V" = some ⟨[(.array .byte), .byte], none⟩ := by decide +kernel
theorem pd5 : parseMethodDescriptor "([CIILjava/lang/Void;)V" = some ⟨[(.array .char), .int, .int, (.object "java/lang/Void")], none⟩ := by decide +kernel
theorem pd6 : parseMethodDescriptor "(Ljava/lang/String;ILjava/lang/String;)V" = some ⟨[(.object "java/lang/String"), .int, (.object "java/lang/String")], none⟩ := by decide +kernel
theorem pd7 : parseMethodDescriptor "()Z" = some ⟨[], some .boolean⟩ := by decide +kernel
theorem pd8 : parseMethodDescriptor "([C)V" = some ⟨[(.array .char)], none⟩ := by decide +kernel
theorem pd9 : parseMethodDescriptor "(C)Ljava/lang/String;" = some ⟨[.char], some (.object "java/lang/String")⟩ := by decide +kernel
theorem pn0 : plainName "java/lang/Throwable" = true := by first | (simp [plainName, overriddenIn]; done) | decide +kernel
theorem pn1 : plainName "java/lang/Exception" = true := by first | (simp [plainName, overriddenIn]; done) | decide +kernel
theorem pn2 : plainName "com/example/consentry/consentry/oauth/TokenRequestException" = true := by first | (simp [plainName, overriddenIn]; done) | decide +kernel
theorem pn3 : plainName "java/lang/StringLatin1" = true := by first | (simp [plainName, overriddenIn]; done) | decide +kernel
theorem pn4 : plainName "java/lang/String" = true := by first | (simp [plainName, overriddenIn]; done) | decide +kernel
theorem pn5 : plainName "com/example/consentry/consentry/oauth/TokenRequestExceptionIsTemporaryPinLaw" = true := by first | (simp [plainName, overriddenIn]; done) | decide +kernel
theorem ef0 (m : MethodId) (x0 : Addr) (x1 : Value) (hx1 : x1.isRef = true) : entryFrame m #[(.ref x0), x1] 2 = mkF m 0 #[.val (.ref x0), .val x1] [] := by rcases ref_cases hx1 with rfl | ⟨_, rfl⟩ <;> (first | (simp [entryFrame, mkF, argsToLocals, Value.category]; done) | rfl)
theorem ef1 (m : MethodId) (x0 : Addr) (x1 : Value) (hx1 : x1.isRef = true) : entryFrame m #[(.ref x0), x1] 2 = mkF m 0 #[.val (.ref x0), .val x1] [] := by rcases ref_cases hx1 with rfl | ⟨_, rfl⟩ <;> (first | (simp [entryFrame, mkF, argsToLocals, Value.category]; done) | rfl)
theorem ef2 (m : MethodId) (x0 : Addr) (x1 : Value) (hx1 : x1.isRef = true) (x2 : Int32) (x3 : Value) (hx3 : x3.isRef = true) : entryFrame m #[(.ref x0), x1, (.int x2), x3] 4 = mkF m 0 #[.val (.ref x0), .val x1, .val (.int x2), .val x3] [] := by rcases ref_cases hx1 with rfl | ⟨_, rfl⟩ <;> rcases ref_cases hx3 with rfl | ⟨_, rfl⟩ <;> (first | (simp [entryFrame, mkF, argsToLocals, Value.category]; done) | rfl)
theorem ef3 (m : MethodId) (x0 : Addr) : entryFrame m #[(.ref x0)] 1 = mkF m 0 #[.val (.ref x0)] [] := by (first | (simp [entryFrame, mkF, argsToLocals, Value.category]; done) | rfl)
theorem ef4 (m : MethodId) (x0 : Int32) : entryFrame m #[(.int x0)] 1 = mkF m 0 #[.val (.int x0)] [] := by (first | (simp [entryFrame, mkF, argsToLocals, Value.category]; done) | rfl)
theorem ef5 (m : MethodId) (x0 : Int32) : entryFrame m #[(.int x0)] 1 = mkF m 0 #[.val (.int x0)] [] := by (first | (simp [entryFrame, mkF, argsToLocals, Value.category]; done) | rfl)
theorem ef6 (m : MethodId) (x0 : Addr) (x1 : Addr) : entryFrame m #[(.ref x0), (.ref x1), (.int (0 : Int32))] 3 = mkF m 0 #[.val (.ref x0), .val (.ref x1), .val (.int (0 : Int32))] [] := by (first | (simp [entryFrame, mkF, argsToLocals, Value.category]; done) | rfl)
theorem ef7 (m : MethodId) (x0 : Int32) : entryFrame m #[(.int x0)] 1 = mkF m 0 #[.val (.int x0)] [] := by (first | (simp [entryFrame, mkF, argsToLocals, Value.category]; done) | rfl)
theorem ef8 (m : MethodId) (x0 : Addr) (x1 : Addr) : entryFrame m #[(.ref x0), (.ref x1), (.int (0 : Int32)), (.int (0 : Int32)), .null] 6 = mkF m 0 #[.val (.ref x0), .val (.ref x1), .val (.int (0 : Int32)), .val (.int (0 : Int32)), .val .null, .unset] [] := by (first | (simp [entryFrame, mkF, argsToLocals, Value.category]; done) | rfl)
theorem ef9 (m : MethodId) (x0 : Addr) (x1 : Addr) : entryFrame m #[(.ref x0), (.ref x1)] 2 = mkF m 0 #[.val (.ref x0), .val (.ref x1)] [] := by (first | (simp [entryFrame, mkF, argsToLocals, Value.category]; done) | rfl)
theorem ef10 (m : MethodId) (x0 : Int32) (x1 : Int32) (x2 : Int32) : entryFrame m #[(.int x0), (.int x1), (.int x2)] maxLocals = mkF m 0 #[.val (.int x0), .val (.int x1), .val (.int x2), .unset, .unset, .unset, .unset, .unset, .unset, .unset] [] := by (first | (simp [entryFrame, mkF, argsToLocals, Value.category, maxLocals]; done) | rfl)
/-- the String at x spells cs (Latin-1, at most 4,000 signs) -/
def Str (Z : State) (h : Heap) (x : Addr) (cs : List Int32) : Prop := Exa Z h x StN ∧ Fld Z h x StN "coder" "B" (.int 0) ∧ (∃ t, Fld Z h x StN "value" "[B" (.ref t) ∧ Wk.Ary Z h t .byte ((cs.map fun c => c.toInt8.toInt32).map Value.int)) ∧ (∀ c ∈ cs, ¬ c < 0 ∧ ¬ (255 : Int32) < c) ∧ cs.length ≤ 4000
theorem Str.ext {Z : State} {h h' : Heap} {x : Addr} {cs : List Int32} (F : Str Z h x cs) (E : Ext h h') : Str Z h' x cs := by
  obtain ⟨a, b, ⟨t, c, d⟩, r⟩ := F
  exact ⟨a.ext E, b.ext E, ⟨t, c.ext E, d.ext E⟩, r⟩
theorem Str.lt {Z : State} {h : Heap} {x : Addr} {cs : List Int32} (F : Str Z h x cs) : x < h.size := F.1.lt
theorem strNew {l : Launch} {R : Room} {Z : State} {W : Wk.Wd} {a0 : Array Value} {own nm : String} {code : ByteArray} {maxL : Nat} {ret : Option FieldType} (C : Wk.Cx Z W own nm code maxL ret) (hw : Ws a0 Z) (hs : Sets Z) {h : Heap} (O : Ext Z.heap h) {x b : Addr} {cs : List Int32} {n Wn : Nat} {v0 c0 : Value}
    (hx0 : Z.heap.size ≤ x) (E : Exa Z h x StN) (V : Fld Z h x StN "value" "[B" v0) (Cd : Fld Z h x StN "coder" "B" c0) (K : Wk.Ary Z h b .char (cs.map Value.int)) (hn : cs.length = n) (l0 : 0 < n) (l2 : n ≤ 4000) (hp : ∀ c ∈ cs, ¬ c < 0 ∧ ¬ (255 : Int32) < c) (hfr : 4 ≤ R.frames) (hlo : Wn + 65 ≤ R.locals) :
    Wk.Pays l R W (⟨"java/lang/String", "<init>", "([C)V"⟩ : MethodName) 3 Wn #[.ref x, .ref b] h 1 n (StrChars.Road.QV Z x (Int32.ofNat n) (cs.map fun c => c.toInt8.toInt32) h Z.heap.size) := by
  obtain ⟨z, fm, S1, hz, -, -⟩ := hs
  obtain ⟨kc, A⟩ := K.arv (d := .int 0)
  rw [List.length_map, hn] at A
  have hws : ∀ d ∈ StrChars.Road.words, d.before a0 Z = true := fun d hd => hw d ((by decide +kernel : ∀ d ∈ StrChars.Road.words, d ∈ tables_1) d hd)
  exact StrChars.Road.backV (W := Wn) C.hZ hws (kI := 4) (w1 hw) (cs := cs) hx0 O.1 E V Cd A (S1.ext O) hz hn rfl l0 l2 hp rfl hfr hlo
theorem strNewC {Z : State} {h : Heap} {x : Addr} {cs : List Int32} {n : Nat} (O : Ext Z.heap h) (hx0 : Z.heap.size ≤ x) (hn : cs.length = n) (l2 : n ≤ 4000) (hp : ∀ c ∈ cs, ¬ c < 0 ∧ ¬ (255 : Int32) < c) :
    Wk.Clean Z (fun v h' => v = none ∧ Keep h h' [x] ∧ Str Z h' x cs) (StrChars.Road.QV Z x (Int32.ofNat n) (cs.map fun c => c.toInt8.toInt32) h Z.heap.size) := by
  rintro v h' L ⟨rfl, N, K, E, Cd, t, kb, -, -, -, V, A⟩
  refine ⟨⟨rfl, K, E, Cd, ⟨t, V, Wk.Ary.of_arv A ?_⟩, hp, by omega⟩, Wk.Ext.keep1 (Z := Z) O K hx0, N⟩
  rw [Int32.toNatClampNeg_ofNat_of_lt (by omega)]; simp [hn]
namespace Ww
open Jvm Jvm.ClassFile Sem Op Lib Jvm.Free Jvm.Stand Jvm.LawKit Jvm.RoadKit Wk
def Go (R : Room) (Z : State) (EL : List (String × Nat)) (W : Wd) (Q : Post) (A : State) : Prop :=
  ∃ s₂ o, Steps W.p.tables W.e W.b A s₂ ∧ s₂.status = .running ∧ Ended s₂ W.b o ∧ ∃ v L, o = .returned v ∧ (Q v s₂.heap ∧ Ext Z.heap s₂.heap ∧ Fr Z.heap.size L) ∧ CHr Z EL W.s.vm W.s.heap s₂.vm s₂.heap ∧ ReturnedEndW W.s o s₂ L R.cells R.slots
abbrev At (W : Wd) (vm0 : Vm) : Wd := (W.p, W.e, W.s.setVm vm0, W.m, W.a, W.b, W.t, W.c)
abbrev Std (l : Launch) (R : Room) (W : Wd) (vm0 : Vm) (T : State) (locs : List Loc) (k n : Nat) : Prop := Stand W.p l W.e R (W.s.setVm vm0) W.m W.a W.b W.t W.c T locs k n
def Inv (Z : State) (EL : List (String × Nat)) (W : Wd) (S : List Addr) (vm0 : Vm) (h : Heap) : Prop :=
  (∃ k0, W.s.Since vm0 k0 ∧ k0 ≤ h.size) ∧ Z.Warmed39 vm0 ∧ CHr Z EL W.s.vm W.s.heap vm0 h ∧ ∀ x ∈ S, x < h.size ∧ Safe Z EL vm0 h x
def Run (l : Launch) (R : Room) (Z : State) (EL : List (String × Nat)) (W : Wd) (Q : Post) (S : List Addr) (h : Heap) (k n : Nat) (f : JFrame) : Prop :=
  ∀ vm0 T locs, Std l R W vm0 T locs k n → T.heap = h → Fr Z.heap.size locs → Ext Z.heap h → Inv Z EL W S vm0 h → Go R Z EL W Q (T.setTop f)
section Kit
variable {l : Launch} {R : Room} {Z : State} {EL : List (String × Nat)} {W : Wd} {Q : Post} {S : List Addr} {h : Heap} {k n : Nat} {own nm : String} {code : ByteArray} {maxL : Nat} {ret : Option FieldType} {a0 : Array Value} {pc pc' : Nat} {Ls : Array Slot} {st : List Value}
theorem Inv.hZ {vm0 : Vm} (I : Inv Z EL W S vm0 h) : Z.Warmed39 (W.s.setVm vm0).vm := I.2.1
theorem Inv.ow {vm0 : Vm} (I : Inv Z EL W S vm0 h) (C : Cx Z W own nm code maxL ret) : (W.s.setVm vm0).vm.findClass own = some W.m.cls := by
  obtain ⟨k0, hS, -⟩ := I.1
  show vm0.findClass own = _
  rw [hS.1.alike.findClass]; exact C.ow
theorem Inv.cx {vm0 : Vm} (I : Inv Z EL W S vm0 h) (C : Cx Z W own nm code maxL ret) : Cx Z (At W vm0) own nm code maxL ret :=
  let al := (Exists.elim I.1 fun _ q => q.1.1.alike : W.s.vm.Alike vm0); ⟨C.1, C.2.1, C.2.2.1, I.ow C, I.hZ, C.2.2.2.2.2.1, C.2.2.2.2.2.2.1, C.lk, Vm.MethodsKnown.alikeC al C.tk, Vm.FramesKnown.alikeC al C.fk, C.e0⟩
theorem Inv.ch {vm0 : Vm} (I : Inv Z EL W S vm0 h) : CHv Z EL vm0 h := I.2.2.1.1
theorem Inv.ext {vm0 : Vm} {h' : Heap} (I : Inv Z EL W S vm0 h) (E : Ext h h') : Inv Z EL W S vm0 h' := by
  obtain ⟨⟨k0, hS, hk⟩, hZ, hr, hs⟩ := I
  exact ⟨⟨k0, hS, Nat.le_trans hk E.1⟩, hZ, hr.trans (CHr.ext E hr.1), fun x hx => ⟨Nat.lt_of_lt_of_le (hs x hx).1 E.1, (hs x hx).2.ext E hr.1⟩⟩
theorem Inv.keep {vm0 : Vm} {h' : Heap} {ws : List Addr} (I : Inv Z EL W S vm0 h) (K : Keep h h' ws) (q : ∀ x ∈ ws, x ∈ S) : Inv Z EL W S vm0 h' := by
  obtain ⟨⟨k0, hS, hk⟩, hZ, hr, hs⟩ := I
  have hq : ∀ x ∈ ws, Safe Z EL vm0 h x := fun x hx => (hs x (q x hx)).2
  exact ⟨⟨k0, hS, Nat.le_trans hk K.1⟩, hZ, hr.trans (CHr.keep K hq hr.1), fun x hx => ⟨Nat.lt_of_lt_of_le (hs x hx).1 K.1, (hs x hx).2.keep K hq hr.1⟩⟩
theorem Inv.add {vm0 : Vm} {x : Addr} (I : Inv Z EL W S vm0 h) (hx : x < h.size) (sf : Safe Z EL vm0 h x) : Inv Z EL W (x :: S) vm0 h :=
  ⟨I.1, I.2.1, I.2.2.1, fun y hy => (List.mem_cons.mp hy).elim (fun e => e ▸ ⟨hx, sf⟩) (I.2.2.2 y)⟩
theorem Inv.fresh {vm0 : Vm} {h' : Heap} (I : Inv Z EL W S vm0 h) (E : Ext h h') (hx : h.size < h'.size) : Inv Z EL W (h.size :: S) vm0 h' :=
  (I.ext E).add hx ((Safe.new (Nat.le_refl _)).ext E I.ch)
theorem Go.step {A B : State} (f : ∀ t, Steps W.p.tables W.e W.b B t → Steps W.p.tables W.e W.b A t) (g : Go R Z EL W Q B) : Go R Z EL W Q A := by
  obtain ⟨t, o, h1, r⟩ := g
  exact ⟨t, o, f t h1, r⟩
theorem Run.one {g g' : JFrame} (f : ∀ vm0 T locs, Std l R W vm0 T locs k n → T.heap = h → Inv Z EL W S vm0 h → ∀ t, Steps W.p.tables W.e W.b (T.setTop g') t → Steps W.p.tables W.e W.b (T.setTop g) t) (r : Run l R Z EL W Q S h k n g') : Run l R Z EL W Q S h k n g :=
  fun vm0 T locs X eT N O I => Go.step (f vm0 T locs X eT I) (r vm0 T locs X eT N O I)
theorem Run.old {f : JFrame} (r : Ext Z.heap h → Run l R Z EL W Q S h k n f) : Run l R Z EL W Q S h k n f := fun vm0 T locs X eT N O I => r O vm0 T locs X eT N O I
theorem Run.grow {f : JFrame} {k' n' : Nat} (hk : k ≤ k') (hn : n ≤ n') (r : Run l R Z EL W Q S h k' n' f) : Run l R Z EL W Q S h k n f := fun vm0 T locs X eT N O I =>
  r vm0 T locs ⟨X.admits, X.cas, X.clock, X.frames, X.room, X.hears, X.method, X.code, X.here, X.tail, X.warmed, X.limits, X.bytes, X.same.mono hk hn⟩ eT N O I
theorem Run.less {f : JFrame} {S' : List Addr} (q : ∀ x ∈ S', x ∈ S) (r : Run l R Z EL W Q S' h k n f) : Run l R Z EL W Q S h k n f := fun vm0 T locs X eT N O I => r vm0 T locs X eT N O ⟨I.1, I.2.1, I.2.2.1, fun x hx => I.2.2.2 x (q x hx)⟩
/-- what is no constant of EL's, by what it holds -/
def SafeAt (Z : State) (EL : List (String × Nat)) (h : Heap) (x : Addr) : Prop := ∀ vm, Z.vm.Alike vm → CHv Z EL vm h → Safe Z EL vm h x
theorem Run.safe {f : JFrame} {x : Addr} (hx : x < h.size) (sf : SafeAt Z EL h x) (r : Run l R Z EL W Q (x :: S) h k n f) : Run l R Z EL W Q S h k n f :=
  fun vm0 T locs X eT N O I => r vm0 T locs X eT N O (I.add hx (sf vm0 I.2.1.alike I.ch))
theorem SafeAt.str0 {x : Addr} (E : Exa Z h x "java/lang/String") (V : Fld Z h x "java/lang/String" "value" "[B" .null) : SafeAt Z EL h x := fun vm al _ B => by
  obtain ⟨p, -, u, a, -, q, -, F, rfl | rfl⟩ := B
  · obtain ⟨cS, ⟨⟨ha, -, -, ⟨c1, k1, i1, f1, -⟩, -, -, -, v1, -⟩, -⟩, -⟩ := F
    obtain ⟨cell, cf, k, i, f, h1, h2, -, -, -, -, h7⟩ := V
    cases (show h[q.sa]? = some q.sC from ha).symm.trans h1
    obtain ⟨k3, e3, -⟩ := State.fieldFound?_setVm (s := Z) al h2
    have e4 := (show (Wst Z vm h).fieldFound? _ _ _ = _ from e3).symm.trans f1
    simp only [Option.some.injEq, Prod.mk.injEq] at e4
    rw [e4.2.2.2, v1] at h7
    cases h7
  · obtain ⟨cell, k, e1, e2, -⟩ := E
    cases (show h[q.sd]? = some q.SA from F.hd).symm.trans e1
    obtain ⟨cS, -, -, f, -⟩ := F
    have f' : Z.vm.findClass "[B" = some q.SA.cls := by rw [← al.findClass]; exact f
    exact ids_ne f' e2 (by decide) rfl
theorem iloadN (C : Cx Z W own nm code maxL ret) {i : Fin 4} {v : Int32} (hd : decode code pc = .ok (.iload_n i, 1)) (hl : Ls[i.val]? = some (.val (.int v))) (hp : pc + 1 = pc')
    (r : Run l R Z EL W Q S h k n (mkF W.m pc' Ls (.int v :: st))) : Run l R Z EL W Q S h k n (mkF W.m pc Ls (st)) := by
  subst hp
  exact Run.one (fun vm0 T locs X _ I t g => XS.iloadN X.here C.hx rfl (C.hb hd) hl g) r
theorem iload (C : Cx Z W own nm code maxL ret) {i : Nat} {v : Int32} (hd : decode code pc = .ok (.iload i, 2)) (hl : Ls[i]? = some (.val (.int v))) (hp : pc + 2 = pc')
    (r : Run l R Z EL W Q S h k n (mkF W.m pc' Ls (.int v :: st))) : Run l R Z EL W Q S h k n (mkF W.m pc Ls (st)) := by
  subst hp
  exact Run.one (fun vm0 T locs X _ I t g => XS.iload X.here C.hx rfl (C.hb hd) hl g) r
theorem aloadN (C : Cx Z W own nm code maxL ret) {i : Fin 4} {v : Value} (hd : decode code pc = .ok (.aload_n i, 1)) (hl : Ls[i.val]? = some (.val v)) (hv : v.isRef = true) (hp : pc + 1 = pc')
    (r : Run l R Z EL W Q S h k n (mkF W.m pc' Ls (v :: st))) : Run l R Z EL W Q S h k n (mkF W.m pc Ls (st)) := by
  subst hp
  exact Run.one (fun vm0 T locs X _ I t g => XS.aloadN X.here C.hx rfl (C.hb hd) hl hv g) r
theorem aload (C : Cx Z W own nm code maxL ret) {i : Nat} {v : Value} (hd : decode code pc = .ok (.aload i, 2)) (hl : Ls[i]? = some (.val v)) (hv : v.isRef = true) (hp : pc + 2 = pc')
    (r : Run l R Z EL W Q S h k n (mkF W.m pc' Ls (v :: st))) : Run l R Z EL W Q S h k n (mkF W.m pc Ls (st)) := by
  subst hp
  exact Run.one (fun vm0 T locs X _ I t g => XS.aload X.here C.hx rfl (C.hb hd) hl hv g) r
theorem istoreN (C : Cx Z W own nm code maxL ret) {i : Fin 4} {v : Int32} {Ls' : Array Slot} (hd : decode code pc = .ok (.istore_n i, 1)) (hl : storeLocals Ls i.val (.int v) = some Ls') (hp : pc + 1 = pc')
    (r : Run l R Z EL W Q S h k n (mkF W.m pc' Ls' (st))) : Run l R Z EL W Q S h k n (mkF W.m pc Ls (.int v :: st)) := by
  subst hp
  exact Run.one (fun vm0 T locs X _ I t g => XS.istoreN X.here C.hx rfl (C.hb hd) rfl hl g) r
theorem istore (C : Cx Z W own nm code maxL ret) {i : Nat} {v : Int32} {Ls' : Array Slot} (hd : decode code pc = .ok (.istore i, 2)) (hl : storeLocals Ls i (.int v) = some Ls') (hp : pc + 2 = pc')
    (r : Run l R Z EL W Q S h k n (mkF W.m pc' Ls' (st))) : Run l R Z EL W Q S h k n (mkF W.m pc Ls (.int v :: st)) := by
  subst hp
  exact Run.one (fun vm0 T locs X _ I t g => XS.istore X.here C.hx rfl (C.hb hd) rfl hl g) r
theorem astoreN (C : Cx Z W own nm code maxL ret) {i : Fin 4} {v : Value} {Ls' : Array Slot} (hd : decode code pc = .ok (.astore_n i, 1)) (hv : v.isRef = true) (hl : storeLocals Ls i.val v = some Ls') (hp : pc + 1 = pc')
    (r : Run l R Z EL W Q S h k n (mkF W.m pc' Ls' (st))) : Run l R Z EL W Q S h k n (mkF W.m pc Ls (v :: st)) := by
  subst hp
  exact Run.one (fun vm0 T locs X _ I t g => XS.astoreN X.here C.hx rfl (C.hb hd) rfl hv hl g) r
theorem astore (C : Cx Z W own nm code maxL ret) {i : Nat} {v : Value} {Ls' : Array Slot} (hd : decode code pc = .ok (.astore i, 2)) (hv : v.isRef = true) (hl : storeLocals Ls i v = some Ls') (hp : pc + 2 = pc')
    (r : Run l R Z EL W Q S h k n (mkF W.m pc' Ls' (st))) : Run l R Z EL W Q S h k n (mkF W.m pc Ls (v :: st)) := by
  subst hp
  exact Run.one (fun vm0 T locs X _ I t g => XS.astore X.here C.hx rfl (C.hb hd) rfl hv hl g) r
theorem iconst (C : Cx Z W own nm code maxL ret) {i : Int} {v : Int32} (hd : decode code pc = .ok (.iconst i, 1)) (hv : Int32.ofInt i = v) (hp : pc + 1 = pc')
    (r : Run l R Z EL W Q S h k n (mkF W.m pc' Ls (.int v :: st))) : Run l R Z EL W Q S h k n (mkF W.m pc Ls (st)) := by
  subst hp
  exact Run.one (fun vm0 T locs X _ I t g => XS.iconst X.here C.hx rfl (C.hb hd) (hv ▸ g)) r
theorem bipush (C : Cx Z W own nm code maxL ret) {i : Int} {v : Int32} (hd : decode code pc = .ok (.bipush i, 2)) (hv : (Int8.ofInt i).toInt32 = v) (hp : pc + 2 = pc')
    (r : Run l R Z EL W Q S h k n (mkF W.m pc' Ls (.int v :: st))) : Run l R Z EL W Q S h k n (mkF W.m pc Ls (st)) := by
  subst hp
  exact Run.one (fun vm0 T locs X _ I t g => XS.bipush X.here C.hx rfl (C.hb hd) (hv ▸ g)) r
theorem sipush (C : Cx Z W own nm code maxL ret) {i : Int} {v : Int32} (hd : decode code pc = .ok (.sipush i, 3)) (hv : (Int16.ofInt i).toInt32 = v) (hp : pc + 3 = pc')
    (r : Run l R Z EL W Q S h k n (mkF W.m pc' Ls (.int v :: st))) : Run l R Z EL W Q S h k n (mkF W.m pc Ls (st)) := by
  subst hp
  exact Run.one (fun vm0 T locs X _ I t g => XS.sipush X.here C.hx rfl (C.hb hd) (hv ▸ g)) r
theorem aconstNull (C : Cx Z W own nm code maxL ret)  (hd : decode code pc = .ok (.aconst_null, 1)) (hp : pc + 1 = pc')
    (r : Run l R Z EL W Q S h k n (mkF W.m pc' Ls (.null :: st))) : Run l R Z EL W Q S h k n (mkF W.m pc Ls (st)) := by
  subst hp
  exact Run.one (fun vm0 T locs X _ I t g => XS.aconstNull X.here C.hx rfl (C.hb hd) g) r
theorem isub (C : Cx Z W own nm code maxL ret) {x y v : Int32} (hd : decode code pc = .ok (.isub, 1)) (hv : x - y = v) (hp : pc + 1 = pc')
    (r : Run l R Z EL W Q S h k n (mkF W.m pc' Ls (.int v :: st))) : Run l R Z EL W Q S h k n (mkF W.m pc Ls (.int y :: .int x :: st)) := by
  subst hp
  exact Run.one (fun vm0 T locs X _ I t g => XS.isub X.here C.hx rfl (C.hb hd) rfl (hv ▸ g)) r
theorem iand (C : Cx Z W own nm code maxL ret) {x y v : Int32} (hd : decode code pc = .ok (.iand, 1)) (hv : x &&& y = v) (hp : pc + 1 = pc')
    (r : Run l R Z EL W Q S h k n (mkF W.m pc' Ls (.int v :: st))) : Run l R Z EL W Q S h k n (mkF W.m pc Ls (.int y :: .int x :: st)) := by
  subst hp
  exact Run.one (fun vm0 T locs X _ I t g => XS.iand X.here C.hx rfl (C.hb hd) rfl (hv ▸ g)) r
theorem idiv (C : Cx Z W own nm code maxL ret) {x y v : Int32} (hd : decode code pc = .ok (.idiv, 1)) (hy : ¬ y = 0) (hv : x / y = v) (hp : pc + 1 = pc')
    (r : Run l R Z EL W Q S h k n (mkF W.m pc' Ls (.int v :: st))) : Run l R Z EL W Q S h k n (mkF W.m pc Ls (.int y :: .int x :: st)) := by
  subst hp
  exact Run.one (fun vm0 T locs X _ I t g => XS.idiv X.here C.hx rfl (C.hb hd) rfl hy (hv ▸ g)) r
theorem irem (C : Cx Z W own nm code maxL ret) {x y v : Int32} (hd : decode code pc = .ok (.irem, 1)) (hy : ¬ y = 0) (hv : x % y = v) (hp : pc + 1 = pc')
    (r : Run l R Z EL W Q S h k n (mkF W.m pc' Ls (.int v :: st))) : Run l R Z EL W Q S h k n (mkF W.m pc Ls (.int y :: .int x :: st)) := by
  subst hp
  exact Run.one (fun vm0 T locs X _ I t g => iremM X C.hx rfl (C.hb hd) rfl hy (hv ▸ g)) r
theorem iushr (C : Cx Z W own nm code maxL ret) {x y v : Int32} (hd : decode code pc = .ok (.iushr, 1)) (hv : (x.toUInt32 >>> (y &&& 31).toUInt32).toInt32 = v) (hp : pc + 1 = pc')
    (r : Run l R Z EL W Q S h k n (mkF W.m pc' Ls (.int v :: st))) : Run l R Z EL W Q S h k n (mkF W.m pc Ls (.int y :: .int x :: st)) := by
  subst hp
  exact Run.one (fun vm0 T locs X _ I t g => XS.iushr X.here C.hx rfl (C.hb hd) rfl (hv ▸ g)) r
theorem i2b (C : Cx Z W own nm code maxL ret) {x : Int32} {v : Int32} (hd : decode code pc = .ok (.i2b, 1)) (hv : x.toInt8.toInt32 = v) (hp : pc + 1 = pc')
    (r : Run l R Z EL W Q S h k n (mkF W.m pc' Ls (.int v :: st))) : Run l R Z EL W Q S h k n (mkF W.m pc Ls (.int x :: st)) := by
  subst hp
  exact Run.one (fun vm0 T locs X _ I t g => XS.i2b X.here C.hx rfl (C.hb hd) rfl (hv ▸ g)) r
theorem i2c (C : Cx Z W own nm code maxL ret) {x : Int32} {v : Int32} (hd : decode code pc = .ok (.i2c, 1)) (hv : x.toUInt32.toUInt16.toUInt32.toInt32 = v) (hp : pc + 1 = pc')
    (r : Run l R Z EL W Q S h k n (mkF W.m pc' Ls (.int v :: st))) : Run l R Z EL W Q S h k n (mkF W.m pc Ls (.int x :: st)) := by
  subst hp
  exact Run.one (fun vm0 T locs X _ I t g => XS.i2c X.here C.hx rfl (C.hb hd) rfl (hv ▸ g)) r
theorem dup (C : Cx Z W own nm code maxL ret) {v : Value} (hd : decode code pc = .ok (.dup, 1)) (hc : v.category = 1) (hp : pc + 1 = pc')
    (r : Run l R Z EL W Q S h k n (mkF W.m pc' Ls (v :: v :: st))) : Run l R Z EL W Q S h k n (mkF W.m pc Ls (v :: st)) := by
  subst hp
  exact Run.one (fun vm0 T locs X _ I t g => XS.dup X.here C.hx rfl (C.hb hd) rfl hc g) r
theorem pop (C : Cx Z W own nm code maxL ret) {v : Value} (hd : decode code pc = .ok (.pop, 1)) (hc : v.category = 1) (hp : pc + 1 = pc')
    (r : Run l R Z EL W Q S h k n (mkF W.m pc' Ls (st))) : Run l R Z EL W Q S h k n (mkF W.m pc Ls (v :: st)) := by
  subst hp
  exact Run.one (fun vm0 T locs X _ I t g => XS.pop X.here C.hx rfl (C.hb hd) rfl hc g) r
theorem iinc (C : Cx Z W own nm code maxL ret) {i : Nat} {d : Int} {x v : Int32} {Ls' : Array Slot} (hd : decode code pc = .ok (.iinc i d, 3)) (hl : Ls[i]? = some (.val (.int x))) (hv : x + Int32.ofInt d = v) (hl' : storeLocals Ls i (.int v) = some Ls') (hp : pc + 3 = pc')
    (r : Run l R Z EL W Q S h k n (mkF W.m pc' Ls' st)) : Run l R Z EL W Q S h k n (mkF W.m pc Ls st) := by
  subst hp hv
  exact Run.one (fun vm0 T locs X _ I t g => XS.iinc X.here C.hx rfl (C.hb hd) hl hl' g) r
theorem goto (C : Cx Z W own nm code maxL ret) {o : Int} (hd : decode code pc = .ok (.goto o, 3)) (ho : 0 ≤ (pc : Int) + o) (hp : ((pc : Int) + o).toNat = pc')
    (r : Run l R Z EL W Q S h k n (mkF W.m pc' Ls st)) : Run l R Z EL W Q S h k n (mkF W.m pc Ls st) :=
  Run.one (fun vm0 T locs X _ I t g => XS.goto X.here C.hx rfl rfl (C.hb hd) ho hp g) r
theorem icmp_eq (C : Cx Z W own nm code maxL ret) {x y : Int32} {o : Int} {pcT : Nat} (hd : decode code pc = .ok (.if_icmp .eq o, 3)) (ho : 0 ≤ (pc : Int) + o) (hp : ((pc : Int) + o).toNat = pcT) (hp' : pc + 3 = pc')
    (rt : x = y → Run l R Z EL W Q S h k n (mkF W.m pcT Ls st)) (rf : ¬ x = y → Run l R Z EL W Q S h k n (mkF W.m pc' Ls st)) : Run l R Z EL W Q S h k n (mkF W.m pc Ls (.int y :: .int x :: st)) := by
  subst hp'
  by_cases q : x = y
  · exact Run.one (fun vm0 T locs X _ I t g => XS.icmpYes X.here C.hx rfl rfl (C.hb hd) rfl (teq q).1 ho hp g) (rt q)
  · exact Run.one (fun vm0 T locs X _ I t g => XS.icmpNo X.here C.hx rfl (C.hb hd) rfl (feq q).1 g) (rf q)
theorem if_eq (C : Cx Z W own nm code maxL ret) {x : Int32} {o : Int} {pcT : Nat} (hd : decode code pc = .ok (.ifCond .eq o, 3)) (ho : 0 ≤ (pc : Int) + o) (hp : ((pc : Int) + o).toNat = pcT) (hp' : pc + 3 = pc')
    (rt : x = (0 : Int32) → Run l R Z EL W Q S h k n (mkF W.m pcT Ls st)) (rf : ¬ x = (0 : Int32) → Run l R Z EL W Q S h k n (mkF W.m pc' Ls st)) : Run l R Z EL W Q S h k n (mkF W.m pc Ls (.int x :: st)) := by
  subst hp'
  by_cases q : x = (0 : Int32)
  · exact Run.one (fun vm0 T locs X _ I t g => XS.ifYes X.here C.hx rfl rfl (C.hb hd) rfl ((if0 _ _).trans (teq q).1) ho hp g) (rt q)
  · exact Run.one (fun vm0 T locs X _ I t g => XS.ifNo X.here C.hx rfl (C.hb hd) rfl ((if0 _ _).trans (feq q).1) g) (rf q)
theorem icmp_ne (C : Cx Z W own nm code maxL ret) {x y : Int32} {o : Int} {pcT : Nat} (hd : decode code pc = .ok (.if_icmp .ne o, 3)) (ho : 0 ≤ (pc : Int) + o) (hp : ((pc : Int) + o).toNat = pcT) (hp' : pc + 3 = pc')
    (rt : ¬ x = y → Run l R Z EL W Q S h k n (mkF W.m pcT Ls st)) (rf : x = y → Run l R Z EL W Q S h k n (mkF W.m pc' Ls st)) : Run l R Z EL W Q S h k n (mkF W.m pc Ls (.int y :: .int x :: st)) := by
  subst hp'
  by_cases q : x = y
  · exact Run.one (fun vm0 T locs X _ I t g => XS.icmpNo X.here C.hx rfl (C.hb hd) rfl (teq q).2 g) (rf q)
  · exact Run.one (fun vm0 T locs X _ I t g => XS.icmpYes X.here C.hx rfl rfl (C.hb hd) rfl (feq q).2 ho hp g) (rt q)
theorem if_ne (C : Cx Z W own nm code maxL ret) {x : Int32} {o : Int} {pcT : Nat} (hd : decode code pc = .ok (.ifCond .ne o, 3)) (ho : 0 ≤ (pc : Int) + o) (hp : ((pc : Int) + o).toNat = pcT) (hp' : pc + 3 = pc')
    (rt : ¬ x = (0 : Int32) → Run l R Z EL W Q S h k n (mkF W.m pcT Ls st)) (rf : x = (0 : Int32) → Run l R Z EL W Q S h k n (mkF W.m pc' Ls st)) : Run l R Z EL W Q S h k n (mkF W.m pc Ls (.int x :: st)) := by
  subst hp'
  by_cases q : x = (0 : Int32)
  · exact Run.one (fun vm0 T locs X _ I t g => XS.ifNo X.here C.hx rfl (C.hb hd) rfl ((if0 _ _).trans (teq q).2) g) (rf q)
  · exact Run.one (fun vm0 T locs X _ I t g => XS.ifYes X.here C.hx rfl rfl (C.hb hd) rfl ((if0 _ _).trans (feq q).2) ho hp g) (rt q)
theorem icmp_gt (C : Cx Z W own nm code maxL ret) {x y : Int32} {o : Int} {pcT : Nat} (hd : decode code pc = .ok (.if_icmp .gt o, 3)) (ho : 0 ≤ (pc : Int) + o) (hp : ((pc : Int) + o).toNat = pcT) (hp' : pc + 3 = pc')
    (rt : y < x → Run l R Z EL W Q S h k n (mkF W.m pcT Ls st)) (rf : ¬ y < x → Run l R Z EL W Q S h k n (mkF W.m pc' Ls st)) : Run l R Z EL W Q S h k n (mkF W.m pc Ls (.int y :: .int x :: st)) := by
  subst hp'
  by_cases q : y < x
  · exact Run.one (fun vm0 T locs X _ I t g => XS.icmpYes X.here C.hx rfl rfl (C.hb hd) rfl (tlt q).2.2.1 ho hp g) (rt q)
  · exact Run.one (fun vm0 T locs X _ I t g => XS.icmpNo X.here C.hx rfl (C.hb hd) rfl (flt q).2.2.1 g) (rf q)
theorem ifnonnullY (C : Cx Z W own nm code maxL ret) {o : Int} {b : Addr} (hd : decode code pc = .ok (.ifnonnull o, 3)) (ho : 0 ≤ (pc : Int) + o) (hp : ((pc : Int) + o).toNat = pc') (r : Run l R Z EL W Q S h k n (mkF W.m pc' Ls st)) : Run l R Z EL W Q S h k n (mkF W.m pc Ls (.ref b :: st)) :=
  Run.one (fun vm0 T locs X _ I t g => XS.ifnonnullYes X.here C.hx rfl rfl (C.hb hd) rfl ho hp g) r
theorem ifnonnullN (C : Cx Z W own nm code maxL ret) {o : Int} (hd : decode code pc = .ok (.ifnonnull o, 3)) (hp : pc + 3 = pc') (r : Run l R Z EL W Q S h k n (mkF W.m pc' Ls st)) : Run l R Z EL W Q S h k n (mkF W.m pc Ls (.null :: st)) := by
  subst hp
  exact Run.one (fun vm0 T locs X _ I t g => XS.ifnonnullNo X.here C.hx rfl (C.hb hd) rfl g) r
theorem Run.via {g g' : JFrame} (f : ∀ vm0 T locs, Std l R W vm0 T locs k n → T.heap = h → Inv Z EL W S vm0 h → ∃ T', Std l R W vm0 T' locs k n ∧ T'.heap = h ∧ ∀ t, Steps W.p.tables W.e W.b (T'.setTop g') t → Steps W.p.tables W.e W.b (T.setTop g) t) (r : Run l R Z EL W Q S h k n g') : Run l R Z EL W Q S h k n g :=
  fun vm0 T locs X eT N O I => by
    obtain ⟨T', X', e', s'⟩ := f vm0 T locs X eT I
    exact Go.step s' (r vm0 T' locs X' e' N O I)
theorem getF (C : Cx Z W own nm code maxL ret) {R0 O nmF d : String} {ix : Nat} (hd : decode code pc = .ok (.getfield ix, 3)) (w : (Cond.fieldLink own ix R0 nmF d).before a0 Z = true) (via : Via Z R0 O nmF d) {a : Addr} {v : Value} (F : Fld Z h a O nmF d v) (hp : pc + 3 = pc')
    (r : Run l R Z EL W Q S h k n (mkF W.m pc' Ls (v :: st))) : Run l R Z EL W Q S h k n (mkF W.m pc Ls (.ref a :: st)) := by
  subst hp
  exact Run.via (fun vm0 T locs X eT I => RoadKit.getF X C.hx I.hZ (I.ow C) (host := "") (Or.inl w) via eT F (g := mkF W.m pc Ls (.ref a :: st)) rfl rfl (C.hb hd)) r
theorem getS (C : Cx Z W own nm code maxL ret) {R0 O nmF d : String} {ix : Nat} (hd : decode code pc = .ok (.getstatic ix, 3)) (w : (Cond.fieldLink own ix R0 nmF d).before a0 Z = true) (via : Via Z R0 O nmF d) {v : Value} (F : Sta Z h O nmF d v) (hp : pc + 3 = pc')
    (r : Run l R Z EL W Q S h k n (mkF W.m pc' Ls (v :: st))) : Run l R Z EL W Q S h k n (mkF W.m pc Ls st) := by
  subst hp
  exact Run.via (fun vm0 T locs X eT I => getS2 X C.hx I.hZ (I.ow C) (host := "") (Or.inl w) via eT F (g := mkF W.m pc Ls st) rfl (C.hb hd)) r
theorem alen (C : Cx Z W own nm code maxL ret) (hd : decode code pc = .ok (.arraylength, 1)) {a : Addr} {ty : FieldType} {vs : List Value} {z : Int32} (F : Ary Z h a ty vs) (hz : Int32.ofNat vs.length = z) (hp : pc + 1 = pc')
    (r : Run l R Z EL W Q S h k n (mkF W.m pc' Ls (.int z :: st))) : Run l R Z EL W Q S h k n (mkF W.m pc Ls (.ref a :: st)) := by
  subst hp hz
  obtain ⟨c, A, e, -⟩ := F
  have e2 : c.slots.size.toInt32 = Int32.ofNat vs.length := by rw [e]; simp
  exact Run.one (fun vm0 T locs X eT I t g => X.arraylength C.hx (by rw [eT]; exact A.1) (State.isArrayOf_alike I.hZ.alike A.2.1) (g := mkF W.m pc Ls (.ref a :: st)) rfl rfl (C.hb hd) t (by rw [e2]; exact g)) r
theorem caload (C : Cx Z W own nm code maxL ret) (hd : decode code pc = .ok (.caload, 1)) {a : Addr} {vs : List Value} {j : Int32} {v : Value} (F : Ary Z h a .char vs) (h0 : ¬ j < 0) (hv : vs[j.toNatClampNeg]? = some v) (hp : pc + 1 = pc')
    (r : Run l R Z EL W Q S h k n (mkF W.m pc' Ls (v :: st))) : Run l R Z EL W Q S h k n (mkF W.m pc Ls (.int j :: .ref a :: st)) := by
  subst hp
  obtain ⟨c, A, e, -⟩ := F
  have h1 : j.toNatClampNeg < vs.length := (List.getElem?_eq_some_iff.mp hv).1
  exact Run.one (fun vm0 T locs X eT I t g => X.caload C.hx (by rw [eT]; exact A.1) (State.isArrayOf_alike I.hZ.alike A.2.1) A.2.2 (Ary.inb (a := a) (ty := .char) e h0 h1) (by rw [e]; simpa using hv) (g := mkF W.m pc Ls (.int j :: .ref a :: st)) rfl rfl (C.hb hd) t g) r
theorem Run.wrote {a : Addr} {sl : Nat} {v : Value} {g g' : JFrame} (ha : Z.heap.size ≤ a) (hs : a ∈ S) (f : ∀ vm0 T locs, Std l R W vm0 T locs k n → T.heap = h → Inv Z EL W S vm0 h → ∃ T' h', Std l R W vm0 T' (locs ++ [⟨a, sl⟩]) k n ∧ T'.heap = h' ∧ Wr h h' a sl v ∧ ∀ t, Steps W.p.tables W.e W.b (T'.setTop g') t → Steps W.p.tables W.e W.b (T.setTop g) t)
    (r : ∀ h', Wr h h' a sl v → Ext Z.heap h' → Run l R Z EL W Q S h' k n g') : Run l R Z EL W Q S h k n g := fun vm0 T locs X eT N O I => by
  obtain ⟨T', h', X', e', w', s'⟩ := f vm0 T locs X eT I
  have O' : Ext Z.heap h' := ((old_of O).wr w' ha).2
  exact Go.step s' (r h' w' O' vm0 T' _ X' e' (Fr.snoc X' N ha) O' (I.keep (Keep.of_wr w') fun x hx => by cases List.mem_singleton.mp hx; exact hs))
theorem putF (C : Cx Z W own nm code maxL ret) {R0 O nmF d K : String} {ix kk : Nat} {ty : FieldType} (hd : decode code pc = .ok (.putfield ix, 3)) (w : (Cond.fieldLink own ix R0 nmF d).before a0 Z = true) (via : Via Z R0 O nmF d) {a : Addr} {v old : Value} (F : Fld Z h a O nmF d old) (E : Exa Z h a K)
    (L : (Cond.lays K O nmF d).before a0 Z = true ∨ ((Cond.laysFinal K O nmF d).before a0 Z = true ∧ own = O ∧ nm = "<init>")) (wi : (Cond.instantiable K kk).before a0 Z = true) (hty : parseFieldDescriptor d = some ty) (hn : narrow ty v = v) (hf : fits ty v = true) (ha : Z.heap.size ≤ a) (hs' : a ∈ S) (hp : pc + 3 = pc')
    (r : ∀ h', Wr h h' a (RoadKit.slotOf Z O nmF d) v → Ext Z.heap h' → Run l R Z EL W Q S h' k n (mkF W.m pc' Ls st)) : Run l R Z EL W Q S h k n (mkF W.m pc Ls (v :: .ref a :: st)) := by
  subst hp
  exact Run.wrote ha hs' (fun vm0 T locs X eT I => RoadKit.putF X C.hx I.hZ (I.ow C) (host := "") (Or.inl w) via eT F E (L.imp id fun q => ⟨q.1, q.2.1, C.nme.trans q.2.2⟩) wi hty hn hf (g := mkF W.m pc Ls (v :: .ref a :: st)) rfl rfl (C.hb hd)) r
theorem castore (C : Cx Z W own nm code maxL ret) (hd : decode code pc = .ok (.castore, 1)) {a : Addr} {vs vs' : List Value} {j x : Int32} (F : Ary Z h a .char vs) (h0 : ¬ j < 0) (h1 : j.toNatClampNeg < vs.length) (hx : nar .char x = x) (hs : vs.set j.toNatClampNeg (.int x) = vs') (ha : Z.heap.size ≤ a) (hs' : a ∈ S) (hp : pc + 1 = pc')
    (r : ∀ h', Wr h h' a j.toNatClampNeg (.int x) → Ary Z h' a .char vs' → Ext Z.heap h' → Run l R Z EL W Q S h' k n (mkF W.m pc' Ls st)) : Run l R Z EL W Q S h k n (mkF W.m pc Ls (.int x :: .int j :: .ref a :: st)) := by
  subst hp hs
  have F' := F
  obtain ⟨c, A, e, -⟩ := F'
  exact Run.wrote ha hs' (fun vm0 T locs X eT I => by have w0 := RoadKit.stC X C.hx I.hZ eT A (Ary.inb (a := a) (ty := .char) e h0 h1) (g := mkF W.m pc Ls (.int x :: .int j :: .ref a :: st)) rfl rfl (C.hb hd); rw [hx] at w0; exact w0) (fun h' w' O' => r h' w' (F.set w' (hx ▸ fits_nar_char x)) O')
theorem bastore (C : Cx Z W own nm code maxL ret) (hd : decode code pc = .ok (.bastore, 1)) {a : Addr} {vs vs' : List Value} {j x : Int32} (F : Ary Z h a .byte vs) (h0 : ¬ j < 0) (h1 : j.toNatClampNeg < vs.length) (hs : vs.set j.toNatClampNeg (.int (nar .byte x)) = vs') (ha : Z.heap.size ≤ a) (hs' : a ∈ S) (hp : pc + 1 = pc')
    (r : ∀ h', Wr h h' a j.toNatClampNeg (.int (nar .byte x)) → Ary Z h' a .byte vs' → Ext Z.heap h' → Run l R Z EL W Q S h' k n (mkF W.m pc' Ls st)) : Run l R Z EL W Q S h k n (mkF W.m pc Ls (.int x :: .int j :: .ref a :: st)) := by
  subst hp hs
  have F' := F
  obtain ⟨c, A, e, -⟩ := F'
  exact Run.wrote ha hs' (fun vm0 T locs X eT I => by have w0 := RoadKit.stB X C.hx I.hZ eT A (Ary.inb (a := a) (ty := .byte) e h0 h1) (g := mkF W.m pc Ls (.int x :: .int j :: .ref a :: st)) rfl rfl (C.hb hd); exact w0) (fun h' w' O' => r h' w' (F.set w' (fits_nar_byte x)) O')
theorem newO (C : Cx Z W own nm code maxL ret) {K : String} {ix sl k' n' : Nat} (hd : decode code pc = .ok (.new ix, 3)) (w : (Cond.classLink own ix K).before a0 Z = true) (wi : (Cond.instantiable K sl).before a0 Z = true) (wz : (Cond.initialized K).before a0 Z = true) (hc : k + 1 = k') (hl : n + sl = n') (hc' : k' ≤ R.cells) (hl' : n' ≤ R.slots) (hp : pc + 3 = pc')
    (r : ∀ a h', a = h.size → Z.heap.size ≤ a → Ext h h' → Exa Z h' a K → Fresh Z a0 h' a K → Unt h' a → Ext Z.heap h' → Run l R Z EL W Q (a :: S) h' k' n' (mkF W.m pc' Ls (.ref a :: st))) : Run l R Z EL W Q S h k n (mkF W.m pc Ls st) := by
  subst hp hc hl
  intro vm0 T locs X eT N O I
  obtain ⟨T', h', X', e', E', A', D', U', s'⟩ := RoadKit.newO X C.hx I.hZ (I.ow C) w wi wz eT (g := mkF W.m pc Ls st) rfl (C.hb hd) hc' hl'
  have O' : Ext Z.heap h' := ((old_of O).ext E').2
  exact Go.step s' (r h.size h' rfl O.1 E' A' D' U' O' vm0 T' locs X' e' N O' (I.fresh E' A'.lt))
theorem newA (C : Cx Z W own nm code maxL ret) {aty : ArrayType} {ty : FieldType} {z : Int32} {k' n' cap : Nat} (hd : decode code pc = .ok (.newarray aty, 2)) (ht : newarray.typeOf aty = ty) (w : (Cond.arrayClass ty).before a0 Z = true) (hz : ¬ z < 0) (hcap : z.toNatClampNeg ≤ cap) (hb : cap * 8 ≤ 536870912) (hc : k + 1 = k') (hl : n + cap = n') (hc' : k' ≤ R.cells) (hl' : n' ≤ R.slots) (hdf : fits ty (defaultValue ty) = true) (hp : pc + 2 = pc')
    (r : ∀ a h', a = h.size → Z.heap.size ≤ a → Ext h h' → Ary Z h' a ty (List.replicate z.toNatClampNeg (defaultValue ty)) → Ext Z.heap h' → Run l R Z EL W Q (a :: S) h' k' n' (mkF W.m pc' Ls (.ref a :: st))) : Run l R Z EL W Q S h k n (mkF W.m pc Ls (.int z :: st)) := by
  subst hp hc hl ht
  intro vm0 T locs X eT N O I
  obtain ⟨T', h', cA, X', e', E', A', s'⟩ := newP X C.hx I.hZ w eT (g := mkF W.m pc Ls (.int z :: st)) rfl (C.hb hd) rfl hz hcap hb hc' hl'
  have O' : Ext Z.heap h' := ((old_of O).ext E').2
  have hz2 : z.toNatClampNeg < 2 ^ 31 := (back32 hz).2
  refine Go.step s' (r h.size h' rfl O.1 E' ⟨_, A', ?_, by simpa using hz2, fun v hv => ?_⟩ O' vm0 T' locs X' e' N O' (I.fresh E' A'.lt))
  · show Array.replicate _ _ = _
    simp
  · rw [(List.mem_replicate.mp hv).2]; exact hdf
theorem initO (C : Cx Z W own nm code maxL ret) {ix Wn : Nat} (hd : decode code pc = .ok (.invokespecial ix, 3)) (w1 : (Cond.methodLink own ix Lib.objectInit).before a0 Z = true) (w2 : (Cond.instanceMethod Lib.objectInit).before a0 Z = true) (w3 : (Cond.code Lib.objectInit ⟨#[0xb1]⟩ 1 none).before a0 Z = true) {a : Addr} (hsz : Ls.size = maxL) (hf : 1 ≤ R.frames) (hW : (st.map fun v => v.category).sum ≤ Wn) (hl : Wn + 12 ≤ R.locals) (hp : pc + 3 = pc')
    (r : Run l R Z EL W Q S h k n (mkF W.m pc' Ls st)) : Run l R Z EL W Q S h k n (mkF W.m pc Ls (.ref a :: st)) := by
  subst hp
  exact Run.via (fun vm0 T locs X eT I => RoadKit.initO X C.hx I.hZ (I.ow C) w1 w2 w3 eT (g := mkF W.m pc Ls (.ref a :: st)) rfl (hsz.trans C.ml.symm) rfl (C.hb hd) hf (W := Wn) (by show 2 * 0 + _ ≤ _; omega) hl) r
/-- a String constant -/
theorem ldcS (C : Cx Z W own nm code maxL ret) {ix k' n' nb : Nat} {text : String} {vs : List Value} {z : Int32} (hd : decode code pc = .ok (.ldc ix, 2)) (w : (Cond.stringLink own ix text).before a0 Z = true) (wS : ∀ a ∈ Bundle.stringAtoms, a.before a0 Z = true) (hE : EW Z a0 EL) (hm : (own, ix) ∈ EL) (ht : (∀ c ∈ text.toList, c.toNat < 256) ∧ text.toList.map (fun c => Value.int (Jvm.Lit.byteI c.toNat.toUInt16)) = vs) (hz : ¬ z < 0) (hl : z.toNatClampNeg = vs.length)
    (hn : 4 * text.toList.length ≤ nb) (hb : nb ≤ 536870912) (hk : k + 2 = k') (hn' : n + (nb + 4) = n') (hc : k' ≤ R.cells) (hl' : n' ≤ R.slots) (hp : pc + 2 = pc')
    (r : ∀ a b h', Ext h h' → Exa Z h' a "java/lang/String" → Fld Z h' a "java/lang/String" "coder" "B" (.int 0) → Fld Z h' a "java/lang/String" "value" "[B" (.ref b) → Ary Z h' b .byte vs → (∀ x ∈ S, x ≠ a ∧ x ≠ b) → Ext Z.heap h' → Run l R Z EL W Q S h' k' n' (mkF W.m pc' Ls (.ref a :: st))) : Run l R Z EL W Q S h k n (mkF W.m pc Ls st) := by
  subst hp hk hn'
  intro vm0 T locs X eT N O I
  have I0 := I
  obtain ⟨⟨k0, hS, hk0⟩, hZ, hr, hs⟩ := I
  obtain ⟨a, T', h', k1, b, kc, X', e', E', hS', hk1, hZ', -, A', Cd', V', F', -, -, CH', -, ne', s'⟩ := ldcCH X C.hx hZ (I0.ow C) w wS eT hS hk0 hE hm hr.1 ht hz hl (g := mkF W.m pc Ls st) rfl (C.hb hd) hn hb hc hl'
  have O' : Ext Z.heap h' := ((old_of O).ext E').2
  have I' : Inv Z EL W S T'.vm h' := ⟨⟨k1, hS', hk1⟩, hZ', hr.trans CH', fun x hx => ⟨Nat.lt_of_lt_of_le (hs x hx).1 E'.1, CH'.safe (hs x hx).1 (hs x hx).2⟩⟩
  exact Go.step s' (r a b h' E' A' Cd' V' (Ary.of_arv F' hl) (fun x hx => ne' x (I'.2.2.2 x hx).2) O' T'.vm T' locs X' e' N O' I')
/-! ## contracts and calls -/
def Con (l : Launch) (Z : State) (EL : List (String × Nat)) (y : MethodName) (bytes : ByteArray) (maxL : Nat) (ret : Option FieldType) (rm : Room) (as' : Array Value) (h0 : Heap) (Q : Post) : Prop :=
  ∀ ws, MetFree l y (head1 (Jvm.Cond.code y bytes maxL ret :: ws) rm) (fun a U => a = as' ∧ Z.Warmed39 U.vm ∧ U.heap = h0 ∧ CHv Z EL U.vm h0) (fun _ _ bl s _ => s.vm.MethodsKnown ∧ s.vm.FramesKnown bl) (fun _ U o U' => ∃ v L, o = .returned v ∧ (Q v U'.heap ∧ Ext Z.heap U'.heap ∧ Fr Z.heap.size L) ∧ CHr Z EL U.vm U.heap U'.vm U'.heap ∧ ReturnedEndW U o U' L rm.cells rm.slots)
theorem Con.intro {y : MethodName} {bytes : ByteArray} {rm : Room} {as' : Array Value} {Ls0 : Array Slot} (hy : plainFor y = true) (O : Ext Z.heap h) (he : ∀ m, entryFrame m as' maxL = mkF m 0 Ls0 [])
    (body : ∀ W : Wd, Cx Z W y.cls y.name bytes maxL ret → Run l rm Z EL W Q [] h 0 0 (mkF W.m 0 Ls0 [])) : Con l Z EL y bytes maxL ret rm as' h Q := by
  intro ws
  refine MetFree.of_bodySF hy hisR ?_
  intro p e s m args below meth c s₁ Bd hml0 hP hK
  obtain ⟨rfl, hZ, hh, hCH⟩ := hP
  have e0 : s₁.heap = h := by rw [← hh, Bd.state]; rfl
  have X0 : Stand p l e rm s m args below meth c s₁ [] 0 0 := Stand.of_body Bd
  have I0 : Inv Z EL (p, e, s, m, args, below, meth, c) [] s.vm h := ⟨⟨h.size, (State.WarmedH.refl s).since _, Nat.le_refl _⟩, hZ, by rw [← hh] at hCH ⊢; exact CHr.refl hCH, fun _ q => nomatch q⟩
  have r := body (p, e, s, m, args, below, meth, c) ⟨Bd.exec, Bd.bytes, hml0, findClass_of_methodNamed Bd.named, hZ, Bd.returns, (name_of_methodNamed Bd.named Bd.method).1, Bd.notSynchronized, hK.1, hK.2, by rw [show (s : State).heap = h from hh]; exact O⟩ s.vm s₁ [] X0 e0 (Fr.nil _) O I0
  rw [he m]
  exact r
section Calls
variable {y : MethodName} {bytes : ByteArray} {mxL : Nat} {rt : Option FieldType} {rm : Room} {Qc : Post} {argsL : List Value} {as' : Array Value} {ix Wn k' n' kc nc : Nat} {st' : List Value}
/-- how a narrow callee leaves the heap -/
def Car (S : List Addr) (h h' : Heap) : Prop := h' = h ∨ Ext h h' ∨ ∃ ws : List Addr, (∀ x ∈ ws, x ∈ S) ∧ Keep h h' ws
theorem Inv.car {vm0 : Vm} {h' : Heap} (I : Inv Z EL W S vm0 h) (c : Car S h h') : Inv Z EL W S vm0 h' := by
  rcases c with rfl | E | ⟨ws, ha, K⟩
  · exact I
  · exact I.ext E
  · exact I.keep K ha
abbrev PaysS (l : Launch) (R : Room) (Z : State) (EL : List (String × Nat)) (W : Wd) (vm0 : Vm) (y : MethodName) (ln Wn : Nat) (as' : Array Value) (h : Heap) (kc nc : Nat) (Qv : Option Value → Heap → List Loc → Prop) : Prop :=
  BackS l R W.p W.e W.b (W.s.setVm vm0) W.a y ln Wn (fun P a => a = as' ∧ P.U.heap = h ∧ P.cells + kc ≤ R.cells ∧ P.slots + nc ≤ R.slots) (fun P _ v B => ∃ L, Qv v B.U.heap L ∧ B.locs = P.locs ++ L ∧ B.cells = P.cells + kc ∧ B.slots = P.slots + nc ∧ CHr Z EL vm0 h B.U.vm B.U.heap)
theorem Con.pays {ln : Nat} (C : Cx Z W own nm code maxL ret) (hE : EW Z a0 EL) (K : Con l Z EL y bytes mxL rt rm as' h Qc) (w4 : (Cond.code y bytes mxL rt).before a0 Z = true) (wz : (Cond.initialized y.cls).before a0 Z = true) (hf : rm.frames + 1 ≤ R.frames) (hl : Wn + (mxL + 11) + rm.locals ≤ R.locals) : ∀ vm0, Inv Z EL W S vm0 h →
    PaysS l R Z EL W vm0 y ln Wn as' h rm.cells rm.slots (fun v h' L => Qc v h' ∧ Ext Z.heap h' ∧ Fr Z.heap.size L) := fun vm0 I => backOfSKH (W := Wn) (Q := fun v h' L => Qc v h' ∧ Ext Z.heap h' ∧ Fr Z.heap.size L) (K []) I.2.1 w4 wz hf hl hE I.ch (Vm.MethodsKnown.alikeC (Exists.elim I.1 fun _ q => q.1.1.alike) C.tk) (Vm.FramesKnown.alikeC (Exists.elim I.1 fun _ q => q.1.1.alike) C.fk)
theorem Inv.back {vm0 vm1 : Vm} {h1 : Heap} (I : Inv Z EL W S vm0 h) (hS : (W.s.setVm vm0).Since vm1 h1.size) (hg : h.size ≤ h1.size) (hr : CHr Z EL vm0 h vm1 h1) : Inv Z EL W S vm1 h1 := by
  obtain ⟨⟨k0, hS0, hk⟩, hZ, hr0, hs⟩ := I
  exact ⟨⟨h1.size, hS0.trans hS (Nat.le_trans hk hg), Nat.le_refl _⟩, State.Warmed39.trans (t := W.s.setVm vm0) hZ hS.1, hr0.trans hr, fun x hx => ⟨Nat.lt_of_lt_of_le (hs x hx).1 hg, hr.safe (hs x hx).1 (hs x hx).2⟩⟩
theorem callS (C : Cx Z W own nm code maxL ret) (hd : decode code pc = .ok (.invokestatic ix, 3)) {Qv : Option Value → Heap → List Loc → Prop} (K : ∀ vm0, Cx Z (At W vm0) own nm code maxL ret → Wk.Pays l R (At W vm0) y 3 Wn as' h kc nc Qv) (hQ : Clean Z Qc Qv) (hcar : ∀ v h', Qc v h' → Car S h h') (w1 : (Cond.methodLink own ix y).before a0 Z = true) (w2 : (Cond.static y).before a0 Z = true) (w3 : (Cond.initialized y.cls).before a0 Z = true) (w4 : (Cond.code y bytes mxL rt).before a0 Z = true) (hy : y.cls ≠ "java/lang/invoke/MethodHandle" ∧ y.cls ≠ "java/lang/invoke/VarHandle")
    (has : argsL.toArray = as') (hst : argsL.reverse ++ st = st') (hlen : ∀ sig, parseMethodDescriptor y.desc = some sig → argsL.length = sig.parameters.length) (hsz : Ls.size = maxL) (hW : (st.map fun v => v.category).sum ≤ Wn) (hk : k + kc = k') (hn : n + nc = n') (hk' : k' ≤ R.cells) (hn' : n' ≤ R.slots) (hp : pc + 3 = pc')
    (r : ∀ v h', Qc v h' → Ext Z.heap h' → Run l R Z EL W Q S h' k' n' (mkF W.m pc' Ls (v.toList ++ st))) : Run l R Z EL W Q S h k n (mkF W.m pc Ls st') := by
  subst hp hk hn has hst
  intro vm0 T locs X eT N O I
  obtain ⟨v, vm₁, ⟨T', L', k', n'⟩, -, X', ⟨L, q0, l1, y1, z1⟩, s'⟩ := Jvm.LawKit.callS X C.hx (y := y) (I.ow C) (mvT I.hZ w1) (mvT I.hZ w2) (mvT I.hZ w3) (mvT I.hZ w4) hy (K vm0 (I.cx C)) (g := mkF W.m pc Ls (argsL.reverse ++ st)) rfl (hsz.trans C.ml.symm) (argsL := argsL) (rest := st) hlen rfl (by show 2 * 0 + _ ≤ _; omega) (C.hb hd) (fun _ _ => ⟨rfl, eT, hk', hn'⟩)
  dsimp only [Pt.U, Pt.locs, Pt.cells, Pt.slots] at X' l1 y1 z1 s' q0
  subst l1 y1 z1
  obtain ⟨q1, q2, q3⟩ := hQ _ _ _ q0
  exact Go.step s' (r v T'.heap q1 q2 vm0 T' _ X' rfl (N.app q3) q2 (I.car (hcar _ _ q1)))
theorem callI (C : Cx Z W own nm code maxL ret) (hd : decode code pc = .ok (.invokespecial ix, 3)) {a : Addr} {Qv : Option Value → Heap → List Loc → Prop} (K : ∀ vm0, Cx Z (At W vm0) own nm code maxL ret → Wk.Pays l R (At W vm0) y 3 Wn as' h kc nc Qv) (hQ : Clean Z Qc Qv) (hcar : ∀ v h', Qc v h' → Car S h h') (hi : y.name = "<init>") (w1 : (Cond.methodLink own ix y).before a0 Z = true) (w2 : (Cond.instanceMethod y).before a0 Z = true) (w4 : (Cond.code y bytes mxL none).before a0 Z = true) (hy : y.cls ≠ "java/lang/invoke/MethodHandle" ∧ y.cls ≠ "java/lang/invoke/VarHandle")
    (has : (Value.ref a :: argsL).toArray = as') (hst : argsL.reverse ++ .ref a :: st = st') (hlen : ∀ sig, parseMethodDescriptor y.desc = some sig → argsL.length = sig.parameters.length) (hsz : Ls.size = maxL) (hW : (st.map fun v => v.category).sum ≤ Wn) (hk : k + kc = k') (hn : n + nc = n') (hk' : k' ≤ R.cells) (hn' : n' ≤ R.slots) (hp : pc + 3 = pc')
    (r : ∀ v h', Qc v h' → Ext Z.heap h' → Run l R Z EL W Q S h' k' n' (mkF W.m pc' Ls (v.toList ++ st))) : Run l R Z EL W Q S h k n (mkF W.m pc Ls st') := by
  subst hp hk hn has hst
  intro vm0 T locs X eT N O I
  obtain ⟨v, vm₁, ⟨T', L', k', n'⟩, -, X', ⟨L, q0, l1, y1, z1⟩, s'⟩ := X.specialBack C.hx (y := y) hi (I.ow C) (mvT I.hZ w1) (mvT I.hZ w2) (mvT I.hZ w4) hy (K vm0 (I.cx C)) (g := mkF W.m pc Ls (argsL.reverse ++ .ref a :: st)) rfl (hsz.trans C.ml.symm) (Steps.refl _) (a := a) (argsL := argsL) (rest := st) hlen rfl (by show 2 * 0 + _ ≤ _; omega) (C.hb hd) (fun _ _ => ⟨rfl, eT, hk', hn'⟩)
  dsimp only [Pt.U, Pt.locs, Pt.cells, Pt.slots] at X' l1 y1 z1 s' q0
  subst l1 y1 z1
  obtain ⟨q1, q2, q3⟩ := hQ _ _ _ q0
  exact Go.step (fun t => s'.trans) (r v T'.heap q1 q2 vm0 T' _ X' rfl (N.app q3) q2 (I.car (hcar _ _ q1)))
theorem callIS (C : Cx Z W own nm code maxL ret) (hd : decode code pc = .ok (.invokespecial ix, 3)) {a : Addr} {Qv : Option Value → Heap → List Loc → Prop} (K : ∀ vm0, Inv Z EL W S vm0 h → PaysS l R Z EL W vm0 y 3 Wn as' h kc nc Qv) (hQ : Clean Z Qc Qv) (hi : y.name = "<init>") (w1 : (Cond.methodLink own ix y).before a0 Z = true) (w2 : (Cond.instanceMethod y).before a0 Z = true) (w4 : (Cond.code y bytes mxL none).before a0 Z = true) (hy : y.cls ≠ "java/lang/invoke/MethodHandle" ∧ y.cls ≠ "java/lang/invoke/VarHandle")
    (has : (Value.ref a :: argsL).toArray = as') (hst : argsL.reverse ++ .ref a :: st = st') (hlen : ∀ sig, parseMethodDescriptor y.desc = some sig → argsL.length = sig.parameters.length) (hsz : Ls.size = maxL) (hW : (st.map fun v => v.category).sum ≤ Wn) (hk : k + kc = k') (hn : n + nc = n') (hk' : k' ≤ R.cells) (hn' : n' ≤ R.slots) (hp : pc + 3 = pc')
    (r : ∀ v h', Qc v h' → Ext Z.heap h' → Run l R Z EL W Q S h' k' n' (mkF W.m pc' Ls (v.toList ++ st))) : Run l R Z EL W Q S h k n (mkF W.m pc Ls st') := by
  subst hp hk hn has hst
  intro vm0 T locs X eT N O I
  obtain ⟨v, vm₁, ⟨T', L', k', n'⟩, -, X', hS, hg, ⟨L, q0, l1, y1, z1, hr⟩, s'⟩ := X.specialBackS C.hx (y := y) hi (I.ow C) (mvT I.hZ w1) (mvT I.hZ w2) (mvT I.hZ w4) hy (K vm0 I) (g := mkF W.m pc Ls (argsL.reverse ++ .ref a :: st)) rfl (hsz.trans C.ml.symm) (Steps.refl _) (a := a) (argsL := argsL) (rest := st) hlen rfl (by show 2 * 0 + _ ≤ _; omega) (C.hb hd) (fun _ _ => ⟨rfl, eT, hk', hn'⟩)
  dsimp only [Pt.U, Pt.locs, Pt.cells, Pt.slots] at X' l1 y1 z1 s' q0 hS hg hr
  subst l1 y1 z1
  obtain ⟨q1, q2, q3⟩ := hQ _ _ _ q0
  exact Go.step (fun t => s'.trans) (r v T'.heap q1 q2 T'.vm T' _ X' rfl (N.app q3) q2 (I.back hS (eT ▸ hg) hr))
theorem callV (C : Cx Z W own nm code maxL ret) (hd : decode code pc = .ok (.invokevirtual ix, 3)) {y0 : MethodName} {K0 : String} {a : Addr} {Qv : Option Value → Heap → List Loc → Prop} (K : ∀ vm0, Cx Z (At W vm0) own nm code maxL ret → Wk.Pays l R (At W vm0) y 3 Wn as' h kc nc Qv) (hQ : Clean Z Qc Qv) (hcar : ∀ v h', Qc v h' → Car S h h') (E : Exa Z h a K0) (w1 : (Cond.methodLink own ix y0).before a0 Z = true) (w2 : (Cond.declares y0).before a0 Z = true) (nf : ∀ vm0, Z.Warmed39 vm0 → NotFace (W.s.setVm vm0) y0) (w3 : (Cond.selects K0 y0 y).before a0 Z = true) (w5 : (Cond.instanceMethod y).before a0 Z = true) (hy : y0.cls ≠ "java/lang/invoke/MethodHandle" ∧ y0.cls ≠ "java/lang/invoke/VarHandle")
    (has : (Value.ref a :: argsL).toArray = as') (hst : argsL.reverse ++ .ref a :: st = st') (hlen : ∀ sig, parseMethodDescriptor y0.desc = some sig → argsL.length = sig.parameters.length) (hsz : Ls.size = maxL) (hW : (st.map fun v => v.category).sum ≤ Wn) (hk : k + kc = k') (hn : n + nc = n') (hk' : k' ≤ R.cells) (hn' : n' ≤ R.slots) (hp : pc + 3 = pc')
    (r : ∀ v h', Qc v h' → Ext Z.heap h' → Run l R Z EL W Q S h' k' n' (mkF W.m pc' Ls (v.toList ++ st))) : Run l R Z EL W Q S h k n (mkF W.m pc Ls st') := by
  subst hp hk hn has hst
  intro vm0 T locs X eT N O I
  obtain ⟨cq, kq, qa, qb, qc⟩ := isOf I.hZ eT E
  obtain ⟨v, vm₁, ⟨T', L', k', n'⟩, -, X', ⟨L, q0, l1, y1, z1⟩, s'⟩ := X.virtualBack C.hx (y := y0) (z := y) (I.ow C) (mvT I.hZ w1) (mvT I.hZ w2) (nf vm0 I.2.1) (mvT I.hZ w3) (mvT I.hZ w5) hy (K vm0 (I.cx C)) qa qc (g := mkF W.m pc Ls (argsL.reverse ++ .ref a :: st)) rfl (hsz.trans C.ml.symm) (Steps.refl _) (argsL := argsL) (rest := st) hlen rfl (by show 2 * 0 + _ ≤ _; omega) (C.hb hd) (fun _ _ => ⟨rfl, eT, hk', hn'⟩)
  dsimp only [Pt.U, Pt.locs, Pt.cells, Pt.slots] at X' l1 y1 z1 s' q0
  subst l1 y1 z1
  obtain ⟨q1, q2, q3⟩ := hQ _ _ _ q0
  exact Go.step (fun t => s'.trans) (r v T'.heap q1 q2 vm0 T' _ X' rfl (N.app q3) q2 (I.car (hcar _ _ q1)))
end Calls
/-! ## returns -/
theorem Run.leave (C : Cx Z W own nm code maxL ret) (hE : EW Z a0 EL) {v : Option Value} {f : JFrame} (hv : ret = none → v = none) (q : Q v h) (hk : k ≤ R.cells) (hn : n ≤ R.slots)
    (s' : ∀ vm0 T locs, Std l R W vm0 T locs k n → ∀ fs, (∀ (f : JFrame) (acts : List Action), f.method = W.m → f.locked = none → f.entered = [] → (doReturn W.e (T.setTop f) acts v).1 = T.setFrames fs) → Steps W.p.tables W.e W.b (T.setTop f) (T.setFrames fs)) : Run l R Z EL W Q S h k n f := by
  intro vm0 T locs X eT N O I
  have hlk : W.t.locks = false := C.lk
  obtain ⟨fs, hr, hrun, hended, hW, hsame⟩ := X.leave (v := v) (fun hh => hv (C.rt.symm.trans hh))
  have e2 : (T.setFrames fs).heap = h := eT
  obtain ⟨⟨k0, hS, hk0⟩, hZ, hr0, -⟩ := I
  have hc := CHv.at X hZ hE hr0.1
  obtain ⟨e4, e5, e6⟩ := hS.ended (U := T.setFrames fs) hW (by rw [e2]; exact hk0) hsame
  exact ⟨_, _, s' vm0 T locs X fs hr, hrun, hended, _, _, rfl, ⟨by rw [e2]; exact q, by rw [e2]; exact O, N⟩, by rw [e2]; exact hr0.trans hc, ⟨_, rfl⟩, e4, e5, e6.mono hk hn⟩
theorem retV (C : Cx Z W own nm code maxL none) (hE : EW Z a0 EL) (hd : decode code pc = .ok (.return_, 1)) (hk : k ≤ R.cells) (hn : n ≤ R.slots) (q : Q none h) : Run l R Z EL W Q S h k n (mkF W.m pc Ls []) :=
  Run.leave C hE (fun _ => rfl) q hk hn (fun vm0 T locs X fs hr => X.returnOut C.hx C.rt (C.hb hd) hr)
theorem retNar {ty : FieldType} (C : Cx Z W own nm code maxL (some ty)) (hE : EW Z a0 EL) (ht : ty = .boolean ∨ ty = .byte ∨ ty = .char ∨ ty = .short) (hd : decode code pc = .ok (.ireturn, 1)) {z z' : Int32} (hz : nar ty z = z') (hk : k ≤ R.cells) (hn : n ≤ R.slots) (q : Q (some (.int z')) h) : Run l R Z EL W Q S h k n (mkF W.m pc Ls (.int z :: st)) := by
  subst hz
  exact Run.leave C hE (fun hh => nomatch hh) q hk hn (fun vm0 T locs X fs hr => retN X C.hx C.rt ht (C.hb hd) hr)
theorem retA {ty : FieldType} {v : Value} (C : Cx Z W own nm code maxL (some ty)) (hE : EW Z a0 EL) (ht : ty.isReference = true) (hv : v.isRef = true) (hd : decode code pc = .ok (.areturn, 1)) (hk : k ≤ R.cells) (hn : n ≤ R.slots) (q : Q (some v) h) : Run l R Z EL W Q S h k n (mkF W.m pc Ls (v :: st)) :=
  Run.leave C hE (fun hh => nomatch hh) q hk hn (fun vm0 T locs X fs hr => retOut X C.hx C.rt (by rcases ref_cases hv with rfl | ⟨a, rfl⟩ <;> cases ty <;> simp [FieldType.isReference] at ht <;> rfl) (Or.inr (Or.inr (Or.inr (Or.inr ⟨rfl, ht, hv⟩)))) (C.hb hd) hr)
end Kit
end Ww
abbrev EL : List (String × Nat) := consts_1
theorem own_EW {a0 : Array Value} {Z : State} (hw : Ws a0 Z) : EW Z a0 EL := (EW.cons (w25 hw) (by decide) (EW.cons (w14 hw) (by decide) EW.nil))
theorem wS {a0 : Array Value} {Z : State} (hw : Ws a0 Z) : ∀ a ∈ Bundle.stringAtoms, a.before a0 Z = true := by
  intro a ha
  simp only [Bundle.stringAtoms, List.mem_cons, List.not_mem_nil, or_false] at ha
  rcases ha with rfl | rfl | rfl | rfl | rfl | rfl | rfl
  · exact (w2 hw)
  · exact (w1 hw)
  · exact (w15 hw)
  · exact (w16 hw)
  · exact (w17 hw)
  · exact (w18 hw)
  · exact (w19 hw)
theorem own_div (s k a b : Int32) (hk : (k = 5 ∧ a = 500 ∧ b = 599) ∨ (k = 2 ∧ a = 200 ∧ b = 299)) : s / 100 = k ↔ (¬ s < a ∧ ¬ b < s) := by
  have c : (100 : Int32).toInt = 100 := by decide
  have h := Int32.toInt_div s 100
  rw [c] at h
  have lo := Int32.le_toInt s
  have hi := Int32.toInt_lt s
  have e : s / 100 = k ↔ (s / 100).toInt = k.toInt := ⟨fun h => h ▸ rfl, fun h => Int32.toInt_inj.mp h⟩
  have c5 : (5 : Int32).toInt = 5 := by decide
  have c2 : (2 : Int32).toInt = 2 := by decide
  have d5 : (500 : Int32).toInt = 500 := by decide
  have d2 : (200 : Int32).toInt = 200 := by decide
  have e5 : (599 : Int32).toInt = 599 := by decide
  have e2 : (299 : Int32).toInt = 299 := by decide
  have q : (s.toInt.tdiv 100).bmod (2 ^ 32) = s.toInt.tdiv 100 := by
    rcases Int.le_total 0 s.toInt with g | g
    · rw [Int.tdiv_eq_ediv_of_nonneg g]; apply Int.bmod_eq_of_le <;> omega
    · have : s.toInt = -(-s.toInt) := by omega
      rw [this, Int.neg_tdiv, Int.tdiv_eq_ediv_of_nonneg (by omega)]; apply Int.bmod_eq_of_le <;> omega
  rw [e, h, q, Int32.lt_iff_toInt_lt, Int32.lt_iff_toInt_lt]
  rcases Int.le_total 0 s.toInt with g | g
  · rw [Int.tdiv_eq_ediv_of_nonneg g]
    rcases hk with ⟨rfl, rfl, rfl⟩ | ⟨rfl, rfl, rfl⟩ <;> omega
  · have : s.toInt = -(-s.toInt) := by omega
    rw [this, Int.neg_tdiv, Int.tdiv_eq_ediv_of_nonneg (by omega)]
    rcases hk with ⟨rfl, rfl, rfl⟩ | ⟨rfl, rfl, rfl⟩ <;> omega
theorem own_iff (s : Int32) (e : Value) : (s = 0 ∨ s = 429 ∨ s / 100 = 5 ∨ (¬ s / 100 = 2 ∧ e = .null)) ↔ (s = 0 ∨ s = 429 ∨ (¬ s < 500 ∧ ¬ (599 : Int32) < s) ∨ (¬ (¬ s < 200 ∧ ¬ (299 : Int32) < s) ∧ e = .null)) := by
  rw [own_div s 5 500 599 (Or.inl ⟨rfl, rfl, rfl⟩), own_div s 2 200 299 (Or.inr ⟨rfl, rfl, rfl⟩)]
theorem own_b1 {c : Int32} {P : Prop} (d : (c = 1 ∧ P) ∨ (c = 0 ∧ ¬ P)) (q : ¬ c = 0) : P := d.elim (fun z => z.2) fun z => absurd z.1 q
theorem own_b0 {c : Int32} {P : Prop} (d : (c = 1 ∧ P) ∨ (c = 0 ∧ ¬ P)) (q : c = 0) : ¬ P := d.elim (fun z => absurd (z.1.symm.trans q) (by decide)) fun z => z.2
theorem own_c1 {c : Int32} {P : Prop} (d : (c = 1 ∧ P) ∨ (c = 0 ∧ ¬ P)) (p : P) : (1 : Int32) = c := d.elim (fun z => z.1.symm) fun z => absurd p z.2
theorem own_c0 {c : Int32} {P : Prop} (d : (c = 1 ∧ P) ∨ (c = 0 ∧ ¬ P)) (p : ¬ P) : (0 : Int32) = c := d.elim (fun z => absurd z.2 p) fun z => z.1.symm
theorem own_nE {A B C D E : Prop} (a : ¬ A) (b : ¬ B) (c : ¬ C) (d : D ∨ ¬ E) : ¬ (A ∨ B ∨ C ∨ (¬ D ∧ E)) := fun z => z.elim a fun z => z.elim b fun z => z.elim c fun z => d.elim z.1 fun n => n z.2
theorem own_exW : ∀ w ∈ Jvm.Free.Exc.excAtoms "com/example/consentry/consentry/oauth/TokenRequestException", w ≠ Wk.supW → w ∈ tables_1 := by decide +kernel
theorem own_exA {a0 : Array Value} {Z : State} (hw : Ws a0 Z) : ∀ w : Jvm.Cond, w ∈ Jvm.Free.Exc.excAtoms "com/example/consentry/consentry/oauth/TokenRequestException" → w ≠ Wk.supW → w.before a0 Z = true := fun w h1 h2 => hw w (own_exW w h1 h2)
set_option maxRecDepth 65536 in
set_option maxHeartbeats 40000000 in
theorem own_tInit (l : Launch) {Z : State} {a0 : Array Value} (hw : Ws a0 Z) {h0 : Heap} (O0 : Ext Z.heap h0) (hl : l.stackTraces = true) (uS sS : Addr) (SU : Sta Z Z.heap "java/lang/Throwable" "UNASSIGNED_STACK" "[Ljava/lang/StackTraceElement;" (.ref uS)) (SS : Sta Z Z.heap "java/lang/Throwable" "SUPPRESSED_SENTINEL" "Ljava/util/List;" (.ref sS)) (a1 : Addr) (e2 : Value) (he2 : e2.isRef = true) (g1 : Z.heap.size ≤ a1) (E1 : Exa Z h0 a1 "com/example/consentry/consentry/oauth/TokenRequestException") (U1 : Unt h0 a1) (B1 : Fld Z h0 a1 "java/lang/Throwable" "backtrace" "Ljava/lang/Object;" .null) :
    Wk.Con l Z (⟨"java/lang/Throwable", "<init>", "(Ljava/lang/String;)V"⟩ : MethodName) jdk_78_method_2_code 2 none ({ frames := 3, cells := 1, slots := 2752, locals := 42 } : Room) #[(.ref a1), e2] h0 (fun v h' => v = none ∧ Keep h0 h' [a1] ∧ Exa Z h' a1 "com/example/consentry/consentry/oauth/TokenRequestException" ∧ Fld Z h' a1 "java/lang/Throwable" "detailMessage" "Ljava/lang/String;" e2) := by
  refine Wk.Con.intro (plainFor_of_name pn0) O0 (fun m => ef0 m a1 e2 he2) ?_
  intro W C
  replace C : Wk.Cx Z W "java/lang/Throwable" "<init>" jdk_78_method_2_code 2 none := C
  refine Wk.aloadN (pc' := 1) C d_jdk_78m2_0 rfl rfl rfl ?_
  refine Wk.initO (pc' := 4) C d_jdk_78m2_1 (Wn := 0) (w40 hw) (w12 hw) (w13 hw) rfl (by decide) (Nat.le_of_eq rfl) (by decide) rfl ?_
  obtain ⟨v11, F12⟩ := Wk.fldOf U1 (show Keep h0 h0 [a1] from (Keep.refl _ _)) E1 (w23 hw) (Or.inl (w42 hw))
  obtain ⟨v13, F14⟩ := Wk.fldOf U1 (show Keep h0 h0 [a1] from (Keep.refl _ _)) E1 (w23 hw) (Or.inl (w45 hw))
  obtain ⟨v15, F16⟩ := Wk.fldOf U1 (show Keep h0 h0 [a1] from (Keep.refl _ _)) E1 (w23 hw) (Or.inl (w48 hw))
  refine Wk.aloadN (pc' := 5) C d_jdk_78m2_4 rfl rfl rfl ?_
  refine Wk.aloadN (pc' := 6) C d_jdk_78m2_5 rfl rfl rfl ?_
  refine Wk.putF (pc' := 9) C d_jdk_78m2_6 (w41 hw) Via.refl F12 E1 (Or.inl (w42 hw)) (w23 hw) (ty := (.object "java/lang/Throwable")) (by decide) rfl rfl g1 rfl ?_
  intro h17 W17 O17
  have F18 := F12.same W17
  refine Wk.aloadN (pc' := 10) C d_jdk_78m2_9 rfl rfl rfl ?_
  refine Wk.getS (pc' := 13) C d_jdk_78m2_10 (w43 hw) Via.refl (SU.ext O17) rfl ?_
  refine Wk.putF (pc' := 16) C d_jdk_78m2_13 (w44 hw) Via.refl (F14.other W17 (Or.inr (slot_ne (Or.inl (w45 hw)) (Or.inl (w42 hw)) (by decide) (t := (.array (.object "java/lang/StackTraceElement"))) (t' := (.object "java/lang/Throwable")) (by decide) (by decide)))) (E1.wr W17) (Or.inl (w45 hw)) (w23 hw) (ty := (.array (.object "java/lang/StackTraceElement"))) (by decide) rfl rfl g1 rfl ?_
  intro h19 W19 O19
  have F20 := (F14.other W17 (Or.inr (slot_ne (Or.inl (w45 hw)) (Or.inl (w42 hw)) (by decide) (t := (.array (.object "java/lang/StackTraceElement"))) (t' := (.object "java/lang/Throwable")) (by decide) (by decide)))).same W19
  refine Wk.aloadN (pc' := 17) C d_jdk_78m2_16 rfl rfl rfl ?_
  refine Wk.getS (pc' := 20) C d_jdk_78m2_17 (w46 hw) Via.refl (SS.ext O19) rfl ?_
  refine Wk.putF (pc' := 23) C d_jdk_78m2_20 (w47 hw) Via.refl ((F16.other W17 (Or.inr (slot_ne (Or.inl (w48 hw)) (Or.inl (w42 hw)) (by decide) (t := (.object "java/util/List")) (t' := (.object "java/lang/Throwable")) (by decide) (by decide)))).other W19 (Or.inr (slot_ne (Or.inl (w48 hw)) (Or.inl (w45 hw)) (by decide) (t := (.object "java/util/List")) (t' := (.array (.object "java/lang/StackTraceElement"))) (by decide) (by decide)))) ((E1.wr W17).wr W19) (Or.inl (w48 hw)) (w23 hw) (ty := (.object "java/util/List")) (by decide) rfl rfl g1 rfl ?_
  intro h21 W21 O21
  have F22 := ((F16.other W17 (Or.inr (slot_ne (Or.inl (w48 hw)) (Or.inl (w42 hw)) (by decide) (t := (.object "java/util/List")) (t' := (.object "java/lang/Throwable")) (by decide) (by decide)))).other W19 (Or.inr (slot_ne (Or.inl (w48 hw)) (Or.inl (w45 hw)) (by decide) (t := (.object "java/util/List")) (t' := (.array (.object "java/lang/StackTraceElement"))) (by decide) (by decide)))).same W21
  refine Wk.aloadN (pc' := 24) C d_jdk_78m2_23 rfl rfl rfl ?_
  refine Wk.callV (pc' := 27) C d_jdk_78m2_24 (a := a1) (Wk.fillP C hl (rc := "com/example/consentry/consentry/oauth/TokenRequestException") (Wn := 0) (by decide) (own_exA hw) (w23 hw) (a := a1) (u := uS) g1 (((E1.wr W17).wr W19).wr W21) (Wk.untWr (Wk.untWr (Wk.untWr U1 W17) W19) W21) (((B1.other W17 (Or.inr (slot_ne (Or.inl (w73 hw)) (Or.inl (w42 hw)) (by decide) (t := (.object "java/lang/Object")) (t' := (.object "java/lang/Throwable")) (by decide) (by decide)))).other W19 (Or.inr (slot_ne (Or.inl (w73 hw)) (Or.inl (w45 hw)) (by decide) (t := (.object "java/lang/Object")) (t' := (.array (.object "java/lang/StackTraceElement"))) (by decide) (by decide)))).other W21 (Or.inr (slot_ne (Or.inl (w73 hw)) (Or.inl (w48 hw)) (by decide) (t := (.object "java/lang/Object")) (t' := (.object "java/util/List")) (by decide) (by decide)))) (F20.other W21 (Or.inr (slot_ne (Or.inl (w45 hw)) (Or.inl (w48 hw)) (by decide) (t := (.array (.object "java/lang/StackTraceElement"))) (t' := (.object "java/util/List")) (by decide) (by decide)))) SU O21 (by decide) (by decide)) Wk.cleanC (((E1.wr W17).wr W19).wr W21) (w49 hw) (w50 hw) (notFace_of_selects (args := #[]) (mvT C.hZ (w52 hw))) (w52 hw) (w51 hw) (by decide) (argsL := []) (st := []) rfl rfl (lenOf pd0 rfl) rfl (Nat.le_of_eq rfl) (k' := 1) rfl (n' := 2752) rfl (by decide) (by decide) rfl ?_
  intro r23 h24 Q24 O24
  obtain ⟨rfl, K24⟩ := Q24
  refine Wk.pop (pc' := 28) C d_jdk_78m2_27 rfl rfl ?_
  obtain ⟨v25, F26⟩ := Wk.fldOf U1 (show Keep h0 h24 [a1] from (((((Keep.refl _ _).wr W17 (Or.inl (List.mem_singleton.mpr rfl))).wr W19 (Or.inl (List.mem_singleton.mpr rfl))).wr W21 (Or.inl (List.mem_singleton.mpr rfl))).trans K24 (allS (Or.inl (List.mem_singleton.mpr rfl)) all0))) ((((E1.wr W17).wr W19).wr W21).keep K24) (w23 hw) (Or.inl (w72 hw))
  refine Wk.aloadN (pc' := 29) C d_jdk_78m2_28 rfl rfl rfl ?_
  refine Wk.aloadN (pc' := 30) C d_jdk_78m2_29 rfl he2 rfl ?_
  refine Wk.putF (pc' := 33) C d_jdk_78m2_30 (w76 hw) Via.refl F26 ((((E1.wr W17).wr W19).wr W21).keep K24) (Or.inl (w72 hw)) (w23 hw) (ty := (.object "java/lang/String")) (by decide) (Wk.narR he2 rfl) (Wk.fitR he2 rfl) g1 rfl ?_
  intro h27 W27 O27
  have F28 := F26.same W27
  exact Wk.retV C d_jdk_78m2_33 (by decide) (by decide) ⟨rfl, ((((((Keep.refl _ _).wr W17 (Or.inl (List.mem_singleton.mpr rfl))).wr W19 (Or.inl (List.mem_singleton.mpr rfl))).wr W21 (Or.inl (List.mem_singleton.mpr rfl))).trans K24 (allS (Or.inl (List.mem_singleton.mpr rfl)) all0)).wr W27 (Or.inl (List.mem_singleton.mpr rfl))), (((((E1.wr W17).wr W19).wr W21).keep K24).wr W27), F28⟩
set_option maxRecDepth 65536 in
set_option maxHeartbeats 40000000 in
theorem own_eInit (l : Launch) {Z : State} {a0 : Array Value} (hw : Ws a0 Z) {h0 : Heap} (O0 : Ext Z.heap h0) (hl : l.stackTraces = true) (uS sS : Addr) (SU : Sta Z Z.heap "java/lang/Throwable" "UNASSIGNED_STACK" "[Ljava/lang/StackTraceElement;" (.ref uS)) (SS : Sta Z Z.heap "java/lang/Throwable" "SUPPRESSED_SENTINEL" "Ljava/util/List;" (.ref sS)) (a1 : Addr) (e2 : Value) (he2 : e2.isRef = true) (g1 : Z.heap.size ≤ a1) (E1 : Exa Z h0 a1 "com/example/consentry/consentry/oauth/TokenRequestException") (U1 : Unt h0 a1) (B1 : Fld Z h0 a1 "java/lang/Throwable" "backtrace" "Ljava/lang/Object;" .null) :
    Wk.Con l Z (⟨"java/lang/Exception", "<init>", "(Ljava/lang/String;)V"⟩ : MethodName) jdk_59_method_2_code 2 none ({ frames := 4, cells := 1, slots := 2752, locals := 55 } : Room) #[(.ref a1), e2] h0 (fun v h' => v = none ∧ Keep h0 h' [a1] ∧ Exa Z h' a1 "com/example/consentry/consentry/oauth/TokenRequestException" ∧ Fld Z h' a1 "java/lang/Throwable" "detailMessage" "Ljava/lang/String;" e2) := by
  refine Wk.Con.intro (plainFor_of_name pn1) O0 (fun m => ef1 m a1 e2 he2) ?_
  intro W C
  replace C : Wk.Cx Z W "java/lang/Exception" "<init>" jdk_59_method_2_code 2 none := C
  refine Wk.aloadN (pc' := 1) C d_jdk_59m2_0 rfl rfl rfl ?_
  refine Wk.aloadN (pc' := 2) C d_jdk_59m2_1 rfl he2 rfl ?_
  refine Wk.callI (pc' := 5) C d_jdk_59m2_2 (a := a1) (Wk.Con.pays C (Wn := 0) (own_tInit l hw O0 hl uS sS SU SS a1 e2 he2 g1 E1 U1 B1) (w39 hw) (w38 hw) (by decide) (by decide)) Wk.cleanC rfl (w34 hw) (w35 hw) (w39 hw) (by decide) (argsL := [e2]) (st := []) rfl rfl (lenOf pd1 rfl) rfl (Nat.le_of_eq rfl) (k' := 1) rfl (n' := 2752) rfl (by decide) (by decide) rfl ?_
  intro r11 h12 Q12 O12
  obtain ⟨rfl, K12, A12, M12⟩ := Q12
  exact Wk.retV C d_jdk_59m2_5 (by decide) (by decide) ⟨rfl, ((Keep.refl _ _).trans K12 (allS (Or.inl (List.mem_singleton.mpr rfl)) all0)), A12, M12⟩
set_option maxRecDepth 65536 in
set_option maxHeartbeats 40000000 in
theorem own_trInit (l : Launch) {Z : State} {a0 : Array Value} (hw : Ws a0 Z) {h0 : Heap} (O0 : Ext Z.heap h0) (hl : l.stackTraces = true) (uS sS : Addr) (SU : Sta Z Z.heap "java/lang/Throwable" "UNASSIGNED_STACK" "[Ljava/lang/StackTraceElement;" (.ref uS)) (SS : Sta Z Z.heap "java/lang/Throwable" "SUPPRESSED_SENTINEL" "Ljava/util/List;" (.ref sS)) (a1 : Addr) (g e : Value) (s : Int32) (hg : g.isRef = true) (he : e.isRef = true) (g1 : Z.heap.size ≤ a1) (E1 : Exa Z h0 a1 "com/example/consentry/consentry/oauth/TokenRequestException") (U1 : Unt h0 a1) (B1 : Fld Z h0 a1 "java/lang/Throwable" "backtrace" "Ljava/lang/Object;" .null) :
    Wk.Con l Z (⟨"com/example/consentry/consentry/oauth/TokenRequestException", "<init>", "(Ljava/lang/String;ILjava/lang/String;)V"⟩ : MethodName) prog_57_method_1_code 4 none ({ frames := 5, cells := 1, slots := 2752, locals := 72 } : Room) #[(.ref a1), g, (.int s), e] h0 (fun v h' => v = none ∧ Keep h0 h' [a1] ∧ Exa Z h' a1 "com/example/consentry/consentry/oauth/TokenRequestException" ∧ Fld Z h' a1 "com/example/consentry/consentry/oauth/TokenRequestException" "status" "I" (.int s) ∧ Fld Z h' a1 "com/example/consentry/consentry/oauth/TokenRequestException" "error" "Ljava/lang/String;" e) := by
  refine Wk.Con.intro (plainFor_of_name pn2) O0 (fun m => ef2 m a1 g hg s e he) ?_
  intro W C
  replace C : Wk.Cx Z W "com/example/consentry/consentry/oauth/TokenRequestException" "<init>" prog_57_method_1_code 4 none := C
  refine Wk.aloadN (pc' := 1) C d_prog_57m1_0 rfl rfl rfl ?_
  refine Wk.aloadN (pc' := 2) C d_prog_57m1_1 rfl hg rfl ?_
  refine Wk.callI (pc' := 5) C d_prog_57m1_2 (a := a1) (Wk.Con.pays C (Wn := 0) (own_eInit l hw O0 hl uS sS SU SS a1 g hg g1 E1 U1 B1) (w33 hw) (w32 hw) (by decide) (by decide)) Wk.cleanC rfl (w29 hw) (w30 hw) (w33 hw) (by decide) (argsL := [g]) (st := []) rfl rfl (lenOf pd1 rfl) rfl (Nat.le_of_eq rfl) (k' := 1) rfl (n' := 2752) rfl (by decide) (by decide) rfl ?_
  intro r11 h12 Q12 O12
  obtain ⟨rfl, K12, A12, M12⟩ := Q12
  obtain ⟨v13, F14⟩ := Wk.fldOf U1 (show Keep h0 h12 [a1] from ((Keep.refl _ _).trans K12 (allS (Or.inl (List.mem_singleton.mpr rfl)) all0))) A12 (w23 hw) (Or.inr (w78 hw))
  obtain ⟨v15, F16⟩ := Wk.fldOf U1 (show Keep h0 h12 [a1] from ((Keep.refl _ _).trans K12 (allS (Or.inl (List.mem_singleton.mpr rfl)) all0))) A12 (w23 hw) (Or.inr (w80 hw))
  refine Wk.aloadN (pc' := 6) C d_prog_57m1_5 rfl rfl rfl ?_
  refine Wk.iloadN (pc' := 7) C d_prog_57m1_6 rfl rfl ?_
  refine Wk.putF (pc' := 10) C d_prog_57m1_7 (w77 hw) Via.refl F14 A12 (Or.inr ⟨(w78 hw), rfl, rfl⟩) (w23 hw) (ty := .int) (by decide) rfl rfl g1 rfl ?_
  intro h17 W17 O17
  have F18 := F14.same W17
  refine Wk.aloadN (pc' := 11) C d_prog_57m1_10 rfl rfl rfl ?_
  refine Wk.aloadN (pc' := 12) C d_prog_57m1_11 rfl he rfl ?_
  refine Wk.putF (pc' := 15) C d_prog_57m1_12 (w79 hw) Via.refl (F16.other W17 (Or.inr (slot_ne (Or.inr (w80 hw)) (Or.inr (w78 hw)) (by decide) (t := (.object "java/lang/String")) (t' := .int) (by decide) (by decide)))) (A12.wr W17) (Or.inr ⟨(w80 hw), rfl, rfl⟩) (w23 hw) (ty := (.object "java/lang/String")) (by decide) (Wk.narR he rfl) (Wk.fitR he rfl) g1 rfl ?_
  intro h19 W19 O19
  have F20 := (F16.other W17 (Or.inr (slot_ne (Or.inr (w80 hw)) (Or.inr (w78 hw)) (by decide) (t := (.object "java/lang/String")) (t' := .int) (by decide) (by decide)))).same W19
  exact Wk.retV C d_prog_57m1_15 (by decide) (by decide) ⟨rfl, ((((Keep.refl _ _).trans K12 (allS (Or.inl (List.mem_singleton.mpr rfl)) all0)).wr W17 (Or.inl (List.mem_singleton.mpr rfl))).wr W19 (Or.inl (List.mem_singleton.mpr rfl))), ((A12.wr W17).wr W19), (F18.other W19 (Or.inr (slot_ne (Or.inr (w78 hw)) (Or.inr (w80 hw)) (by decide) (t := .int) (t' := (.object "java/lang/String")) (by decide) (by decide)))), F20⟩
set_option maxRecDepth 65536 in
set_option maxHeartbeats 40000000 in
theorem own_isT (l : Launch) {Z : State} {a0 : Array Value} (hw : Ws a0 Z) {h0 : Heap} (O0 : Ext Z.heap h0) (a1 : Addr) (s : Int32) (e : Value) (he : e.isRef = true) (F0 : Fld Z h0 a1 "com/example/consentry/consentry/oauth/TokenRequestException" "status" "I" (.int s)) (F1 : Fld Z h0 a1 "com/example/consentry/consentry/oauth/TokenRequestException" "error" "Ljava/lang/String;" e) :
    Wk.Con l Z (⟨"com/example/consentry/consentry/oauth/TokenRequestException", "isTemporary", "()Z"⟩ : MethodName) prog_57_method_5_code 1 (some .boolean) ({ frames := 0, cells := 0, slots := 0, locals := 0 } : Room) #[(.ref a1)] h0 (fun v h' => ((v = some (.int 1) ∧ (s = 0 ∨ s = 429 ∨ s / 100 = 5 ∨ (¬ s / 100 = 2 ∧ e = .null))) ∨ (v = some (.int 0) ∧ ¬ (s = 0 ∨ s = 429 ∨ s / 100 = 5 ∨ (¬ s / 100 = 2 ∧ e = .null)))) ∧ h' = h0) := by
  refine Wk.Con.intro (plainFor_of_name pn2) O0 (fun m => ef3 m a1) ?_
  intro W C
  replace C : Wk.Cx Z W "com/example/consentry/consentry/oauth/TokenRequestException" "isTemporary" prog_57_method_5_code 1 (some .boolean) := C
  refine Wk.aloadN (pc' := 1) C d_prog_57m5_0 rfl rfl rfl ?_
  refine Wk.getF (pc' := 4) C d_prog_57m5_1 (w77 hw) Via.refl F0 rfl ?_
  refine Wk.if_eq C d_prog_57m5_4 (by decide) (pcT := 46) (by decide) (pc' := 7) rfl (fun q11 => ?_) (fun q11 => ?_)
  · -- pc 4: taken
    refine Wk.iconst (pc' := 47) C d_prog_57m5_46 (v := (1 : Int32)) rfl rfl ?_
    refine Wk.goto C d_prog_57m5_47 (by decide) (pc' := 51) (by decide) ?_
    exact Wk.retNar (ty := .boolean) C (by simp) d_prog_57m5_51 rfl (by decide) (by decide) ⟨Or.inl ⟨rfl, Or.inl q11⟩, rfl⟩
  · -- pc 4: not taken
    refine Wk.aloadN (pc' := 8) C d_prog_57m5_7 rfl rfl rfl ?_
    refine Wk.getF (pc' := 11) C d_prog_57m5_8 (w77 hw) Via.refl F0 rfl ?_
    refine Wk.sipush (pc' := 14) C d_prog_57m5_11 (v := (429 : Int32)) rfl rfl ?_
    refine Wk.icmp_eq C d_prog_57m5_14 (by decide) (pcT := 46) (by decide) (pc' := 17) rfl (fun q12 => ?_) (fun q12 => ?_)
    · -- pc 14: taken
      refine Wk.iconst (pc' := 47) C d_prog_57m5_46 (v := (1 : Int32)) rfl rfl ?_
      refine Wk.goto C d_prog_57m5_47 (by decide) (pc' := 51) (by decide) ?_
      exact Wk.retNar (ty := .boolean) C (by simp) d_prog_57m5_51 rfl (by decide) (by decide) ⟨Or.inl ⟨rfl, Or.inr (Or.inl q12)⟩, rfl⟩
    · -- pc 14: not taken
      refine Wk.aloadN (pc' := 18) C d_prog_57m5_17 rfl rfl rfl ?_
      refine Wk.getF (pc' := 21) C d_prog_57m5_18 (w77 hw) Via.refl F0 rfl ?_
      refine Wk.bipush (pc' := 23) C d_prog_57m5_21 (v := (100 : Int32)) rfl rfl ?_
      obtain ⟨v13, hv13⟩ : ∃ z : Int32, s / (100 : Int32) = z := ⟨_, rfl⟩
      refine Wk.idiv (pc' := 24) C d_prog_57m5_23 (by decide) hv13 rfl ?_
      refine Wk.iconst (pc' := 25) C d_prog_57m5_24 (v := (5 : Int32)) rfl rfl ?_
      refine Wk.icmp_eq C d_prog_57m5_25 (by decide) (pcT := 46) (by decide) (pc' := 28) rfl (fun q14 => ?_) (fun q14 => ?_)
      · -- pc 25: taken
        refine Wk.iconst (pc' := 47) C d_prog_57m5_46 (v := (1 : Int32)) rfl rfl ?_
        refine Wk.goto C d_prog_57m5_47 (by decide) (pc' := 51) (by decide) ?_
        exact Wk.retNar (ty := .boolean) C (by simp) d_prog_57m5_51 rfl (by decide) (by decide) ⟨Or.inl ⟨rfl, Or.inr (Or.inr (Or.inl (hv13.trans q14)))⟩, rfl⟩
      · -- pc 25: not taken
        refine Wk.aloadN (pc' := 29) C d_prog_57m5_28 rfl rfl rfl ?_
        refine Wk.getF (pc' := 32) C d_prog_57m5_29 (w77 hw) Via.refl F0 rfl ?_
        refine Wk.bipush (pc' := 34) C d_prog_57m5_32 (v := (100 : Int32)) rfl rfl ?_
        refine Wk.idiv (pc' := 35) C d_prog_57m5_34 (by decide) hv13 rfl ?_
        refine Wk.iconst (pc' := 36) C d_prog_57m5_35 (v := (2 : Int32)) rfl rfl ?_
        refine Wk.icmp_eq C d_prog_57m5_36 (by decide) (pcT := 50) (by decide) (pc' := 39) rfl (fun q15 => ?_) (fun q15 => ?_)
        · -- pc 36: taken
          refine Wk.iconst (pc' := 51) C d_prog_57m5_50 (v := (0 : Int32)) rfl rfl ?_
          exact Wk.retNar (ty := .boolean) C (by simp) d_prog_57m5_51 rfl (by decide) (by decide) ⟨Or.inr ⟨rfl, own_nE q11 q12 (fun z => q14 (hv13.symm.trans z)) (Or.inl (hv13.trans q15))⟩, rfl⟩
        · -- pc 36: not taken
          refine Wk.aloadN (pc' := 40) C d_prog_57m5_39 rfl rfl rfl ?_
          refine Wk.getF (pc' := 43) C d_prog_57m5_40 (w79 hw) Via.refl F1 rfl ?_
          rcases ref_cases he with qn_ | ⟨a16, qn_⟩
          · -- pc 43: e is null
            subst qn_
            refine Wk.ifnonnullN (pc' := 46) C d_prog_57m5_43 rfl ?_
            refine Wk.iconst (pc' := 47) C d_prog_57m5_46 (v := (1 : Int32)) rfl rfl ?_
            refine Wk.goto C d_prog_57m5_47 (by decide) (pc' := 51) (by decide) ?_
            exact Wk.retNar (ty := .boolean) C (by simp) d_prog_57m5_51 rfl (by decide) (by decide) ⟨Or.inl ⟨rfl, Or.inr (Or.inr (Or.inr ⟨(fun z => q15 (hv13.symm.trans z)), rfl⟩))⟩, rfl⟩
          · -- pc 43: e is an object
            subst qn_
            refine Wk.ifnonnullY C d_prog_57m5_43 (by decide) (pc' := 50) (by decide) ?_
            refine Wk.iconst (pc' := 51) C d_prog_57m5_50 (v := (0 : Int32)) rfl rfl ?_
            exact Wk.retNar (ty := .boolean) C (by simp) d_prog_57m5_51 rfl (by decide) (by decide) ⟨Or.inr ⟨rfl, own_nE q11 q12 (fun z => q14 (hv13.symm.trans z)) (Or.inr (fun z => nomatch z))⟩, rfl⟩
set_option maxRecDepth 65536 in
set_option maxHeartbeats 40000000 in
theorem own_canEnc (l : Launch) {Z : State} {a0 : Array Value} (hw : Ws a0 Z) {h0 : Heap} (O0 : Ext Z.heap h0) (c : Int32) (hc : ¬ c < 0 ∧ ¬ (255 : Int32) < c) :
    Wk.Con l Z (⟨"java/lang/StringLatin1", "canEncode", "(C)Z"⟩ : MethodName) jdk_43_method_3_code 1 (some .boolean) ({ frames := 0, cells := 0, slots := 0, locals := 0 } : Room) #[(.int c)] h0 (fun v h' => v = some (.int 1) ∧ h' = h0) := by
  refine Wk.Con.intro (plainFor_of_name pn3) O0 (fun m => ef4 m c) ?_
  intro W C
  replace C : Wk.Cx Z W "java/lang/StringLatin1" "canEncode" jdk_43_method_3_code 1 (some .boolean) := C
  refine Wk.iloadN (pc' := 1) C d_jdk_43m3_0 rfl rfl ?_
  refine Wk.sipush (pc' := 4) C d_jdk_43m3_1 (v := (255 : Int32)) rfl rfl ?_
  refine Wk.icmp_gt C d_jdk_43m3_4 (by decide) (pcT := 11) (by decide) (pc' := 7) rfl (fun q => absurd q hc.2) (fun q11 => ?_)
  refine Wk.iconst (pc' := 8) C d_jdk_43m3_7 (v := (1 : Int32)) rfl rfl ?_
  refine Wk.goto C d_jdk_43m3_8 (by decide) (pc' := 12) (by decide) ?_
  exact Wk.retNar (ty := .boolean) C (by simp) d_jdk_43m3_12 rfl (by decide) (by decide) ⟨rfl, rfl⟩
set_option maxRecDepth 65536 in
set_option maxHeartbeats 40000000 in
theorem own_toBytes (l : Launch) {Z : State} {a0 : Array Value} (hw : Ws a0 Z) {h0 : Heap} (O0 : Ext Z.heap h0) (c : Int32)  :
    Wk.Con l Z (⟨"java/lang/StringLatin1", "toBytes", "(C)[B"⟩ : MethodName) jdk_43_method_46_code 1 (some (.array .byte)) ({ frames := 0, cells := 1, slots := 1, locals := 0 } : Room) #[(.int c)] h0 (fun v h' => ∃ b : Addr, v = some (.ref b) ∧ b = h0.size ∧ Ext h0 h' ∧ Wk.Ary Z h' b .byte [.int c.toInt8.toInt32]) := by
  refine Wk.Con.intro (plainFor_of_name pn3) O0 (fun m => ef5 m c) ?_
  intro W C
  replace C : Wk.Cx Z W "java/lang/StringLatin1" "toBytes" jdk_43_method_46_code 1 (some (.array .byte)) := C
  refine Wk.iconst (pc' := 1) C d_jdk_43m46_0 (v := (1 : Int32)) rfl rfl ?_
  refine Wk.newA (pc' := 3) C d_jdk_43m46_1 (ty := .byte) rfl (w15 hw) (by decide) (cap := 1) (by decide) (by decide) (k' := 1) rfl (n' := 1) rfl (by decide) (by decide) rfl rfl ?_
  intro a11 h12 ga11 za11 E12 Va11 O12
  have V13 : Wk.Ary Z h12 a11 .byte [(.int (0 : Int32))] := Va11
  refine Wk.dup (pc' := 4) C d_jdk_43m46_3 rfl rfl ?_
  refine Wk.iconst (pc' := 5) C d_jdk_43m46_4 (v := (0 : Int32)) rfl rfl ?_
  refine Wk.iloadN (pc' := 6) C d_jdk_43m46_5 rfl rfl ?_
  obtain ⟨v14, hv14⟩ : ∃ z : Int32, c.toInt8.toInt32 = z := ⟨_, rfl⟩
  refine Wk.i2b (pc' := 7) C d_jdk_43m46_6 hv14 rfl ?_
  refine Wk.bastore (pc' := 8) C d_jdk_43m46_7 V13 (by decide) (show _ < _ from Nat.le_of_ble_eq_true rfl) (vs' := [(.int v14)]) (by rw [Wk.nar_i2b hv14]; rfl) za11 rfl ?_
  intro h15 W15 V15 O15
  have X16 : Ext h0 h15 := Wk.Ext.wr (Z := Z) E12 W15 (Nat.le_of_eq ga11.symm)
  exact Wk.retA C rfl rfl d_jdk_43m46_8 (by decide) (by decide) ⟨_, rfl, ga11, X16, by rw [hv14]; exact V15⟩
set_option maxRecDepth 65536 in
set_option maxHeartbeats 40000000 in
theorem own_strInitB (l : Launch) {Z : State} {a0 : Array Value} (hw : Ws a0 Z) {h0 : Heap} (O0 : Ext Z.heap h0) (a1 a2 : Addr) (v0 c0 : Value) (g1 : Z.heap.size ≤ a1) (E1 : Exa Z h0 a1 "java/lang/String") (F1 : Fld Z h0 a1 "java/lang/String" "value" "[B" v0) (F2 : Fld Z h0 a1 "java/lang/String" "coder" "B" c0) :
    Wk.Con l Z (⟨"java/lang/String", "<init>", "([BB)V"⟩ : MethodName) jdk_42_method_151_code 3 none ({ frames := 1, cells := 0, slots := 0, locals := 12 } : Room) #[(.ref a1), (.ref a2), (.int (0 : Int32))] h0 (fun v h' => v = none ∧ Keep h0 h' [a1] ∧ Exa Z h' a1 "java/lang/String" ∧ Fld Z h' a1 "java/lang/String" "value" "[B" (.ref a2) ∧ Fld Z h' a1 "java/lang/String" "coder" "B" (.int 0)) := by
  refine Wk.Con.intro (plainFor_of_name pn4) O0 (fun m => ef6 m a1 a2) ?_
  intro W C
  replace C : Wk.Cx Z W "java/lang/String" "<init>" jdk_42_method_151_code 3 none := C
  refine Wk.aloadN (pc' := 1) C d_jdk_42m151_0 rfl rfl rfl ?_
  refine Wk.initO (pc' := 4) C d_jdk_42m151_1 (Wn := 0) (w11 hw) (w12 hw) (w13 hw) rfl (by decide) (Nat.le_of_eq rfl) (by decide) rfl ?_
  refine Wk.aloadN (pc' := 5) C d_jdk_42m151_4 rfl rfl rfl ?_
  refine Wk.aloadN (pc' := 6) C d_jdk_42m151_5 rfl rfl rfl ?_
  refine Wk.putF (pc' := 9) C d_jdk_42m151_6 (w20 hw) Via.refl F1 E1 (Or.inr ⟨(w16 hw), rfl, rfl⟩) (w1 hw) (ty := (.array .byte)) (by decide) rfl rfl g1 rfl ?_
  intro h11 W11 O11
  have F12 := F1.same W11
  refine Wk.aloadN (pc' := 10) C d_jdk_42m151_9 rfl rfl rfl ?_
  refine Wk.iloadN (pc' := 11) C d_jdk_42m151_10 rfl rfl ?_
  refine Wk.putF (pc' := 14) C d_jdk_42m151_11 (w21 hw) Via.refl (F2.other W11 (Or.inr (slot_ne (Or.inr (w17 hw)) (Or.inr (w16 hw)) (by decide) (t := .byte) (t' := (.array .byte)) (by decide) (by decide)))) (E1.wr W11) (Or.inr ⟨(w17 hw), rfl, rfl⟩) (w1 hw) (ty := .byte) (by decide) (by decide) (by decide) g1 rfl ?_
  intro h13 W13 O13
  have F14 := (F2.other W11 (Or.inr (slot_ne (Or.inr (w17 hw)) (Or.inr (w16 hw)) (by decide) (t := .byte) (t' := (.array .byte)) (by decide) (by decide)))).same W13
  exact Wk.retV C d_jdk_42m151_14 (by decide) (by decide) ⟨rfl, (((Keep.refl _ _).wr W11 (Or.inl (List.mem_singleton.mpr rfl))).wr W13 (Or.inl (List.mem_singleton.mpr rfl))), ((E1.wr W11).wr W13), (F12.other W13 (Or.inr (slot_ne (Or.inr (w16 hw)) (Or.inr (w17 hw)) (by decide) (t := (.array .byte)) (t' := .byte) (by decide) (by decide)))), F14⟩
set_option maxRecDepth 65536 in
set_option maxHeartbeats 40000000 in
theorem own_valueOf (l : Launch) {Z : State} {a0 : Array Value} (hw : Ws a0 Z) {h0 : Heap} (O0 : Ext Z.heap h0) (hs : Sets Z) (c : Int32) (hc : ¬ c < 0 ∧ ¬ (255 : Int32) < c) :
    Wk.Con l Z (⟨"java/lang/String", "valueOf", "(C)Ljava/lang/String;"⟩ : MethodName) jdk_42_method_139_code 1 (some (.object "java/lang/String")) ({ frames := 2, cells := 2, slots := 5, locals := 40 } : Room) #[(.int c)] h0 (fun v h' => ∃ a : Addr, v = some (.ref a) ∧ a = h0.size ∧ Ext h0 h' ∧ Str Z h' a [c]) := by
  refine Wk.Con.intro (plainFor_of_name pn4) O0 (fun m => ef7 m c) ?_
  intro W C
  replace C : Wk.Cx Z W "java/lang/String" "valueOf" jdk_42_method_139_code 1 (some (.object "java/lang/String")) := C
  obtain ⟨zc, fm, SC, hzc, -, -⟩ := hs
  refine Wk.getS (pc' := 3) C d_jdk_42m139_0 (w89 hw) Via.refl (SC.ext O0) rfl ?_
  refine Wk.if_eq C d_jdk_42m139_3 (by decide) (pcT := 26) (by decide) (pc' := 6) rfl (fun q => absurd q hzc) (fun q11 => ?_)
  refine Wk.iloadN (pc' := 7) C d_jdk_42m139_6 rfl rfl ?_
  refine Wk.callS (pc' := 10) C d_jdk_42m139_7 (Wk.Con.pays C (Wn := 0) (own_canEnc l hw O0 c hc) (w93 hw) (w92 hw) (by decide) (by decide)) Wk.cleanC (w90 hw) (w91 hw) (w92 hw) (w93 hw) (by decide) (argsL := [(.int c)]) (st := []) rfl rfl (lenOf pd2 rfl) rfl (Nat.le_of_eq rfl) (k' := 0) rfl (n' := 0) rfl (by decide) (by decide) rfl ?_
  intro r12 h13 Q13 O13
  obtain ⟨rfl, e14⟩ := Q13
  obtain rfl := e14.symm
  refine Wk.if_eq C d_jdk_42m139_10 (by decide) (pcT := 26) (by decide) (pc' := 13) rfl (fun q => absurd q (by decide)) (fun q15 => ?_)
  refine Wk.newO (pc' := 16) C d_jdk_42m139_13 (w94 hw) (w1 hw) (w2 hw) (k' := 1) rfl (n' := 4) rfl (by decide) (by decide) rfl ?_
  intro a16 h17 ga16 za16 E17 Aa16 Da16 Ua16 O17
  have F18 : Fld Z h17 a16 "java/lang/String" "value" "[B" .null := Da16 (Or.inr (w16 hw)) (ty := (.array .byte)) (by decide)
  have F19 : Fld Z h17 a16 "java/lang/String" "coder" "B" (.int (0 : Int32)) := Da16 (Or.inr (w17 hw)) (ty := .byte) (by decide)
  refine Wk.dup (pc' := 17) C d_jdk_42m139_16 rfl rfl ?_
  refine Wk.iloadN (pc' := 18) C d_jdk_42m139_17 rfl rfl ?_
  refine Wk.callS (pc' := 21) C d_jdk_42m139_18 (Wk.Con.pays C (Wn := 2) (own_toBytes l hw O17 c) (w97 hw) (w92 hw) (by decide) (by decide)) Wk.cleanC (w95 hw) (w96 hw) (w92 hw) (w97 hw) (by decide) (argsL := [(.int c)]) (st := [(.ref a16), (.ref a16)]) rfl rfl (lenOf pd3 rfl) rfl (Nat.le_of_eq rfl) (k' := 2) rfl (n' := 5) rfl (by decide) (by decide) rfl ?_
  intro r20 h21 Q21 O21
  obtain ⟨b22, rfl, gb22, Eh21, Vh21⟩ := Q21
  refine Wk.iconst (pc' := 22) C d_jdk_42m139_21 (v := (0 : Int32)) rfl rfl ?_
  refine Wk.callI (pc' := 25) C d_jdk_42m139_22 (a := a16) (Wk.Con.pays C (Wn := 1) (own_strInitB l hw O21 a16 b22 _ _ za16 (Aa16.ext Eh21) (F18.ext Eh21) (F19.ext Eh21)) (w100 hw) (w2 hw) (by decide) (by decide)) Wk.cleanC rfl (w98 hw) (w99 hw) (w100 hw) (by decide) (argsL := [(.ref b22), (.int (0 : Int32))]) (st := [(.ref a16)]) rfl rfl (lenOf pd4 rfl) rfl (Nat.le_of_eq rfl) (k' := 2) rfl (n' := 5) rfl (by decide) (by decide) rfl ?_
  intro r23 h24 Q24 O24
  obtain ⟨rfl, Kh24, Ah24, Vh24, Ch24⟩ := Q24
  have X25 : Ext h0 h21 := Wk.Ext.trans E17 Eh21
  have X26 : Ext h0 h24 := Wk.Ext.keep1 (Z := Z) X25 Kh24 (Nat.le_of_eq ga16.symm)
  exact Wk.retA C rfl rfl d_jdk_42m139_25 (by decide) (by decide) ⟨_, rfl, ga16, X26, Ah24, Ch24, ⟨_, Vh24, (Vh21.keep Kh24 (ninS (Ne.symm (Nat.ne_of_lt (Nat.lt_of_lt_of_le Aa16.lt (Nat.le_of_eq gb22.symm)))) nin0))⟩, List.forall_mem_cons.mpr ⟨hc, (fun _ h => nomatch h)⟩, (show 1 ≤ 4000 by decide)⟩
set_option maxRecDepth 65536 in
set_option maxHeartbeats 40000000 in
theorem own_new4e (l : Launch) {Z : State} {a0 : Array Value} (hw : Ws a0 Z) (hE : EW Z a0 EL) {h0 : Heap} (O0 : Ext Z.heap h0) (a1 a2 : Addr) (g1 : Z.heap.size ≤ a1) (E1 : Exa Z h0 a1 "java/lang/String") (F1 : Fld Z h0 a1 "java/lang/String" "value" "[B" .null) (F2 : Fld Z h0 a1 "java/lang/String" "coder" "B" (.int (0 : Int32))) :
    Ww.Con l Z EL (⟨"java/lang/String", "<init>", "([CIILjava/lang/Void;)V"⟩ : MethodName) jdk_42_method_149_code 6 none ({ frames := 1, cells := 4, slots := 8, locals := 12 } : Room) #[(.ref a1), (.ref a2), (.int (0 : Int32)), (.int (0 : Int32)), .null] h0 (fun v h' => v = none ∧ Keep h0 h' [a1] ∧ Str Z h' a1 []) := by
  refine Ww.Con.intro (plainFor_of_name pn4) O0 (fun m => ef8 m a1 a2) ?_
  intro W C
  replace C : Wk.Cx Z W "java/lang/String" "<init>" jdk_42_method_149_code 6 none := C
  refine Ww.Run.safe E1.lt (Ww.SafeAt.str0 E1 F1) ?_
  refine Ww.aloadN (pc' := 1) C d_jdk_42m149_0 rfl rfl rfl ?_
  refine Ww.initO (pc' := 4) C d_jdk_42m149_1 (Wn := 0) (w11 hw) (w12 hw) (w13 hw) rfl (by decide) (Nat.le_of_eq rfl) (by decide) rfl ?_
  refine Ww.iloadN (pc' := 5) C d_jdk_42m149_4 rfl rfl ?_
  refine Ww.if_ne C d_jdk_42m149_5 (by decide) (pcT := 27) (by decide) (pc' := 8) rfl (fun q => absurd q (by decide)) (fun q11 => ?_)
  refine Ww.aloadN (pc' := 9) C d_jdk_42m149_8 rfl rfl rfl ?_
  refine Ww.ldcS (pc' := 11) C d_jdk_42m149_9 (w14 hw) (wS hw) hE (by decide) (vs := []) ⟨by decide, by decide⟩ (z := (0 : Int32)) (by decide) (by decide) (nb := 0) (by decide) (by decide) (k' := 2) rfl (n' := 4) rfl (by decide) (by decide) rfl ?_
  intro a12 b13 h14 E14 A14 C14 V14 B14 N14 O14
  refine Ww.getF (pc' := 14) C d_jdk_42m149_11 (w20 hw) Via.refl V14 rfl ?_
  refine Ww.putF (pc' := 17) C d_jdk_42m149_14 (w20 hw) Via.refl (F1.ext E14) (E1.ext E14) (Or.inr ⟨(w16 hw), rfl, rfl⟩) (w1 hw) (ty := (.array .byte)) (by decide) rfl rfl g1 (List.mem_of_getElem? (i := 0) rfl) rfl ?_
  intro h15 W15 O15
  have F16 := (F1.ext E14).same W15
  refine Ww.aloadN (pc' := 18) C d_jdk_42m149_17 rfl rfl rfl ?_
  refine Ww.ldcS (pc' := 20) C d_jdk_42m149_18 (w14 hw) (wS hw) hE (by decide) (vs := []) ⟨by decide, by decide⟩ (z := (0 : Int32)) (by decide) (by decide) (nb := 0) (by decide) (by decide) (k' := 4) rfl (n' := 8) rfl (by decide) (by decide) rfl ?_
  intro a17 b18 h19 E19 A19 C19 V19 B19 N19 O19
  refine Ww.getF (pc' := 23) C d_jdk_42m149_20 (w21 hw) Via.refl C19 rfl ?_
  refine Ww.putF (pc' := 26) C d_jdk_42m149_23 (w21 hw) Via.refl (((F2.ext E14).other W15 (Or.inr (slot_ne (Or.inr (w17 hw)) (Or.inr (w16 hw)) (by decide) (t := .byte) (t' := (.array .byte)) (by decide) (by decide)))).ext E19) (((E1.ext E14).wr W15).ext E19) (Or.inr ⟨(w17 hw), rfl, rfl⟩) (w1 hw) (ty := .byte) (by decide) (by decide) (by decide) g1 (List.mem_of_getElem? (i := 0) rfl) rfl ?_
  intro h20 W20 O20
  have F21 := (((F2.ext E14).other W15 (Or.inr (slot_ne (Or.inr (w17 hw)) (Or.inr (w16 hw)) (by decide) (t := .byte) (t' := (.array .byte)) (by decide) (by decide)))).ext E19).same W20
  exact Ww.retV C hE d_jdk_42m149_26 (by decide) (by decide) ⟨rfl, (((((Keep.refl _ _).ext E14).wr W15 (Or.inl (List.mem_singleton.mpr rfl))).ext E19).wr W20 (Or.inl (List.mem_singleton.mpr rfl))), ((((E1.ext E14).wr W15).ext E19).wr W20), F21, ⟨_, ((F16.ext E19).other W20 (Or.inr (slot_ne (Or.inr (w16 hw)) (Or.inr (w17 hw)) (by decide) (t := (.array .byte)) (t' := .byte) (by decide) (by decide)))), (((B14.other W15 (Ne.symm (N14 a1 (List.mem_of_getElem? (i := 0) rfl)).2)).ext E19).other W20 (Ne.symm (N14 a1 (List.mem_of_getElem? (i := 0) rfl)).2))⟩, (fun _ h => nomatch h), by decide⟩
set_option maxRecDepth 65536 in
set_option maxHeartbeats 40000000 in
theorem own_newE (l : Launch) {Z : State} {a0 : Array Value} (hw : Ws a0 Z) (hE : EW Z a0 EL) {h0 : Heap} (O0 : Ext Z.heap h0) (a1 a2 : Addr) (g1 : Z.heap.size ≤ a1) (E1 : Exa Z h0 a1 "java/lang/String") (F1 : Fld Z h0 a1 "java/lang/String" "value" "[B" .null) (F2 : Fld Z h0 a1 "java/lang/String" "coder" "B" (.int (0 : Int32))) (V2 : Wk.Ary Z h0 a2 .char []) :
    Ww.Con l Z EL (⟨"java/lang/String", "<init>", "([C)V"⟩ : MethodName) jdk_42_method_3_code 2 none ({ frames := 2, cells := 4, slots := 8, locals := 29 } : Room) #[(.ref a1), (.ref a2)] h0 (fun v h' => v = none ∧ Keep h0 h' [a1] ∧ Str Z h' a1 []) := by
  refine Ww.Con.intro (plainFor_of_name pn4) O0 (fun m => ef9 m a1 a2) ?_
  intro W C
  replace C : Wk.Cx Z W "java/lang/String" "<init>" jdk_42_method_3_code 2 none := C
  refine Ww.aloadN (pc' := 1) C d_jdk_42m3_0 rfl rfl rfl ?_
  refine Ww.aloadN (pc' := 2) C d_jdk_42m3_1 rfl rfl rfl ?_
  refine Ww.iconst (pc' := 3) C d_jdk_42m3_2 (v := (0 : Int32)) rfl rfl ?_
  refine Ww.aloadN (pc' := 4) C d_jdk_42m3_3 rfl rfl rfl ?_
  refine Ww.alen (pc' := 5) C d_jdk_42m3_4 V2 (z := (0 : Int32)) rfl rfl ?_
  refine Ww.aconstNull (pc' := 6) C d_jdk_42m3_5 rfl ?_
  refine Ww.callIS (pc' := 9) C d_jdk_42m3_6 (a := a1) (Ww.Con.pays C hE (Wn := 0) (own_new4e l hw hE O0 a1 a2 g1 E1 F1 F2) (w10 hw) (w2 hw) (by decide) (by decide)) Wk.cleanC rfl (w7 hw) (w8 hw) (w10 hw) (by decide) (argsL := [(.ref a2), (.int (0 : Int32)), (.int (0 : Int32)), .null]) (st := []) rfl rfl (lenOf pd5 rfl) rfl (Nat.le_of_eq rfl) (k' := 4) rfl (n' := 8) rfl (by decide) (by decide) rfl ?_
  intro r11 h12 Q12 O12
  obtain ⟨rfl, Kh12, Sh12⟩ := Q12
  exact Ww.retV C hE d_jdk_42m3_9 (by decide) (by decide) ⟨rfl, ((Keep.refl _ _).trans Kh12 (allS (Or.inl (List.mem_singleton.mpr rfl)) all0)), Sh12⟩
set_option maxRecDepth 65536 in
set_option maxHeartbeats 80000000 in
theorem own_law (l : Launch) {Z : State} {a0 : Array Value} (hw : Ws a0 Z) (hE : EW Z a0 EL) (hl : l.stackTraces = true) (uS sS : Addr) (SU : Sta Z Z.heap "java/lang/Throwable" "UNASSIGNED_STACK" "[Ljava/lang/StackTraceElement;" (.ref uS)) (SS : Sta Z Z.heap "java/lang/Throwable" "SUPPRESSED_SENTINEL" "Ljava/util/List;" (.ref sS)) (p0 p1 p2 : Int32) (hs : Sets Z)  :
    Ww.Con l Z EL x code maxLocals ret room_1 #[(.int p0), (.int p1), (.int p2)] Z.heap (fun v _ => v = some (.int 1)) := by
  refine Ww.Con.intro (plainFor_of_name pn5) (Wk.Ext.refl _) (fun m => ef10 m p0 p1 p2) ?_
  intro W C
  replace C : Wk.Cx Z W "com/example/consentry/consentry/oauth/TokenRequestExceptionIsTemporaryPinLaw" "law" code 10 (some .boolean) := C
  have O0 : Ext Z.heap Z.heap := Wk.Ext.refl _
  have J15 : ∀ s : Int32, Ww.Run l room_1 Z EL W (fun v _ => v = some (.int 1)) [] Z.heap 0 0 (mkF W.m 15 #[.val (.int p0), .val (.int p1), .val (.int p2), .unset, .unset, .unset, .unset, .unset, .unset, .unset] [(.int s)]) := by
    intro s
    refine Ww.istoreN (pc' := 16) C at_15 (Ls' := #[.val (.int p0), .val (.int p1), .val (.int p2), .val (.int s), .unset, .unset, .unset, .unset, .unset, .unset]) rfl rfl ?_
    refine Ww.iloadN (pc' := 17) C at_16 rfl rfl ?_
    refine Ww.iconst (pc' := 18) C at_17 (v := (1 : Int32)) rfl rfl ?_
    obtain ⟨v11, hv11⟩ : ∃ z : Int32, (p1.toUInt32 >>> ((1 : Int32) &&& 31).toUInt32).toInt32 = z := ⟨_, rfl⟩
    refine Ww.iushr (pc' := 19) C at_18 hv11 rfl ?_
    refine Ww.iconst (pc' := 20) C at_19 (v := (3 : Int32)) rfl rfl ?_
    obtain ⟨v12, hv12⟩ : ∃ z : Int32, v11 &&& (3 : Int32) = z := ⟨_, rfl⟩
    refine Ww.iand (pc' := 21) C at_20 hv12 rfl ?_
    refine Ww.istore (pc' := 23) C at_21 (Ls' := #[.val (.int p0), .val (.int p1), .val (.int p2), .val (.int s), .val (.int v12), .unset, .unset, .unset, .unset, .unset]) rfl rfl ?_
    have J114 : ∀ (e : Value) (Lx : Slot) hx, (Lx = .unset ∨ ∃ a, Lx = .val (.ref a)) → e.isRef = true → Ext Z.heap hx → Ww.Run l room_1 Z EL W (fun v _ => v = some (.int 1)) [] hx 6 16 (mkF W.m 114 #[.val (.int p0), .val (.int p1), .val (.int p2), .val (.int s), .val (.int v12), .val e, Lx, .unset, .unset, .unset] []) := by
      intro e Lx hx hLx he Ox
      refine Ww.newO (pc' := 117) C at_114 (w22 hw) (w23 hw) (w24 hw) (k' := 7) rfl (n' := 24) rfl (by decide) (by decide) rfl ?_
      intro a13 h14 ga13 za13 E14 Aa13 Da13 Ua13 O14
      have F15 : Fld Z h14 a13 "java/lang/Throwable" "cause" "Ljava/lang/Throwable;" .null := Da13 (Or.inl (w42 hw)) (ty := (.object "java/lang/Throwable")) (by decide)
      have F16 : Fld Z h14 a13 "java/lang/Throwable" "stackTrace" "[Ljava/lang/StackTraceElement;" .null := Da13 (Or.inl (w45 hw)) (ty := (.array (.object "java/lang/StackTraceElement"))) (by decide)
      have F17 : Fld Z h14 a13 "java/lang/Throwable" "suppressedExceptions" "Ljava/util/List;" .null := Da13 (Or.inl (w48 hw)) (ty := (.object "java/util/List")) (by decide)
      have F18 : Fld Z h14 a13 "java/lang/Throwable" "detailMessage" "Ljava/lang/String;" .null := Da13 (Or.inl (w72 hw)) (ty := (.object "java/lang/String")) (by decide)
      have F19 : Fld Z h14 a13 "java/lang/Throwable" "backtrace" "Ljava/lang/Object;" .null := Da13 (Or.inl (w73 hw)) (ty := (.object "java/lang/Object")) (by decide)
      have F20 : Fld Z h14 a13 "java/lang/Throwable" "depth" "I" (.int (0 : Int32)) := Da13 (Or.inl (w74 hw)) (ty := .int) (by decide)
      have F21 : Fld Z h14 a13 "com/example/consentry/consentry/oauth/TokenRequestException" "status" "I" (.int (0 : Int32)) := Da13 (Or.inr (w78 hw)) (ty := .int) (by decide)
      have F22 : Fld Z h14 a13 "com/example/consentry/consentry/oauth/TokenRequestException" "error" "Ljava/lang/String;" .null := Da13 (Or.inr (w80 hw)) (ty := (.object "java/lang/String")) (by decide)
      refine Ww.dup (pc' := 118) C at_117 rfl rfl ?_
      refine Ww.ldcS (pc' := 120) C at_118 (w25 hw) (wS hw) hE (by decide) (vs := [(.int (109 : Int32))]) ⟨by decide, by decide⟩ (z := (1 : Int32)) (by decide) (by decide) (nb := 4) (by decide) (by decide) (k' := 9) rfl (n' := 32) rfl (by decide) (by decide) rfl ?_
      intro a23 b24 h25 E25 A25 C25 V25 B25 N25 O25
      refine Ww.iloadN (pc' := 121) C at_120 rfl rfl ?_
      refine Ww.aload (pc' := 123) C at_121 rfl he rfl ?_
      refine Ww.callI (pc' := 126) C at_123 (a := a13) (fun vm0 C => (Wk.Con.pays C (Wn := 1) (own_trInit l hw O25 hl uS sS SU SS a13 (.ref a23) e s rfl he za13 (Aa13.ext E25) (Ua13.ext E25) (F19.ext E25)) (w28 hw) (w24 hw) (by decide) (by decide))) Wk.cleanC (fun v h' q => Or.inr (Or.inr ⟨[a13], allS (List.mem_of_getElem? (i := 0) rfl) all0, q.2.1⟩)) rfl (w26 hw) (w27 hw) (w28 hw) (by decide) (argsL := [(.ref a23), (.int s), e]) (st := [(.ref a13)]) rfl rfl (lenOf pd6 rfl) rfl (Nat.le_of_eq rfl) (k' := 10) rfl (n' := 2784) rfl (by decide) (by decide) rfl ?_
      intro r26 h27 Q27 O27
      obtain ⟨rfl, K27, A27, P27, D27⟩ := Q27
      refine Ww.astore (pc' := 128) C at_126 rfl (Ls' := #[.val (.int p0), .val (.int p1), .val (.int p2), .val (.int s), .val (.int v12), .val e, .val (.ref a13), .unset, .unset, .unset]) (by rcases hLx with rfl | ⟨_, rfl⟩ <;> rfl) rfl ?_
      have J147 : ∀ c7 : Int32, (c7 = 1 ∧ (¬ s < 200 ∧ ¬ (299 : Int32) < s)) ∨ (c7 = 0 ∧ ¬ (¬ s < 200 ∧ ¬ (299 : Int32) < s)) → Ww.Run l room_1 Z EL W (fun v _ => v = some (.int 1)) [a13] h27 10 2784 (mkF W.m 147 #[.val (.int p0), .val (.int p1), .val (.int p2), .val (.int s), .val (.int v12), .val e, .val (.ref a13), .unset, .unset, .unset] [(.int c7)]) := by
        intro c7 d7
        refine Ww.istore (pc' := 149) C at_147 (Ls' := #[.val (.int p0), .val (.int p1), .val (.int p2), .val (.int s), .val (.int v12), .val e, .val (.ref a13), .val (.int c7), .unset, .unset]) rfl rfl ?_
        have J168 : ∀ c8 : Int32, (c8 = 1 ∧ (¬ s < 500 ∧ ¬ (599 : Int32) < s)) ∨ (c8 = 0 ∧ ¬ (¬ s < 500 ∧ ¬ (599 : Int32) < s)) → Ww.Run l room_1 Z EL W (fun v _ => v = some (.int 1)) [a13] h27 10 2784 (mkF W.m 168 #[.val (.int p0), .val (.int p1), .val (.int p2), .val (.int s), .val (.int v12), .val e, .val (.ref a13), .val (.int c7), .unset, .unset] [(.int c8)]) := by
          intro c8 d8
          refine Ww.istore (pc' := 170) C at_168 (Ls' := #[.val (.int p0), .val (.int p1), .val (.int p2), .val (.int s), .val (.int v12), .val e, .val (.ref a13), .val (.int c7), .val (.int c8), .unset]) rfl rfl ?_
          have J201 : ∀ c9 : Int32, (c9 = 1 ∧ (s = 0 ∨ s = 429 ∨ (¬ s < 500 ∧ ¬ (599 : Int32) < s) ∨ (¬ (¬ s < 200 ∧ ¬ (299 : Int32) < s) ∧ e = .null))) ∨ (c9 = 0 ∧ ¬ (s = 0 ∨ s = 429 ∨ (¬ s < 500 ∧ ¬ (599 : Int32) < s) ∨ (¬ (¬ s < 200 ∧ ¬ (299 : Int32) < s) ∧ e = .null))) → Ww.Run l room_1 Z EL W (fun v _ => v = some (.int 1)) [a13] h27 10 2784 (mkF W.m 201 #[.val (.int p0), .val (.int p1), .val (.int p2), .val (.int s), .val (.int v12), .val e, .val (.ref a13), .val (.int c7), .val (.int c8), .unset] [(.int c9)]) := by
            intro c9 d9
            refine Ww.istore (pc' := 203) C at_201 (Ls' := #[.val (.int p0), .val (.int p1), .val (.int p2), .val (.int s), .val (.int v12), .val e, .val (.ref a13), .val (.int c7), .val (.int c8), .val (.int c9)]) rfl rfl ?_
            refine Ww.aload (pc' := 205) C at_203 rfl rfl rfl ?_
            refine Ww.callV (pc' := 208) C at_205 (a := a13) (fun vm0 C => (Wk.Con.pays C (Wn := 0) (own_isT l hw O27 a13 s e he P27 D27) (w85 hw) (w24 hw) (by decide) (by decide))) Wk.cleanC (fun v h' q => Or.inl q.2) A27 (w81 hw) (w82 hw) (fun vm0 hZ0 => notFace_of_selects (args := #[]) (mvT (s := W.s.setVm vm0) hZ0 (w84 hw))) (w84 hw) (w83 hw) (by decide) (argsL := []) (st := []) rfl rfl (lenOf pd7 rfl) rfl (Nat.le_of_eq rfl) (k' := 10) rfl (n' := 2784) rfl (by decide) (by decide) rfl ?_
            intro r28 h29 Q29 O29
            obtain ⟨q31, e30⟩ := Q29
            obtain rfl := e30.symm
            rcases q31 with ⟨rfl, q31⟩ | ⟨rfl, q31⟩
            · -- isTemporary: 1
              refine Ww.iload (pc' := 210) C at_208 rfl rfl ?_
              refine Ww.icmp_ne C at_210 (by decide) (pcT := 217) (by decide) (pc' := 213) rfl (fun q => absurd (own_c1 d9 ((own_iff s e).mp q31)) q) (fun q32 => ?_)
              refine Ww.iconst (pc' := 214) C at_213 (v := (1 : Int32)) rfl rfl ?_
              refine Ww.goto C at_214 (by decide) (pc' := 218) (by decide) ?_
              exact Ww.retNar (ty := .boolean) C hE (by simp) at_218 rfl (by decide) (by decide) rfl
            · -- isTemporary: 0
              refine Ww.iload (pc' := 210) C at_208 rfl rfl ?_
              refine Ww.icmp_ne C at_210 (by decide) (pcT := 217) (by decide) (pc' := 213) rfl (fun q => absurd (own_c0 d9 (fun z => q31 ((own_iff s e).mpr z))) q) (fun q33 => ?_)
              refine Ww.iconst (pc' := 214) C at_213 (v := (1 : Int32)) rfl rfl ?_
              refine Ww.goto C at_214 (by decide) (pc' := 218) (by decide) ?_
              exact Ww.retNar (ty := .boolean) C hE (by simp) at_218 rfl (by decide) (by decide) rfl
          refine Ww.iloadN (pc' := 171) C at_170 rfl rfl ?_
          refine Ww.if_eq C at_171 (by decide) (pcT := 196) (by decide) (pc' := 174) rfl (fun q34 => ?_) (fun q34 => ?_)
          · -- pc 171: taken
            refine Ww.iconst (pc' := 197) C at_196 (v := (1 : Int32)) rfl rfl ?_
            refine Ww.goto C at_197 (by decide) (pc' := 201) (by decide) ?_
            exact J201 1 (Or.inl ⟨rfl, Or.inl q34⟩)
          · -- pc 171: not taken
            refine Ww.iloadN (pc' := 175) C at_174 rfl rfl ?_
            refine Ww.sipush (pc' := 178) C at_175 (v := (429 : Int32)) rfl rfl ?_
            refine Ww.icmp_eq C at_178 (by decide) (pcT := 196) (by decide) (pc' := 181) rfl (fun q35 => ?_) (fun q35 => ?_)
            · -- pc 178: taken
              refine Ww.iconst (pc' := 197) C at_196 (v := (1 : Int32)) rfl rfl ?_
              refine Ww.goto C at_197 (by decide) (pc' := 201) (by decide) ?_
              exact J201 1 (Or.inl ⟨rfl, Or.inr (Or.inl q35)⟩)
            · -- pc 178: not taken
              refine Ww.iload (pc' := 183) C at_181 rfl rfl ?_
              refine Ww.if_ne C at_183 (by decide) (pcT := 196) (by decide) (pc' := 186) rfl (fun q36 => ?_) (fun q36 => ?_)
              · -- pc 183: taken
                refine Ww.iconst (pc' := 197) C at_196 (v := (1 : Int32)) rfl rfl ?_
                refine Ww.goto C at_197 (by decide) (pc' := 201) (by decide) ?_
                exact J201 1 (Or.inl ⟨rfl, Or.inr (Or.inr (Or.inl (own_b1 d8 q36)))⟩)
              · -- pc 183: not taken
                refine Ww.iload (pc' := 188) C at_186 rfl rfl ?_
                refine Ww.if_ne C at_188 (by decide) (pcT := 200) (by decide) (pc' := 191) rfl (fun q37 => ?_) (fun q37 => ?_)
                · -- pc 188: taken
                  refine Ww.iconst (pc' := 201) C at_200 (v := (0 : Int32)) rfl rfl ?_
                  exact J201 0 (Or.inr ⟨rfl, own_nE q34 q35 (own_b0 d8 q36) (Or.inl (own_b1 d7 q37))⟩)
                · -- pc 188: not taken
                  refine Ww.aload (pc' := 193) C at_191 rfl he rfl ?_
                  rcases ref_cases he with qn_ | ⟨a38, qn_⟩
                  · -- pc 193: e is null
                    subst qn_
                    refine Ww.ifnonnullN (pc' := 196) C at_193 rfl ?_
                    refine Ww.iconst (pc' := 197) C at_196 (v := (1 : Int32)) rfl rfl ?_
                    refine Ww.goto C at_197 (by decide) (pc' := 201) (by decide) ?_
                    exact J201 1 (Or.inl ⟨rfl, Or.inr (Or.inr (Or.inr ⟨own_b0 d7 q37, rfl⟩))⟩)
                  · -- pc 193: e is an object
                    subst qn_
                    refine Ww.ifnonnullY C at_193 (by decide) (pc' := 200) (by decide) ?_
                    refine Ww.iconst (pc' := 201) C at_200 (v := (0 : Int32)) rfl rfl ?_
                    exact J201 0 (Or.inr ⟨rfl, own_nE q34 q35 (own_b0 d8 q36) (Or.inr (fun z => nomatch z))⟩)
        refine Ww.sipush (pc' := 152) C at_149 (v := (500 : Int32)) rfl rfl ?_
        refine Ww.iloadN (pc' := 153) C at_152 rfl rfl ?_
        refine Ww.icmp_gt C at_153 (by decide) (pcT := 167) (by decide) (pc' := 156) rfl (fun q39 => ?_) (fun q39 => ?_)
        · -- pc 153: taken
          refine Ww.iconst (pc' := 168) C at_167 (v := (0 : Int32)) rfl rfl ?_
          exact J168 0 (Or.inr ⟨rfl, fun z => z.1 q39⟩)
        · -- pc 153: not taken
          refine Ww.iloadN (pc' := 157) C at_156 rfl rfl ?_
          refine Ww.sipush (pc' := 160) C at_157 (v := (599 : Int32)) rfl rfl ?_
          refine Ww.icmp_gt C at_160 (by decide) (pcT := 167) (by decide) (pc' := 163) rfl (fun q40 => ?_) (fun q40 => ?_)
          · -- pc 160: taken
            refine Ww.iconst (pc' := 168) C at_167 (v := (0 : Int32)) rfl rfl ?_
            exact J168 0 (Or.inr ⟨rfl, fun z => z.2 q40⟩)
          · -- pc 160: not taken
            refine Ww.iconst (pc' := 164) C at_163 (v := (1 : Int32)) rfl rfl ?_
            refine Ww.goto C at_164 (by decide) (pc' := 168) (by decide) ?_
            exact J168 1 (Or.inl ⟨rfl, q39, q40⟩)
      refine Ww.sipush (pc' := 131) C at_128 (v := (200 : Int32)) rfl rfl ?_
      refine Ww.iloadN (pc' := 132) C at_131 rfl rfl ?_
      refine Ww.icmp_gt C at_132 (by decide) (pcT := 146) (by decide) (pc' := 135) rfl (fun q41 => ?_) (fun q41 => ?_)
      · -- pc 132: taken
        refine Ww.iconst (pc' := 147) C at_146 (v := (0 : Int32)) rfl rfl ?_
        exact J147 0 (Or.inr ⟨rfl, fun z => z.1 q41⟩)
      · -- pc 132: not taken
        refine Ww.iloadN (pc' := 136) C at_135 rfl rfl ?_
        refine Ww.sipush (pc' := 139) C at_136 (v := (299 : Int32)) rfl rfl ?_
        refine Ww.icmp_gt C at_139 (by decide) (pcT := 146) (by decide) (pc' := 142) rfl (fun q42 => ?_) (fun q42 => ?_)
        · -- pc 139: taken
          refine Ww.iconst (pc' := 147) C at_146 (v := (0 : Int32)) rfl rfl ?_
          exact J147 0 (Or.inr ⟨rfl, fun z => z.2 q42⟩)
        · -- pc 139: not taken
          refine Ww.iconst (pc' := 143) C at_142 (v := (1 : Int32)) rfl rfl ?_
          refine Ww.goto C at_143 (by decide) (pc' := 147) (by decide) ?_
          exact J147 1 (Or.inl ⟨rfl, q41, q42⟩)
    refine Ww.iload (pc' := 25) C at_23 rfl rfl ?_
    refine Ww.if_ne C at_25 (by decide) (pcT := 34) (by decide) (pc' := 28) rfl (fun q43 => ?_) (fun q43 => ?_)
    · -- pc 25: taken
      refine Ww.iload (pc' := 36) C at_34 rfl rfl ?_
      refine Ww.iconst (pc' := 37) C at_36 (v := (1 : Int32)) rfl rfl ?_
      refine Ww.icmp_ne C at_37 (by decide) (pcT := 55) (by decide) (pc' := 40) rfl (fun q44 => ?_) (fun q44 => ?_)
      · -- pc 37: taken
        refine Ww.iload (pc' := 57) C at_55 rfl rfl ?_
        refine Ww.iconst (pc' := 58) C at_57 (v := (2 : Int32)) rfl rfl ?_
        refine Ww.icmp_ne C at_58 (by decide) (pcT := 75) (by decide) (pc' := 61) rfl (fun q45 => ?_) (fun q45 => ?_)
        · -- pc 58: taken
          refine Ww.iconst (pc' := 76) C at_75 (v := (2 : Int32)) rfl rfl ?_
          refine Ww.newA (pc' := 78) C at_76 (ty := .char) rfl (w3 hw) (by decide) (cap := 2) (by decide) (by decide) (k' := 1) rfl (n' := 2) rfl (by decide) (by decide) rfl rfl ?_
          intro a46 h47 ga46 za46 E47 Va46 O47
          have V48 : Wk.Ary Z h47 a46 .char [(.int (0 : Int32)), (.int (0 : Int32))] := Va46
          refine Ww.astore (pc' := 80) C at_78 rfl (Ls' := #[.val (.int p0), .val (.int p1), .val (.int p2), .val (.int s), .val (.int v12), .unset, .val (.ref a46), .unset, .unset, .unset]) rfl rfl ?_
          refine Ww.aload (pc' := 82) C at_80 rfl rfl rfl ?_
          refine Ww.iconst (pc' := 83) C at_82 (v := (0 : Int32)) rfl rfl ?_
          refine Ww.iloadN (pc' := 84) C at_83 rfl rfl ?_
          refine Ww.sipush (pc' := 87) C at_84 (v := (255 : Int32)) rfl rfl ?_
          obtain ⟨v49, hv49⟩ : ∃ z : Int32, p2 &&& (255 : Int32) = z := ⟨_, rfl⟩
          refine Ww.iand (pc' := 88) C at_87 hv49 rfl ?_
          obtain ⟨v50, hv50⟩ : ∃ z : Int32, v49.toUInt32.toUInt16.toUInt32.toInt32 = z := ⟨_, rfl⟩
          refine Ww.i2c (pc' := 89) C at_88 hv50 rfl ?_
          refine Ww.castore (pc' := 90) C at_89 V48 (by decide) (show _ < _ from Nat.le_of_ble_eq_true rfl) (Wk.nar_i2c hv50) (vs' := [(.int v50), (.int (0 : Int32))]) rfl za46 (List.mem_of_getElem? (i := 0) rfl) rfl ?_
          intro h51 W51 V51 O51
          refine Ww.aload (pc' := 92) C at_90 rfl rfl rfl ?_
          refine Ww.iconst (pc' := 93) C at_92 (v := (1 : Int32)) rfl rfl ?_
          refine Ww.iloadN (pc' := 94) C at_93 rfl rfl ?_
          refine Ww.bipush (pc' := 96) C at_94 (v := (8 : Int32)) rfl rfl ?_
          obtain ⟨v52, hv52⟩ : ∃ z : Int32, (p2.toUInt32 >>> ((8 : Int32) &&& 31).toUInt32).toInt32 = z := ⟨_, rfl⟩
          refine Ww.iushr (pc' := 97) C at_96 hv52 rfl ?_
          refine Ww.sipush (pc' := 100) C at_97 (v := (255 : Int32)) rfl rfl ?_
          obtain ⟨v53, hv53⟩ : ∃ z : Int32, v52 &&& (255 : Int32) = z := ⟨_, rfl⟩
          refine Ww.iand (pc' := 101) C at_100 hv53 rfl ?_
          obtain ⟨v54, hv54⟩ : ∃ z : Int32, v53.toUInt32.toUInt16.toUInt32.toInt32 = z := ⟨_, rfl⟩
          refine Ww.i2c (pc' := 102) C at_101 hv54 rfl ?_
          refine Ww.castore (pc' := 103) C at_102 V51 (by decide) (show _ < _ from Nat.le_of_ble_eq_true rfl) (Wk.nar_i2c hv54) (vs' := [(.int v50), (.int v54)]) rfl za46 (List.mem_of_getElem? (i := 0) rfl) rfl ?_
          intro h55 W55 V55 O55
          refine Ww.newO (pc' := 106) C at_103 (w0 hw) (w1 hw) (w2 hw) (k' := 2) rfl (n' := 6) rfl (by decide) (by decide) rfl ?_
          intro a56 h57 ga56 za56 E57 Aa56 Da56 Ua56 O57
          have F58 : Fld Z h57 a56 "java/lang/String" "value" "[B" .null := Da56 (Or.inr (w16 hw)) (ty := (.array .byte)) (by decide)
          have F59 : Fld Z h57 a56 "java/lang/String" "coder" "B" (.int (0 : Int32)) := Da56 (Or.inr (w17 hw)) (ty := .byte) (by decide)
          refine Ww.dup (pc' := 107) C at_106 rfl rfl ?_
          refine Ww.aload (pc' := 109) C at_107 rfl rfl rfl ?_
          have hp60 : ∀ c ∈ ([v50, v54] : List Int32), ¬ c < 0 ∧ ¬ (255 : Int32) < c := (List.forall_mem_cons.mpr ⟨(Wk.rng255 hv49 hv50), (List.forall_mem_cons.mpr ⟨(Wk.rng255 hv53 hv54), (fun _ h => nomatch h)⟩)⟩)
          refine Ww.callI (pc' := 112) C at_109 (a := a56) (fun vm0 C => (strNew C hw hs O57 (cs := [v50, v54]) (n := 2) (Wn := 1) za56 Aa56 F58 F59 (V55.ext E57) rfl (by decide) (by decide) hp60 (by decide) (by decide))) (strNewC (n := 2) O57 za56 rfl (by decide) hp60) (fun v h' q => Or.inr (Or.inr ⟨[a56], allS (List.mem_of_getElem? (i := 0) rfl) all0, q.2.1⟩)) rfl (w4 hw) (w5 hw) (w6 hw) (by decide) (argsL := [(.ref a46)]) (st := [(.ref a56)]) rfl rfl (lenOf pd8 rfl) rfl (Nat.le_of_eq rfl) (k' := 3) rfl (n' := 8) rfl (by decide) (by decide) rfl ?_
          intro r61 h62 Q62 O62
          obtain ⟨rfl, Kh62, Sh62⟩ := Q62
          refine Ww.astore (pc' := 114) C at_112 rfl (Ls' := #[.val (.int p0), .val (.int p1), .val (.int p2), .val (.int s), .val (.int v12), .val (.ref a56), .val (.ref a46), .unset, .unset, .unset]) rfl rfl ?_
          refine Ww.Run.grow (k' := 6) (n' := 16) (by decide) (by decide) (Ww.Run.less (S' := []) (fun _ h => nomatch h) ?_)
          exact J114 (.ref a56) (.val (.ref a46)) h62 (Or.inr ⟨_, rfl⟩) rfl O62
        · -- pc 58: not taken
          refine Ww.iloadN (pc' := 62) C at_61 rfl rfl ?_
          refine Ww.sipush (pc' := 65) C at_62 (v := (255 : Int32)) rfl rfl ?_
          obtain ⟨v63, hv63⟩ : ∃ z : Int32, p2 &&& (255 : Int32) = z := ⟨_, rfl⟩
          refine Ww.iand (pc' := 66) C at_65 hv63 rfl ?_
          obtain ⟨v64, hv64⟩ : ∃ z : Int32, v63.toUInt32.toUInt16.toUInt32.toInt32 = z := ⟨_, rfl⟩
          refine Ww.i2c (pc' := 67) C at_66 hv64 rfl ?_
          refine Ww.callS (pc' := 70) C at_67 (fun vm0 C => (Wk.Con.pays C (Wn := 0) (own_valueOf l hw O0 hs v64 (Wk.rng255 hv63 hv64)) (w88 hw) (w2 hw) (by decide) (by decide))) Wk.cleanC (fun v h' q => by obtain ⟨_, -, -, e, -⟩ := q; exact Or.inr (Or.inl e)) (w86 hw) (w87 hw) (w2 hw) (w88 hw) (by decide) (argsL := [(.int v64)]) (st := []) rfl rfl (lenOf pd9 rfl) rfl (Nat.le_of_eq rfl) (k' := 2) rfl (n' := 5) rfl (by decide) (by decide) rfl ?_
          intro r65 h66 Q66 O66
          obtain ⟨a67, rfl, ga67, Eh66, Sh66⟩ := Q66
          refine Ww.astore (pc' := 72) C at_70 rfl (Ls' := #[.val (.int p0), .val (.int p1), .val (.int p2), .val (.int s), .val (.int v12), .val (.ref a67), .unset, .unset, .unset, .unset]) rfl rfl ?_
          refine Ww.goto C at_72 (by decide) (pc' := 114) (by decide) ?_
          refine Ww.Run.grow (k' := 6) (n' := 16) (by decide) (by decide) (Ww.Run.less (S' := []) (fun _ h => nomatch h) ?_)
          exact J114 (.ref a67) (.unset) h66 (Or.inl rfl) rfl O66
      · -- pc 37: not taken
        refine Ww.newO (pc' := 43) C at_40 (w0 hw) (w1 hw) (w2 hw) (k' := 1) rfl (n' := 4) rfl (by decide) (by decide) rfl ?_
        intro a68 h69 ga68 za68 E69 Aa68 Da68 Ua68 O69
        have F70 : Fld Z h69 a68 "java/lang/String" "value" "[B" .null := Da68 (Or.inr (w16 hw)) (ty := (.array .byte)) (by decide)
        have F71 : Fld Z h69 a68 "java/lang/String" "coder" "B" (.int (0 : Int32)) := Da68 (Or.inr (w17 hw)) (ty := .byte) (by decide)
        refine Ww.dup (pc' := 44) C at_43 rfl rfl ?_
        refine Ww.iconst (pc' := 45) C at_44 (v := (0 : Int32)) rfl rfl ?_
        refine Ww.newA (pc' := 47) C at_45 (ty := .char) rfl (w3 hw) (by decide) (cap := 0) (by decide) (by decide) (k' := 2) rfl (n' := 4) rfl (by decide) (by decide) rfl rfl ?_
        intro a72 h73 ga72 za72 E73 Va72 O73
        have V74 : Wk.Ary Z h73 a72 .char [] := Va72
        refine Ww.callIS (pc' := 50) C at_47 (a := a68) (Ww.Con.pays C hE (Wn := 1) (own_newE l hw hE O73 a68 a72 za68 (Aa68.ext E73) (F70.ext E73) (F71.ext E73) V74) (w6 hw) (w2 hw) (by decide) (by decide)) Wk.cleanC rfl (w4 hw) (w5 hw) (w6 hw) (by decide) (argsL := [(.ref a72)]) (st := [(.ref a68)]) rfl rfl (lenOf pd8 rfl) rfl (Nat.le_of_eq rfl) (k' := 6) rfl (n' := 12) rfl (by decide) (by decide) rfl ?_
        intro r75 h76 Q76 O76
        obtain ⟨rfl, Kh76, Sh76⟩ := Q76
        refine Ww.astore (pc' := 52) C at_50 rfl (Ls' := #[.val (.int p0), .val (.int p1), .val (.int p2), .val (.int s), .val (.int v12), .val (.ref a68), .unset, .unset, .unset, .unset]) rfl rfl ?_
        refine Ww.goto C at_52 (by decide) (pc' := 114) (by decide) ?_
        refine Ww.Run.grow (k' := 6) (n' := 16) (by decide) (by decide) (Ww.Run.less (S' := []) (fun _ h => nomatch h) ?_)
        exact J114 (.ref a68) (.unset) h76 (Or.inl rfl) rfl O76
    · -- pc 25: not taken
      refine Ww.aconstNull (pc' := 29) C at_28 rfl ?_
      refine Ww.astore (pc' := 31) C at_29 rfl (Ls' := #[.val (.int p0), .val (.int p1), .val (.int p2), .val (.int s), .val (.int v12), .val .null, .unset, .unset, .unset, .unset]) rfl rfl ?_
      refine Ww.goto C at_31 (by decide) (pc' := 114) (by decide) ?_
      refine Ww.Run.grow (k' := 6) (n' := 16) (by decide) (by decide) (Ww.Run.less (S' := []) (fun _ h => nomatch h) ?_)
      exact J114 .null (.unset) Z.heap (Or.inl rfl) rfl O0
  refine Ww.iloadN (pc' := 1) C at_0 rfl rfl ?_
  refine Ww.iconst (pc' := 2) C at_1 (v := (1 : Int32)) rfl rfl ?_
  obtain ⟨v77, hv77⟩ : ∃ z : Int32, p1 &&& (1 : Int32) = z := ⟨_, rfl⟩
  refine Ww.iand (pc' := 3) C at_2 hv77 rfl ?_
  refine Ww.if_eq C at_3 (by decide) (pcT := 10) (by decide) (pc' := 6) rfl (fun q78 => ?_) (fun q78 => ?_)
  · -- pc 3: taken
    refine Ww.iloadN (pc' := 11) C at_10 rfl rfl ?_
    refine Ww.sipush (pc' := 14) C at_11 (v := (700 : Int32)) rfl rfl ?_
    obtain ⟨v79, hv79⟩ : ∃ z : Int32, p0 % (700 : Int32) = z := ⟨_, rfl⟩
    refine Ww.irem (pc' := 15) C at_14 (by decide) hv79 rfl ?_
    exact J15 v79
  · -- pc 3: not taken
    refine Ww.iloadN (pc' := 7) C at_6 rfl rfl ?_
    refine Ww.goto C at_7 (by decide) (pc' := 15) (by decide) ?_
    exact J15 p0
set_option maxRecDepth 65536 in
set_option maxHeartbeats 40000000 in
theorem comes_1 {Post : Tables → Env → Array Value → State → Outcome → State → Prop} (hpost : ∀ tb e args s v u, (limb_1_1.after args s (.returned v) u = true ∧ limb_1_2.after args s (.returned v) u = true ∧ True) → ReturnedEndW s (.returned v) u (Jvm.fieldLocs frame_1_writes args s ++ Jvm.arrayLocs frame_1_arrays args s ++ Jvm.staticLocs frame_1_statics s) 24 7680 → Post tb e args s (.returned v) u) :
    ArmFor flags0 classFile x code maxLocals ret World_1 tables_1 room_1 Calls_1 rest_1 Pre_1 Post := by
  intro l hfl _ _ p e ha hc hk s m args below hf hA hF happ hP
  obtain ⟨hcalls, hrest, hpre⟩ := hP
  obtain ⟨-, -, -, hnamed, -, -, -, hat⟩ := (Spec.applies_iff hf).mp happ
  obtain ⟨hg, hn⟩ := and_e (Cond.before_iff.mp (show (Jvm.Cond.and given_1 narrow_1).before args s = true from hpre))
  obtain ⟨gc0, gr0⟩ := and_e hg
  obtain ⟨gc1, gr1⟩ := and_e gr0
  obtain ⟨gc2, gr2⟩ := and_e gr1
  obtain ⟨w0, w1, w2, rfl⟩ : ∃ w0 w1 w2 : Value, args = #[w0, w1, w2] := by
    have hs : args.size = 3 := by simpa [Cond.value, given_1] using gc0
    obtain ⟨L⟩ := args
    match L, hs with
    | [w0, w1, w2], _ => exact ⟨w0, w1, w2, rfl⟩
  have hw : Ws _ s := fun d (hd : d ∈ tables_1) => atoms_spec (ws := Jvm.Cond.code x code maxLocals ret :: tables_1) hat d (List.mem_cons_of_mem _ hd)
  have hfit : Fit s := fun {y c} hc i hi => by
    obtain ⟨ha, rfl⟩ := Array.getElem?_eq_some_iff.mp hc
    have q := List.all_eq_true.mp ((Array.all_eq_true_iff_forall_mem.mp hF) _ (Array.getElem_mem ha)) i (List.mem_range.mpr hi)
    simpa [Array.getElem?_eq_getElem hi] using q
  obtain ⟨i0, ei0⟩ := is_v gc1
  obtain rfl : w0 = (.int i0) := Option.some.inj ei0
  obtain ⟨i1, ei1⟩ := is_v gc2
  obtain rfl : w1 = (.int i1) := Option.some.inj ei1
  obtain ⟨i2, ei2⟩ := is_v gr2
  obtain rfl : w2 = (.int i2) := Option.some.inj ei2
  obtain ⟨hsets, hown0⟩ := atoms_of _ (rest_1_c_eq ▸ (show rest_1_c.before _ s = true from hrest))
  have hS : Sets s := by
    have n5 := not_v (Cond.before_iff.mp (hsets _ (List.mem_of_getElem? (i := 22) rfl)))
    obtain ⟨zc, ez⟩ := is_v (Cond.before_iff.mp (hsets _ (List.mem_of_getElem? (i := 21) rfl)))
    obtain ⟨fm, ef, rf⟩ := isR_v (Cond.before_iff.mp (hsets _ (List.mem_of_getElem? (i := 28) rfl)))
    exact ⟨zc, fm, Sta.start ez (Or.inl (hsets _ (List.mem_of_getElem? (i := 20) rfl))), gotF (Cond.eq_ints ez (Term.int_eval (0))) n5, Sta.start ef (Or.inl (hsets _ (List.mem_of_getElem? (i := 27) rfl))), rf⟩
  have hl : l.stackTraces = true := by unfold Launch.stackTraces; rw [hfl]; decide
  obtain ⟨uS, euS⟩ := arr_v (Cond.before_iff.mp (hsets _ (List.mem_of_getElem? (i := 8) rfl)))
  obtain ⟨sS, esS⟩ := exa_v (Cond.before_iff.mp (hsets _ (List.mem_of_getElem? (i := 13) rfl)))
  have SU := Sta.start euS (Or.inr ⟨(w38 hw), (w69 hw)⟩)
  have SS := Sta.start esS (Or.inr ⟨(w38 hw), (w70 hw)⟩)
  have hE := own_EW hw
  have hCH : CHv s EL s.vm s.heap := CHv.start hE hcalls.2.2.1 (hsets _ (List.mem_of_getElem? (i := 22) rfl)) (w15 hw) (w1 hw)
  obtain ⟨n, o, h1, h2, h3, _, L, rfl, ⟨rfl, -, N⟩, -, hq⟩ := own_law l hw hE hl uS sS SU SS i0 i1 i2 hS tables_1 p e ha hc hk s m _ below hf ((Spec.applies_iff_loose hf).mp happ).1 ⟨rfl, State.Warmed39.refl s, rfl, hCH⟩ ⟨Wk.tkOf hcalls.2.1, Wk.fkOf hcalls.1 hf⟩
  refine ⟨n, _, h1, h2, h3, hpost _ _ _ _ _ _ ⟨Cond.after_iff.mpr rfl, Cond.after_iff.mpr (eq_i res_at (Term.int_eval (1)) rfl), trivial⟩ ⟨hq.1, hq.2.1, hq.2.2.1, (hq.2.2.2.sift fun y hy => Or.inr (N y hy)).mono (by decide) (by decide)⟩⟩
theorem main_1_1 : Claimed_1_1 := comes_1 fun _ _ _ _ _ _ h hF => ⟨h.1, hF⟩
theorem main_1_2 : Claimed_1_2 := comes_1 fun _ _ _ _ _ _ h hF => ⟨h.2.1, hF⟩
end Jvm.Pilot.@@N@@
namespace Jvm.Pilot.@@N@@
open Jvm Jvm.ClassFile Sem Op Lib Jvm.Free Jvm.Stand Jvm.Pilot.@@N@@.Jvm.D
/-! MADE BY PROGRAM (witnessworld.py) out of the Statement's table words and the real class files: 35 classes; the members and pool entries that the words name. The judged class is class 1, her method 1. -/
namespace start1
open Jvm.ClassFile
def u (s : String) : CpInfo := .utf8 (stringToUtf16 s)
/-- a pool by its gaps: so many unusable entries, then the entry; so many at the end -/
def gap : Nat → List CpInfo → List CpInfo
  | 0, r => r
  | n + 1, r => .unusable :: gap n r
def poolList (es : List (Nat × CpInfo)) (last : Nat) : List CpInfo := es.foldr (fun e r => gap e.1 (e.2 :: r)) (gap last [])
def pool (es : List (Nat × CpInfo)) (last : Nat) : Array CpInfo := ⟨poolList es last⟩
def fileOf (pool : Array CpInfo) (this : Nat) (attrs : Array Attribute := #[]) (ms : Array MethodInfo := #[]) (fl : Nat := 33) (sup : Nat := 0) (ifs : Array Nat := #[]) (fds : Array FieldInfo := #[]) : ClassFile where
  minorVersion := 0
  majorVersion := 65
  constantPool := pool
  accessFlags := fl
  thisClass := this
  superClass := sup
  interfaces := ifs
  fields := fds
  methods := ms
  attributes := attrs
def plain (name : String) (sup : Option ClassId) : Class where
  name := name
  kind := .ordinary
  loader := none
  accessFlags := 33
  super := sup
  interfaces := #[]
  cf := none
  fields := #[]
  methods := #[]
  instanceTypes := #[]
  staticTypes := #[]
  resolved := #[]
  callSites := []
  init := .initialized
  statics := none
  mirror := none

def pool0 : Array CpInfo := pool [(5, u "<init>"), (0, u "()V"), (1, .class_ 10), (1, u "java/lang/Object")] 113

def k0c0 : Code := { maxStack := 0, maxLocals := 1, code := object_method_1_code, exceptionTable := #[], attributes := #[] }
def k0m0 : Method := { name := "<init>", desc := "()V", sig := { parameters := [], returnType := none }, accessFlags := 1, code := some k0c0 }
/-- java/lang/Object -/
def k0 : Class := { plain "java/lang/Object" none with
  accessFlags := 33
  interfaces := #[]
  cf := some (fileOf pool0 8 #[] #[{ accessFlags := 1, nameIndex := 5, descriptorIndex := 6, attributes := #[] }] 33 0 #[] #[])
  fields := #[]
  methods := #[k0m0]
  instanceTypes := #[]
  staticTypes := #[]
  resolved := Array.replicate 124 none
  statics := none }

def pool1 : Array CpInfo := pool [(2, .class_ 4), (1, u "java/lang/Object"), (0, u "<init>"), (0, u "()V"), (0, .class_ 8), (0, u "java/lang/String"), (0, .methodref 7 10), (0, .nameAndType 5 11), (0, u "([C)V"), (0, .methodref 7 13), (0, .nameAndType 14 15), (0, u "valueOf"), (0, u "(C)Ljava/lang/String;"), (0, .class_ 17), (0, u "com/example/consentry/consentry/oauth/TokenRequestException"), (0, .string 19), (0, u "m"), (0, .methodref 16 21), (0, .nameAndType 5 22), (0, u "(Ljava/lang/String;ILjava/lang/String;)V"), (0, .methodref 16 24), (0, .nameAndType 25 26), (0, u "isTemporary"), (0, u "()Z"), (0, .class_ 28), (0, u "com/example/consentry/consentry/oauth/TokenRequestExceptionIsTemporaryPinLaw"), (2, u "law"), (0, u "(III)Z")] 3

def k1m0 : Method := { name := "<init>", desc := "()V", sig := { parameters := [], returnType := none }, accessFlags := 1, code := none }
def k1c1 : Code := { maxStack := 5, maxLocals := 10, code := code, exceptionTable := #[], attributes := #[] }
def k1m1 : Method := { name := "law", desc := "(III)Z", sig := { parameters := [.int, .int, .int], returnType := some .boolean }, accessFlags := 9, code := some k1c1 }
/-- com/example/consentry/consentry/oauth/TokenRequestExceptionIsTemporaryPinLaw -/
def k1 : Class := { plain "com/example/consentry/consentry/oauth/TokenRequestExceptionIsTemporaryPinLaw" (some 0) with
  accessFlags := 49
  interfaces := #[]
  cf := some (fileOf pool1 27 #[] #[{ accessFlags := 1, nameIndex := 5, descriptorIndex := 6, attributes := #[] }, { accessFlags := 9, nameIndex := 31, descriptorIndex := 32, attributes := #[] }] 49 2 #[] #[])
  fields := #[]
  methods := #[k1m0, k1m1]
  instanceTypes := #[]
  staticTypes := #[]
  resolved := Array.replicate 36 none
  statics := none }

def pool2 : Array CpInfo := pool [(1, .class_ 2), (0, u "java/io/Serializable"), (0, .class_ 4), (0, u "java/lang/Object")] 2

/-- java/io/Serializable -/
def k2 : Class := { plain "java/io/Serializable" (some 0) with
  accessFlags := 1537
  interfaces := #[]
  cf := some (fileOf pool2 1 #[] #[] 1537 3 #[] #[])
  fields := #[]
  methods := #[]
  instanceTypes := #[]
  staticTypes := #[]
  resolved := Array.replicate 7 none
  statics := none }

def pool3 : Array CpInfo := pool [(1, .class_ 2), (0, u "java/lang/Comparable"), (0, .class_ 4), (0, u "java/lang/Object")] 7

/-- java/lang/Comparable -/
def k3 : Class := { plain "java/lang/Comparable" (some 0) with
  accessFlags := 1537
  interfaces := #[]
  cf := some (fileOf pool3 1 #[] #[] 1537 3 #[] #[])
  fields := #[]
  methods := #[]
  instanceTypes := #[]
  staticTypes := #[]
  resolved := Array.replicate 12 none
  statics := none }

def pool4 : Array CpInfo := pool [(2, .class_ 4), (1, u "java/lang/CharSequence"), (42, .class_ 48), (0, u "java/lang/CharSequence$1CodePointIterator"), (10, .class_ 60), (0, u "java/lang/CharSequence$1CharIterator"), (5, .class_ 67), (0, u "java/lang/Object")] 63

/-- java/lang/CharSequence -/
def k4 : Class := { plain "java/lang/CharSequence" (some 0) with
  accessFlags := 1537
  interfaces := #[]
  cf := some (fileOf pool4 2 #[.nestMembers #[47, 59]] #[] 1537 66 #[] #[])
  fields := #[]
  methods := #[]
  instanceTypes := #[]
  staticTypes := #[]
  resolved := Array.replicate 131 none
  statics := none }

def pool5 : Array CpInfo := pool [(1, .class_ 2), (0, u "java/lang/constant/Constable"), (0, .class_ 4), (0, u "java/lang/Object")] 6

/-- java/lang/constant/Constable -/
def k5 : Class := { plain "java/lang/constant/Constable" (some 0) with
  accessFlags := 1537
  interfaces := #[]
  cf := some (fileOf pool5 1 #[] #[] 1537 3 #[] #[])
  fields := #[]
  methods := #[]
  instanceTypes := #[]
  staticTypes := #[]
  resolved := Array.replicate 11 none
  statics := none }

def pool6 : Array CpInfo := pool [(1, .class_ 2), (0, u "java/lang/constant/ConstantDesc"), (0, .class_ 4), (0, u "java/lang/Object")] 32

/-- java/lang/constant/ConstantDesc -/
def k6 : Class := { plain "java/lang/constant/ConstantDesc" (some 0) with
  accessFlags := 1537
  interfaces := #[]
  cf := some (fileOf pool6 1 #[] #[] 1537 3 #[] #[])
  fields := #[]
  methods := #[]
  instanceTypes := #[]
  staticTypes := #[]
  resolved := Array.replicate 37 none
  statics := none }

def pool7 : Array CpInfo := pool [(1, .methodref 2 3), (0, .class_ 4), (0, .nameAndType 5 6), (0, u "java/lang/Object"), (0, u "<init>"), (0, u "()V"), (0, .string 8), (0, u ""), (0, .fieldref 10 11), (0, .class_ 12), (0, .nameAndType 13 14), (0, u "java/lang/String"), (0, u "value"), (0, u "[B"), (0, .fieldref 10 16), (0, .nameAndType 17 18), (0, u "coder"), (0, u "B"), (2, u "hash"), (0, u "I"), (2, u "hashIsZero"), (0, u "Z"), (0, .methodref 10 28), (0, .nameAndType 5 29), (0, u "([CIILjava/lang/Void;)V"), (8, .fieldref 10 39), (0, .nameAndType 40 26), (0, u "COMPACT_STRINGS"), (1, .class_ 44), (1, u "java/lang/StringUTF16"), (0, u "compress"), (1, .methodref 42 48), (0, .nameAndType 49 50), (0, u "coderFromArrayLen"), (0, u "([BI)B"), (2, u "toBytes"), (53, .class_ 109), (1, u "java/lang/StringLatin1"), (67, .methodref 42 178), (0, .nameAndType 45 179), (0, u "([CII)[B"), (29, .methodref 10 210), (0, .nameAndType 5 211), (0, u "([BB)V"), (157, u "(C)Z"), (205, .class_ 576), (0, u "java/lang/CharSequence"), (22, u "CASE_INSENSITIVE_ORDER"), (0, u "Ljava/util/Comparator;"), (181, u "valueOf"), (0, u "(C)Ljava/lang/String;"), (226, u "([C)V"), (4, .methodref 107 1016), (0, .nameAndType 1017 369), (0, u "canEncode"), (0, .methodref 107 1019), (0, .nameAndType 53 1020), (0, u "(C)[B"), (80, u "serialPersistentFields"), (0, u "[Ljava/io/ObjectStreamField;"), (0, .class_ 1104), (0, u "java/lang/String$CaseInsensitiveComparator"), (1, .class_ 1107), (0, u "java/io/Serializable"), (0, .class_ 1109), (0, u "java/lang/Comparable"), (0, .class_ 1111), (0, u "java/lang/constant/Constable"), (0, .class_ 1113), (0, u "java/lang/constant/ConstantDesc"), (2, u "serialVersionUID"), (0, u "J"), (3, u "REPL"), (0, u "C"), (2, u "LATIN1"), (1, u "UTF16")] 323

def k7m0 : Method := { name := "<init>", desc := "()V", sig := { parameters := [], returnType := none }, accessFlags := 1, code := none }
def k7c1 : Code := { maxStack := 5, maxLocals := 2, code := jdk_42_method_3_code, exceptionTable := #[], attributes := #[] }
def k7m1 : Method := { name := "<init>", desc := "([C)V", sig := { parameters := [(.array .char)], returnType := none }, accessFlags := 1, code := some k7c1 }
def k7c2 : Code := { maxStack := 4, maxLocals := 1, code := jdk_42_method_139_code, exceptionTable := #[], attributes := #[] }
def k7m2 : Method := { name := "valueOf", desc := "(C)Ljava/lang/String;", sig := { parameters := [.char], returnType := some (.object "java/lang/String") }, accessFlags := 9, code := some k7c2 }
def k7c3 : Code := { maxStack := 4, maxLocals := 6, code := jdk_42_method_149_code, exceptionTable := #[], attributes := #[] }
def k7m3 : Method := { name := "<init>", desc := "([CIILjava/lang/Void;)V", sig := { parameters := [(.array .char), .int, .int, (.object "java/lang/Void")], returnType := none }, accessFlags := 2, code := some k7c3 }
def k7c4 : Code := { maxStack := 2, maxLocals := 3, code := jdk_42_method_151_code, exceptionTable := #[], attributes := #[] }
def k7m4 : Method := { name := "<init>", desc := "([BB)V", sig := { parameters := [(.array .byte), .byte], returnType := none }, accessFlags := 0, code := some k7c4 }
/-- java/lang/String -/
def k7 : Class := { plain "java/lang/String" (some 0) with
  accessFlags := 49
  interfaces := #[2, 3, 4, 5, 6]
  cf := some (fileOf pool7 10 #[.nestMembers #[1103]] #[{ accessFlags := 1, nameIndex := 5, descriptorIndex := 6, attributes := #[] }, { accessFlags := 1, nameIndex := 5, descriptorIndex := 1010, attributes := #[] }, { accessFlags := 9, nameIndex := 782, descriptorIndex := 783, attributes := #[] }, { accessFlags := 2, nameIndex := 5, descriptorIndex := 29, attributes := #[] }, { accessFlags := 0, nameIndex := 5, descriptorIndex := 211, attributes := #[] }] 49 2 #[1106, 1108, 575, 1110, 1112] #[{ accessFlags := 18, nameIndex := 13, descriptorIndex := 14, attributes := #[] }, { accessFlags := 18, nameIndex := 17, descriptorIndex := 18, attributes := #[] }, { accessFlags := 2, nameIndex := 21, descriptorIndex := 22, attributes := #[] }, { accessFlags := 2, nameIndex := 25, descriptorIndex := 26, attributes := #[] }, { accessFlags := 26, nameIndex := 1116, descriptorIndex := 1117, attributes := #[] }, { accessFlags := 24, nameIndex := 40, descriptorIndex := 26, attributes := #[] }, { accessFlags := 26, nameIndex := 1101, descriptorIndex := 1102, attributes := #[] }, { accessFlags := 26, nameIndex := 1121, descriptorIndex := 1122, attributes := #[] }, { accessFlags := 25, nameIndex := 599, descriptorIndex := 600, attributes := #[] }, { accessFlags := 24, nameIndex := 1125, descriptorIndex := 18, attributes := #[] }, { accessFlags := 24, nameIndex := 1127, descriptorIndex := 18, attributes := #[] }])
  fields := #[{ name := "value", type := (.array .byte), accessFlags := 18, slot := 0, constantValue := 0 }, { name := "coder", type := .byte, accessFlags := 18, slot := 1, constantValue := 0 }, { name := "hash", type := .int, accessFlags := 2, slot := 2, constantValue := 0 }, { name := "hashIsZero", type := .boolean, accessFlags := 2, slot := 3, constantValue := 0 }, { name := "serialVersionUID", type := .long, accessFlags := 26, slot := 0, constantValue := 0 }, { name := "COMPACT_STRINGS", type := .boolean, accessFlags := 24, slot := 1, constantValue := 0 }, { name := "serialPersistentFields", type := (.array (.object "java/io/ObjectStreamField")), accessFlags := 26, slot := 2, constantValue := 0 }, { name := "REPL", type := .char, accessFlags := 26, slot := 3, constantValue := 0 }, { name := "CASE_INSENSITIVE_ORDER", type := (.object "java/util/Comparator"), accessFlags := 25, slot := 4, constantValue := 0 }, { name := "LATIN1", type := .byte, accessFlags := 24, slot := 5, constantValue := 0 }, { name := "UTF16", type := .byte, accessFlags := 24, slot := 6, constantValue := 0 }]
  methods := #[k7m0, k7m1, k7m2, k7m3, k7m4]
  instanceTypes := #[(.array .byte), .byte, .int, .boolean]
  staticTypes := #[.long, .boolean, (.array (.object "java/io/ObjectStreamField")), .char, (.object "java/util/Comparator"), .byte, .byte]
  resolved := Array.replicate 1451 none
  statics := some 0 }

def pool8 : Array CpInfo := pool [(1, .methodref 2 3), (0, .class_ 4), (0, .nameAndType 5 6), (0, u "java/lang/Object"), (0, u "<init>"), (0, u "()V"), (0, .fieldref 8 9), (0, .class_ 10), (0, .nameAndType 11 12), (0, u "java/lang/Throwable"), (0, u "cause"), (0, u "Ljava/lang/Throwable;"), (0, .fieldref 8 14), (0, .nameAndType 15 16), (0, u "UNASSIGNED_STACK"), (0, u "[Ljava/lang/StackTraceElement;"), (0, .fieldref 8 18), (0, .nameAndType 19 16), (0, u "stackTrace"), (0, .fieldref 8 21), (0, .nameAndType 22 23), (0, u "SUPPRESSED_SENTINEL"), (0, u "Ljava/util/List;"), (0, .fieldref 8 25), (0, .nameAndType 26 23), (0, u "suppressedExceptions"), (0, .methodref 8 28), (0, .nameAndType 29 30), (0, u "fillInStackTrace"), (0, u "()Ljava/lang/Throwable;"), (0, .fieldref 8 32), (0, .nameAndType 33 34), (0, u "detailMessage"), (0, u "Ljava/lang/String;"), (58, .class_ 94), (0, u "java/lang/Throwable$WrappedPrintStream"), (6, .class_ 103), (1, u "java/lang/Throwable$PrintStreamOrWriter"), (61, u "$assertionsDisabled"), (0, u "Z"), (26, .class_ 194), (0, u "java/lang/Throwable$WrappedPrintWriter"), (3, .fieldref 8 199), (0, .nameAndType 200 201), (0, u "backtrace"), (0, u "Ljava/lang/Object;"), (0, .methodref 8 203), (0, .nameAndType 29 204), (0, u "(I)Ljava/lang/Throwable;"), (6, u "depth"), (0, u "I"), (10, u "(Ljava/lang/String;)V"), (45, .class_ 271), (1, u "java/lang/Throwable$SentinelHolder"), (32, u "EMPTY_THROWABLE_ARRAY"), (0, u "[Ljava/lang/Throwable;"), (12, .class_ 319), (0, u "java/io/Serializable"), (0, u "serialVersionUID"), (0, u "J"), (5, u "NULL_CAUSE_MESSAGE"), (0, u "SELF_SUPPRESSION_MESSAGE"), (0, u "CAUSE_CAPTION"), (0, u "SUPPRESSED_CAPTION")] 73

def k8c0 : Code := { maxStack := 2, maxLocals := 1, code := jdk_78_method_1_code, exceptionTable := #[], attributes := #[] }
def k8m0 : Method := { name := "<init>", desc := "()V", sig := { parameters := [], returnType := none }, accessFlags := 1, code := some k8c0 }
def k8c1 : Code := { maxStack := 2, maxLocals := 2, code := jdk_78_method_2_code, exceptionTable := #[], attributes := #[] }
def k8m1 : Method := { name := "<init>", desc := "(Ljava/lang/String;)V", sig := { parameters := [(.object "java/lang/String")], returnType := none }, accessFlags := 1, code := some k8c1 }
def k8c2 : Code := { maxStack := 2, maxLocals := 1, code := ⟨#[0x2a, 0xb4, 0x00, 0x11, 0xc7, 0x00, 0x0a, 0x2a, 0xb4, 0x00, 0xc6, 0xc6, 0x00, 0x10, 0x2a, 0x03, 0xb6, 0x00, 0xca, 0x57, 0x2a, 0xb2, 0x00, 0x0d, 0xb5, 0x00, 0x11, 0x2a, 0xb0]⟩, exceptionTable := #[], attributes := #[] }
def k8m2 : Method := { name := "fillInStackTrace", desc := "()Ljava/lang/Throwable;", sig := { parameters := [], returnType := some (.object "java/lang/Throwable") }, accessFlags := 33, code := some k8c2 }
def k8m3 : Method := { name := "fillInStackTrace", desc := "(I)Ljava/lang/Throwable;", sig := { parameters := [.int], returnType := some (.object "java/lang/Throwable") }, accessFlags := 258, code := none }
/-- java/lang/Throwable -/
def k8 : Class := { plain "java/lang/Throwable" (some 0) with
  accessFlags := 33
  interfaces := #[2]
  cf := some (fileOf pool8 8 #[.nestMembers #[193, 93, 101, 269]] #[{ accessFlags := 1, nameIndex := 5, descriptorIndex := 6, attributes := #[] }, { accessFlags := 1, nameIndex := 5, descriptorIndex := 223, attributes := #[] }, { accessFlags := 33, nameIndex := 29, descriptorIndex := 30, attributes := #[] }, { accessFlags := 258, nameIndex := 29, descriptorIndex := 204, attributes := #[] }] 33 2 #[318] #[{ accessFlags := 26, nameIndex := 320, descriptorIndex := 321, attributes := #[] }, { accessFlags := 130, nameIndex := 200, descriptorIndex := 201, attributes := #[] }, { accessFlags := 2, nameIndex := 33, descriptorIndex := 34, attributes := #[] }, { accessFlags := 26, nameIndex := 15, descriptorIndex := 16, attributes := #[] }, { accessFlags := 2, nameIndex := 11, descriptorIndex := 12, attributes := #[] }, { accessFlags := 2, nameIndex := 19, descriptorIndex := 16, attributes := #[] }, { accessFlags := 130, nameIndex := 211, descriptorIndex := 212, attributes := #[] }, { accessFlags := 26, nameIndex := 22, descriptorIndex := 23, attributes := #[] }, { accessFlags := 2, nameIndex := 26, descriptorIndex := 23, attributes := #[] }, { accessFlags := 26, nameIndex := 327, descriptorIndex := 34, attributes := #[] }, { accessFlags := 26, nameIndex := 328, descriptorIndex := 34, attributes := #[] }, { accessFlags := 26, nameIndex := 329, descriptorIndex := 34, attributes := #[] }, { accessFlags := 26, nameIndex := 330, descriptorIndex := 34, attributes := #[] }, { accessFlags := 26, nameIndex := 304, descriptorIndex := 305, attributes := #[] }, { accessFlags := 4120, nameIndex := 165, descriptorIndex := 166, attributes := #[] }])
  fields := #[{ name := "serialVersionUID", type := .long, accessFlags := 26, slot := 0, constantValue := 0 }, { name := "backtrace", type := (.object "java/lang/Object"), accessFlags := 130, slot := 0, constantValue := 0 }, { name := "detailMessage", type := (.object "java/lang/String"), accessFlags := 2, slot := 1, constantValue := 0 }, { name := "UNASSIGNED_STACK", type := (.array (.object "java/lang/StackTraceElement")), accessFlags := 26, slot := 1, constantValue := 0 }, { name := "cause", type := (.object "java/lang/Throwable"), accessFlags := 2, slot := 2, constantValue := 0 }, { name := "stackTrace", type := (.array (.object "java/lang/StackTraceElement")), accessFlags := 2, slot := 3, constantValue := 0 }, { name := "depth", type := .int, accessFlags := 130, slot := 4, constantValue := 0 }, { name := "SUPPRESSED_SENTINEL", type := (.object "java/util/List"), accessFlags := 26, slot := 2, constantValue := 0 }, { name := "suppressedExceptions", type := (.object "java/util/List"), accessFlags := 2, slot := 5, constantValue := 0 }, { name := "NULL_CAUSE_MESSAGE", type := (.object "java/lang/String"), accessFlags := 26, slot := 3, constantValue := 0 }, { name := "SELF_SUPPRESSION_MESSAGE", type := (.object "java/lang/String"), accessFlags := 26, slot := 4, constantValue := 0 }, { name := "CAUSE_CAPTION", type := (.object "java/lang/String"), accessFlags := 26, slot := 5, constantValue := 0 }, { name := "SUPPRESSED_CAPTION", type := (.object "java/lang/String"), accessFlags := 26, slot := 6, constantValue := 0 }, { name := "EMPTY_THROWABLE_ARRAY", type := (.array (.object "java/lang/Throwable")), accessFlags := 26, slot := 7, constantValue := 0 }, { name := "$assertionsDisabled", type := .boolean, accessFlags := 4120, slot := 8, constantValue := 0 }]
  methods := #[k8m0, k8m1, k8m2, k8m3]
  instanceTypes := #[(.object "java/lang/Object"), (.object "java/lang/String"), (.object "java/lang/Throwable"), (.array (.object "java/lang/StackTraceElement")), .int, (.object "java/util/List")]
  staticTypes := #[.long, (.array (.object "java/lang/StackTraceElement")), (.object "java/util/List"), (.object "java/lang/String"), (.object "java/lang/String"), (.object "java/lang/String"), (.object "java/lang/String"), (.array (.object "java/lang/Throwable")), .boolean]
  resolved := Array.replicate 404 none
  statics := some 1 }

def pool9 : Array CpInfo := pool [(2, .class_ 4), (1, u "java/lang/Throwable"), (0, u "<init>"), (0, u "()V"), (0, .methodref 2 8), (0, .nameAndType 5 9), (0, u "(Ljava/lang/String;)V"), (9, .class_ 20), (0, u "java/lang/Exception"), (0, u "serialVersionUID"), (0, u "J")] 17

def k9m0 : Method := { name := "<init>", desc := "()V", sig := { parameters := [], returnType := none }, accessFlags := 1, code := none }
def k9c1 : Code := { maxStack := 2, maxLocals := 2, code := jdk_59_method_2_code, exceptionTable := #[], attributes := #[] }
def k9m1 : Method := { name := "<init>", desc := "(Ljava/lang/String;)V", sig := { parameters := [(.object "java/lang/String")], returnType := none }, accessFlags := 1, code := some k9c1 }
/-- java/lang/Exception -/
def k9 : Class := { plain "java/lang/Exception" (some 8) with
  accessFlags := 33
  interfaces := #[]
  cf := some (fileOf pool9 19 #[] #[{ accessFlags := 1, nameIndex := 5, descriptorIndex := 6, attributes := #[] }, { accessFlags := 1, nameIndex := 5, descriptorIndex := 9, attributes := #[] }] 33 2 #[] #[{ accessFlags := 24, nameIndex := 21, descriptorIndex := 22, attributes := #[] }])
  fields := #[{ name := "serialVersionUID", type := .long, accessFlags := 24, slot := 0, constantValue := 0 }]
  methods := #[k9m0, k9m1]
  instanceTypes := #[(.object "java/lang/Object"), (.object "java/lang/String"), (.object "java/lang/Throwable"), (.array (.object "java/lang/StackTraceElement")), .int, (.object "java/util/List")]
  staticTypes := #[.long]
  resolved := Array.replicate 40 none
  statics := none }

def pool10 : Array CpInfo := pool [(1, .methodref 2 3), (0, .class_ 4), (0, .nameAndType 5 6), (0, u "java/lang/Exception"), (0, u "<init>"), (0, u "(Ljava/lang/String;)V"), (0, .fieldref 8 9), (0, .class_ 10), (0, .nameAndType 11 12), (0, u "com/example/consentry/consentry/oauth/TokenRequestException"), (0, u "status"), (0, u "I"), (0, .fieldref 8 14), (0, .nameAndType 15 16), (0, u "error"), (0, u "Ljava/lang/String;"), (11, u "serialVersionUID"), (0, u "J"), (3, u "(Ljava/lang/String;ILjava/lang/String;)V"), (4, u "isTemporary"), (0, u "()Z")] 4

def k10c0 : Code := { maxStack := 2, maxLocals := 4, code := prog_57_method_1_code, exceptionTable := #[], attributes := #[] }
def k10m0 : Method := { name := "<init>", desc := "(Ljava/lang/String;ILjava/lang/String;)V", sig := { parameters := [(.object "java/lang/String"), .int, (.object "java/lang/String")], returnType := none }, accessFlags := 0, code := some k10c0 }
def k10c1 : Code := { maxStack := 2, maxLocals := 1, code := prog_57_method_5_code, exceptionTable := #[], attributes := #[] }
def k10m1 : Method := { name := "isTemporary", desc := "()Z", sig := { parameters := [], returnType := some .boolean }, accessFlags := 1, code := some k10c1 }
/-- com/example/consentry/consentry/oauth/TokenRequestException -/
def k10 : Class := { plain "com/example/consentry/consentry/oauth/TokenRequestException" (some 9) with
  accessFlags := 49
  interfaces := #[]
  cf := some (fileOf pool10 8 #[] #[{ accessFlags := 0, nameIndex := 5, descriptorIndex := 33, attributes := #[] }, { accessFlags := 1, nameIndex := 38, descriptorIndex := 39, attributes := #[] }] 49 2 #[] #[{ accessFlags := 26, nameIndex := 28, descriptorIndex := 29, attributes := #[] }, { accessFlags := 18, nameIndex := 11, descriptorIndex := 12, attributes := #[] }, { accessFlags := 18, nameIndex := 15, descriptorIndex := 16, attributes := #[] }])
  fields := #[{ name := "serialVersionUID", type := .long, accessFlags := 26, slot := 0, constantValue := 0 }, { name := "status", type := .int, accessFlags := 18, slot := 6, constantValue := 0 }, { name := "error", type := (.object "java/lang/String"), accessFlags := 18, slot := 7, constantValue := 0 }]
  methods := #[k10m0, k10m1]
  instanceTypes := #[(.object "java/lang/Object"), (.object "java/lang/String"), (.object "java/lang/Throwable"), (.array (.object "java/lang/StackTraceElement")), .int, (.object "java/util/List"), .int, (.object "java/lang/String")]
  staticTypes := #[.long]
  resolved := Array.replicate 44 none
  statics := none }

def pool11 : Array CpInfo := pool [(4, .class_ 6), (1, u "java/lang/Object"), (0, u "<init>"), (0, u "()V"), (5, .class_ 16), (1, u "java/lang/StringLatin1"), (73, u "canEncode"), (14, u "(C)Z"), (15, u "$assertionsDisabled"), (0, u "Z"), (98, .class_ 223), (1, u "java/lang/StringLatin1$LinesSpliterator"), (156, u "toBytes"), (1, u "(C)[B"), (7, .class_ 391), (0, u "java/lang/StringLatin1$CharsSpliterator")] 3

def k11m0 : Method := { name := "<init>", desc := "()V", sig := { parameters := [], returnType := none }, accessFlags := 0, code := none }
def k11c1 : Code := { maxStack := 2, maxLocals := 1, code := jdk_43_method_3_code, exceptionTable := #[], attributes := #[] }
def k11m1 : Method := { name := "canEncode", desc := "(C)Z", sig := { parameters := [.char], returnType := some .boolean }, accessFlags := 9, code := some k11c1 }
def k11c2 : Code := { maxStack := 4, maxLocals := 1, code := jdk_43_method_46_code, exceptionTable := #[], attributes := #[] }
def k11m2 : Method := { name := "toBytes", desc := "(C)[B", sig := { parameters := [.char], returnType := some (.array .byte) }, accessFlags := 9, code := some k11c2 }
/-- java/lang/StringLatin1 -/
def k11 : Class := { plain "java/lang/StringLatin1" (some 0) with
  accessFlags := 48
  interfaces := #[]
  cf := some (fileOf pool11 14 #[.nestMembers #[390, 221]] #[{ accessFlags := 0, nameIndex := 7, descriptorIndex := 8, attributes := #[] }, { accessFlags := 9, nameIndex := 90, descriptorIndex := 105, attributes := #[] }, { accessFlags := 9, nameIndex := 380, descriptorIndex := 382, attributes := #[] }] 48 4 #[] #[{ accessFlags := 4120, nameIndex := 121, descriptorIndex := 122, attributes := #[] }])
  fields := #[{ name := "$assertionsDisabled", type := .boolean, accessFlags := 4120, slot := 0, constantValue := 0 }]
  methods := #[k11m0, k11m1, k11m2]
  instanceTypes := #[]
  staticTypes := #[.boolean]
  resolved := Array.replicate 395 none
  statics := none }

def pool12 : Array CpInfo := pool [(6, .class_ 8), (1, u "java/lang/Object"), (0, u "<init>"), (0, u "()V"), (1, .class_ 14), (1, u "java/lang/StringUTF16"), (31, u "$assertionsDisabled"), (0, u "Z"), (13, u "HI_BYTE_SHIFT"), (0, u "I"), (2, u "LO_BYTE_SHIFT"), (49, .methodref 12 116), (0, .nameAndType 117 118), (0, u "compress"), (0, u "([CI[BII)I"), (3, u "([CII)[B"), (138, u "coderFromArrayLen"), (0, u "([BI)B"), (106, .class_ 371), (1, u "java/lang/StringUTF16$LinesSpliterator"), (58, u "MAX_LENGTH"), (196, .class_ 628), (0, u "java/lang/StringUTF16$CodePointsSpliterator"), (0, .class_ 630), (0, u "java/lang/StringUTF16$CharsSpliterator")] 4

def k12m0 : Method := { name := "<init>", desc := "()V", sig := { parameters := [], returnType := none }, accessFlags := 0, code := none }
def k12c1 : Code := { maxStack := 2, maxLocals := 2, code := jdk_52_method_15_code, exceptionTable := #[], attributes := #[] }
def k12m1 : Method := { name := "coderFromArrayLen", desc := "([BI)B", sig := { parameters := [(.array .byte), .int], returnType := some .byte }, accessFlags := 8, code := some k12c1 }
def k12c2 : Code := { maxStack := 5, maxLocals := 6, code := jdk_52_method_16_code, exceptionTable := #[], attributes := #[] }
def k12m2 : Method := { name := "compress", desc := "([CII)[B", sig := { parameters := [(.array .char), .int, .int], returnType := some (.array .byte) }, accessFlags := 9, code := some k12c2 }
def k12c3 : Code := { maxStack := 3, maxLocals := 7, code := jdk_52_method_21_code, exceptionTable := #[], attributes := #[] }
def k12m3 : Method := { name := "compress", desc := "([CI[BII)I", sig := { parameters := [(.array .char), .int, (.array .byte), .int, .int], returnType := some .int }, accessFlags := 9, code := some k12c3 }
/-- java/lang/StringUTF16 -/
def k12 : Class := { plain "java/lang/StringUTF16" (some 0) with
  accessFlags := 48
  interfaces := #[]
  cf := some (fileOf pool12 12 #[.nestMembers #[627, 629, 369]] #[{ accessFlags := 0, nameIndex := 9, descriptorIndex := 10, attributes := #[] }, { accessFlags := 8, nameIndex := 261, descriptorIndex := 262, attributes := #[] }, { accessFlags := 9, nameIndex := 117, descriptorIndex := 122, attributes := #[] }, { accessFlags := 9, nameIndex := 117, descriptorIndex := 118, attributes := #[] }] 48 6 #[] #[{ accessFlags := 26, nameIndex := 61, descriptorIndex := 62, attributes := #[] }, { accessFlags := 26, nameIndex := 65, descriptorIndex := 62, attributes := #[] }, { accessFlags := 24, nameIndex := 430, descriptorIndex := 62, attributes := #[] }, { accessFlags := 4120, nameIndex := 46, descriptorIndex := 47, attributes := #[] }])
  fields := #[{ name := "HI_BYTE_SHIFT", type := .int, accessFlags := 26, slot := 0, constantValue := 0 }, { name := "LO_BYTE_SHIFT", type := .int, accessFlags := 26, slot := 1, constantValue := 0 }, { name := "MAX_LENGTH", type := .int, accessFlags := 24, slot := 2, constantValue := 0 }, { name := "$assertionsDisabled", type := .boolean, accessFlags := 4120, slot := 3, constantValue := 0 }]
  methods := #[k12m0, k12m1, k12m2, k12m3]
  instanceTypes := #[]
  staticTypes := #[.int, .int, .int, .boolean]
  resolved := Array.replicate 635 none
  statics := none }

def pool13 : Array CpInfo := pool [(2, .class_ 4), (1, u "java/lang/Object"), (0, u "<init>"), (0, u "()V"), (12, .class_ 20), (0, u "java/util/Collections"), (63, u "r"), (0, u "Ljava/util/Random;"), (80, .class_ 167), (0, u "java/util/Collections$UnmodifiableCollection"), (6, .class_ 175), (0, u "java/util/Collections$UnmodifiableSequencedCollection"), (6, .class_ 183), (0, u "java/util/Collections$UnmodifiableSet"), (6, .class_ 191), (0, u "java/util/Collections$UnmodifiableSequencedSet"), (6, .class_ 199), (0, u "java/util/Collections$UnmodifiableSortedSet"), (6, .class_ 207), (0, u "java/util/Collections$UnmodifiableNavigableSet"), (4, .class_ 213), (0, u "java/util/Collections$UnmodifiableList"), (1, .class_ 216), (0, u "java/util/Collections$UnmodifiableRandomAccessList"), (6, .class_ 224), (0, u "java/util/Collections$UnmodifiableMap"), (6, .class_ 232), (0, u "java/util/Collections$UnmodifiableSequencedMap"), (4, .class_ 238), (0, u "java/util/Collections$UnmodifiableSortedMap"), (6, .class_ 246), (0, u "java/util/Collections$UnmodifiableNavigableMap"), (3, .class_ 251), (0, u "java/util/Collections$SynchronizedCollection"), (4, .class_ 257), (0, u "java/util/Collections$SynchronizedSet"), (4, .class_ 263), (0, u "java/util/Collections$SynchronizedSortedSet"), (1, .class_ 266), (0, u "java/util/Collections$SynchronizedNavigableSet"), (1, .class_ 269), (0, u "java/util/Collections$SynchronizedRandomAccessList"), (1, .class_ 272), (0, u "java/util/Collections$SynchronizedList"), (5, .class_ 279), (0, u "java/util/Collections$SynchronizedMap"), (1, .class_ 282), (0, u "java/util/Collections$SynchronizedSortedMap"), (1, .class_ 285), (0, u "java/util/Collections$SynchronizedNavigableMap"), (1, .class_ 288), (0, u "java/util/Collections$CheckedCollection"), (11, .class_ 301), (0, u "java/util/Collections$CheckedQueue"), (3, .class_ 306), (0, u "java/util/Collections$CheckedSet"), (3, .class_ 311), (0, u "java/util/Collections$CheckedSortedSet"), (3, .class_ 316), (0, u "java/util/Collections$CheckedNavigableSet"), (3, .class_ 321), (0, u "java/util/Collections$CheckedRandomAccessList"), (3, .class_ 326), (0, u "java/util/Collections$CheckedList"), (1, .class_ 329), (0, u "java/util/Collections$CheckedMap"), (3, .class_ 334), (0, u "java/util/Collections$CheckedSortedMap"), (3, .class_ 339), (0, u "java/util/Collections$CheckedNavigableMap"), (4, .class_ 346), (1, u "java/util/Collections$EmptyIterator"), (3, .class_ 352), (1, u "java/util/Collections$EmptyListIterator"), (2, .class_ 357), (1, u "java/util/Collections$EmptyEnumeration"), (4, u "EMPTY_SET"), (0, u "Ljava/util/Set;"), (6, u "EMPTY_LIST"), (0, u "Ljava/util/List;"), (2, u "EMPTY_MAP"), (0, u "Ljava/util/Map;"), (4, .class_ 381), (0, u "java/util/Collections$SingletonSet"), (2, .class_ 385), (0, u "java/util/Collections$1"), (1, .class_ 388), (0, u "java/util/Collections$2"), (1, .class_ 391), (0, u "java/util/Collections$SingletonList"), (1, .class_ 394), (0, u "java/util/Collections$SingletonMap"), (22, .class_ 418), (0, u "java/util/Collections$CopiesList"), (4, .class_ 425), (1, u "java/util/Collections$ReverseComparator"), (8, .class_ 435), (0, u "java/util/Collections$ReverseComparator2"), (6, .class_ 443), (0, u "java/util/Collections$3"), (25, .class_ 470), (0, u "java/util/Collections$SetFromMap"), (2, .class_ 474), (0, u "java/util/Collections$SequencedSetFromMap"), (3, .class_ 479), (0, u "java/util/Collections$AsLIFOQueue"), (11, .class_ 492), (0, u "java/util/Collections$EmptySet"), (1, .class_ 495), (0, u "java/util/Collections$EmptyList"), (1, .class_ 498), (0, u "java/util/Collections$EmptyMap"), (1, u "BINARYSEARCH_THRESHOLD"), (0, u "I"), (2, u "REVERSE_THRESHOLD"), (1, u "SHUFFLE_THRESHOLD"), (1, u "FILL_THRESHOLD"), (1, u "ROTATE_THRESHOLD"), (1, u "COPY_THRESHOLD"), (1, u "REPLACEALL_THRESHOLD"), (1, u "INDEXOFSUBLIST_THRESHOLD"), (333, .class_ 851), (0, u "java/util/Collections$CheckedMap$CheckedEntrySet"), (0, .class_ 853), (0, u "java/util/Collections$CheckedMap$CheckedEntrySet$CheckedEntry"), (0, .class_ 855), (0, u "java/util/Collections$CheckedMap$CheckedEntrySet$1"), (0, .class_ 857), (0, u "java/util/Collections$CheckedList$1"), (0, .class_ 859), (0, u "java/util/Collections$CheckedCollection$1"), (0, .class_ 861), (0, u "java/util/Collections$UnmodifiableNavigableMap$EmptyNavigableMap"), (0, .class_ 863), (0, u "java/util/Collections$UnmodifiableMap$UnmodifiableEntrySet"), (0, .class_ 865), (0, u "java/util/Collections$UnmodifiableMap$UnmodifiableEntrySet$UnmodifiableEntry"), (0, .class_ 867), (0, u "java/util/Collections$UnmodifiableMap$UnmodifiableEntrySet$UnmodifiableEntrySetSpliterator"), (0, .class_ 869), (0, u "java/util/Collections$UnmodifiableMap$UnmodifiableEntrySet$1"), (0, .class_ 871), (0, u "java/util/Collections$UnmodifiableList$1"), (0, .class_ 873), (0, u "java/util/Collections$UnmodifiableNavigableSet$EmptyNavigableSet"), (0, .class_ 875), (0, u "java/util/Collections$UnmodifiableCollection$1")] 57

def k13m0 : Method := { name := "<init>", desc := "()V", sig := { parameters := [], returnType := none }, accessFlags := 2, code := none }
/-- java/util/Collections -/
def k13 : Class := { plain "java/util/Collections" (some 0) with
  accessFlags := 33
  interfaces := #[]
  cf := some (fileOf pool13 19 #[.nestMembers #[478, 473, 469, 434, 423, 417, 393, 390, 380, 497, 494, 491, 355, 350, 344, 338, 333, 328, 850, 852, 854, 320, 325, 856, 315, 310, 305, 300, 287, 858, 284, 281, 278, 268, 271, 265, 262, 256, 250, 245, 860, 237, 231, 223, 862, 864, 866, 868, 215, 212, 870, 206, 872, 198, 190, 182, 174, 166, 874, 442, 387, 384]] #[{ accessFlags := 2, nameIndex := 5, descriptorIndex := 6, attributes := #[] }] 33 2 #[] #[{ accessFlags := 26, nameIndex := 500, descriptorIndex := 501, attributes := #[] }, { accessFlags := 26, nameIndex := 504, descriptorIndex := 501, attributes := #[] }, { accessFlags := 26, nameIndex := 506, descriptorIndex := 501, attributes := #[] }, { accessFlags := 26, nameIndex := 508, descriptorIndex := 501, attributes := #[] }, { accessFlags := 26, nameIndex := 510, descriptorIndex := 501, attributes := #[] }, { accessFlags := 26, nameIndex := 512, descriptorIndex := 501, attributes := #[] }, { accessFlags := 26, nameIndex := 514, descriptorIndex := 501, attributes := #[] }, { accessFlags := 26, nameIndex := 516, descriptorIndex := 501, attributes := #[] }, { accessFlags := 10, nameIndex := 84, descriptorIndex := 85, attributes := #[] }, { accessFlags := 25, nameIndex := 362, descriptorIndex := 363, attributes := #[] }, { accessFlags := 25, nameIndex := 370, descriptorIndex := 371, attributes := #[] }, { accessFlags := 25, nameIndex := 374, descriptorIndex := 375, attributes := #[] }])
  fields := #[{ name := "BINARYSEARCH_THRESHOLD", type := .int, accessFlags := 26, slot := 0, constantValue := 0 }, { name := "REVERSE_THRESHOLD", type := .int, accessFlags := 26, slot := 1, constantValue := 0 }, { name := "SHUFFLE_THRESHOLD", type := .int, accessFlags := 26, slot := 2, constantValue := 0 }, { name := "FILL_THRESHOLD", type := .int, accessFlags := 26, slot := 3, constantValue := 0 }, { name := "ROTATE_THRESHOLD", type := .int, accessFlags := 26, slot := 4, constantValue := 0 }, { name := "COPY_THRESHOLD", type := .int, accessFlags := 26, slot := 5, constantValue := 0 }, { name := "REPLACEALL_THRESHOLD", type := .int, accessFlags := 26, slot := 6, constantValue := 0 }, { name := "INDEXOFSUBLIST_THRESHOLD", type := .int, accessFlags := 26, slot := 7, constantValue := 0 }, { name := "r", type := (.object "java/util/Random"), accessFlags := 10, slot := 8, constantValue := 0 }, { name := "EMPTY_SET", type := (.object "java/util/Set"), accessFlags := 25, slot := 9, constantValue := 0 }, { name := "EMPTY_LIST", type := (.object "java/util/List"), accessFlags := 25, slot := 10, constantValue := 0 }, { name := "EMPTY_MAP", type := (.object "java/util/Map"), accessFlags := 25, slot := 11, constantValue := 0 }]
  methods := #[k13m0]
  instanceTypes := #[]
  staticTypes := #[.int, .int, .int, .int, .int, .int, .int, .int, (.object "java/util/Random"), (.object "java/util/Set"), (.object "java/util/List"), (.object "java/util/Map")]
  resolved := Array.replicate 933 none
  statics := some 2 }

def pool14 : Array CpInfo := pool [(2, .class_ 4), (1, u "java/lang/Object"), (0, u "<init>"), (0, u "()V"), (17, .class_ 26), (1, u "jdk/internal/util/Preconditions"), (28, .class_ 56), (0, u "jdk/internal/util/Preconditions$4"), (57, .class_ 115), (0, u "jdk/internal/util/Preconditions$1"), (7, u "SIOOBE_FORMATTER"), (0, u "Ljava/util/function/BiFunction;"), (0, .class_ 126), (0, u "jdk/internal/util/Preconditions$2"), (3, u "AIOOBE_FORMATTER"), (0, .class_ 132), (0, u "jdk/internal/util/Preconditions$3"), (3, u "IOOBE_FORMATTER")] 57

def k14m0 : Method := { name := "<init>", desc := "()V", sig := { parameters := [], returnType := none }, accessFlags := 1, code := none }
/-- jdk/internal/util/Preconditions -/
def k14 : Class := { plain "jdk/internal/util/Preconditions" (some 0) with
  accessFlags := 33
  interfaces := #[]
  cf := some (fileOf pool14 24 #[.nestMembers #[55, 131, 125, 114]] #[{ accessFlags := 1, nameIndex := 5, descriptorIndex := 6, attributes := #[] }] 33 2 #[] #[{ accessFlags := 25, nameIndex := 123, descriptorIndex := 124, attributes := #[] }, { accessFlags := 25, nameIndex := 130, descriptorIndex := 124, attributes := #[] }, { accessFlags := 25, nameIndex := 136, descriptorIndex := 124, attributes := #[] }])
  fields := #[{ name := "SIOOBE_FORMATTER", type := (.object "java/util/function/BiFunction"), accessFlags := 25, slot := 0, constantValue := 0 }, { name := "AIOOBE_FORMATTER", type := (.object "java/util/function/BiFunction"), accessFlags := 25, slot := 1, constantValue := 0 }, { name := "IOOBE_FORMATTER", type := (.object "java/util/function/BiFunction"), accessFlags := 25, slot := 2, constantValue := 0 }]
  methods := #[k14m0]
  instanceTypes := #[]
  staticTypes := #[(.object "java/util/function/BiFunction"), (.object "java/util/function/BiFunction"), (.object "java/util/function/BiFunction")]
  resolved := Array.replicate 194 none
  statics := some 3 }

def pool15 : Array CpInfo := pool [(9, u "<init>"), (6, .class_ 18), (1, u "java/lang/Object"), (0, u "()V"), (1, .class_ 23), (1, u "jdk/internal/util/ArraysSupport"), (0, u "LOG2_ARRAY_LONG_INDEX_SCALE"), (0, u "I"), (2, u "U"), (0, u "Ljdk/internal/misc/Unsafe;"), (8, u "BIG_ENDIAN"), (0, u "Z"), (8, u "LOG2_BYTE_BIT_SIZE"), (4, u "LOG2_ARRAY_INT_INDEX_SCALE"), (54, u "JLA"), (0, u "Ljdk/internal/access/JavaLangAccess;"), (11, u "LOG2_ARRAY_BOOLEAN_INDEX_SCALE"), (9, u "LOG2_ARRAY_BYTE_INDEX_SCALE"), (5, u "LOG2_ARRAY_CHAR_INDEX_SCALE"), (5, u "LOG2_ARRAY_SHORT_INDEX_SCALE"), (18, u "LOG2_ARRAY_FLOAT_INDEX_SCALE"), (24, u "LOG2_ARRAY_DOUBLE_INDEX_SCALE"), (89, u "T_BOOLEAN"), (2, u "T_CHAR"), (1, u "T_FLOAT"), (1, u "T_DOUBLE"), (1, u "T_BYTE"), (1, u "T_SHORT"), (1, u "T_INT"), (1, u "T_LONG"), (1, u "SOFT_MAX_ARRAY_LENGTH")] 83

def k15m0 : Method := { name := "<init>", desc := "()V", sig := { parameters := [], returnType := none }, accessFlags := 2, code := none }
/-- jdk/internal/util/ArraysSupport -/
def k15 : Class := { plain "jdk/internal/util/ArraysSupport" (some 0) with
  accessFlags := 33
  interfaces := #[]
  cf := some (fileOf pool15 21 #[] #[{ accessFlags := 2, nameIndex := 9, descriptorIndex := 19, attributes := #[] }] 33 16 #[] #[{ accessFlags := 24, nameIndex := 28, descriptorIndex := 29, attributes := #[] }, { accessFlags := 26, nameIndex := 38, descriptorIndex := 39, attributes := #[] }, { accessFlags := 25, nameIndex := 121, descriptorIndex := 25, attributes := #[] }, { accessFlags := 25, nameIndex := 131, descriptorIndex := 25, attributes := #[] }, { accessFlags := 25, nameIndex := 137, descriptorIndex := 25, attributes := #[] }, { accessFlags := 25, nameIndex := 143, descriptorIndex := 25, attributes := #[] }, { accessFlags := 25, nameIndex := 53, descriptorIndex := 25, attributes := #[] }, { accessFlags := 25, nameIndex := 24, descriptorIndex := 25, attributes := #[] }, { accessFlags := 25, nameIndex := 162, descriptorIndex := 25, attributes := #[] }, { accessFlags := 25, nameIndex := 187, descriptorIndex := 25, attributes := #[] }, { accessFlags := 26, nameIndex := 48, descriptorIndex := 25, attributes := #[] }, { accessFlags := 25, nameIndex := 277, descriptorIndex := 25, attributes := #[] }, { accessFlags := 25, nameIndex := 280, descriptorIndex := 25, attributes := #[] }, { accessFlags := 25, nameIndex := 282, descriptorIndex := 25, attributes := #[] }, { accessFlags := 25, nameIndex := 284, descriptorIndex := 25, attributes := #[] }, { accessFlags := 25, nameIndex := 286, descriptorIndex := 25, attributes := #[] }, { accessFlags := 25, nameIndex := 288, descriptorIndex := 25, attributes := #[] }, { accessFlags := 25, nameIndex := 290, descriptorIndex := 25, attributes := #[] }, { accessFlags := 25, nameIndex := 292, descriptorIndex := 25, attributes := #[] }, { accessFlags := 26, nameIndex := 108, descriptorIndex := 109, attributes := #[] }, { accessFlags := 25, nameIndex := 294, descriptorIndex := 25, attributes := #[] }])
  fields := #[{ name := "U", type := (.object "jdk/internal/misc/Unsafe"), accessFlags := 24, slot := 0, constantValue := 0 }, { name := "BIG_ENDIAN", type := .boolean, accessFlags := 26, slot := 1, constantValue := 0 }, { name := "LOG2_ARRAY_BOOLEAN_INDEX_SCALE", type := .int, accessFlags := 25, slot := 2, constantValue := 0 }, { name := "LOG2_ARRAY_BYTE_INDEX_SCALE", type := .int, accessFlags := 25, slot := 3, constantValue := 0 }, { name := "LOG2_ARRAY_CHAR_INDEX_SCALE", type := .int, accessFlags := 25, slot := 4, constantValue := 0 }, { name := "LOG2_ARRAY_SHORT_INDEX_SCALE", type := .int, accessFlags := 25, slot := 5, constantValue := 0 }, { name := "LOG2_ARRAY_INT_INDEX_SCALE", type := .int, accessFlags := 25, slot := 6, constantValue := 0 }, { name := "LOG2_ARRAY_LONG_INDEX_SCALE", type := .int, accessFlags := 25, slot := 7, constantValue := 0 }, { name := "LOG2_ARRAY_FLOAT_INDEX_SCALE", type := .int, accessFlags := 25, slot := 8, constantValue := 0 }, { name := "LOG2_ARRAY_DOUBLE_INDEX_SCALE", type := .int, accessFlags := 25, slot := 9, constantValue := 0 }, { name := "LOG2_BYTE_BIT_SIZE", type := .int, accessFlags := 26, slot := 10, constantValue := 0 }, { name := "T_BOOLEAN", type := .int, accessFlags := 25, slot := 11, constantValue := 0 }, { name := "T_CHAR", type := .int, accessFlags := 25, slot := 12, constantValue := 0 }, { name := "T_FLOAT", type := .int, accessFlags := 25, slot := 13, constantValue := 0 }, { name := "T_DOUBLE", type := .int, accessFlags := 25, slot := 14, constantValue := 0 }, { name := "T_BYTE", type := .int, accessFlags := 25, slot := 15, constantValue := 0 }, { name := "T_SHORT", type := .int, accessFlags := 25, slot := 16, constantValue := 0 }, { name := "T_INT", type := .int, accessFlags := 25, slot := 17, constantValue := 0 }, { name := "T_LONG", type := .int, accessFlags := 25, slot := 18, constantValue := 0 }, { name := "JLA", type := (.object "jdk/internal/access/JavaLangAccess"), accessFlags := 26, slot := 19, constantValue := 0 }, { name := "SOFT_MAX_ARRAY_LENGTH", type := .int, accessFlags := 25, slot := 20, constantValue := 0 }]
  methods := #[k15m0]
  instanceTypes := #[]
  staticTypes := #[(.object "jdk/internal/misc/Unsafe"), .boolean, .int, .int, .int, .int, .int, .int, .int, .int, .int, .int, .int, .int, .int, .int, .int, .int, .int, (.object "jdk/internal/access/JavaLangAccess"), .int]
  resolved := Array.replicate 378 none
  statics := none }

def pool16 : Array CpInfo := pool [(8, .class_ 10), (1, u "java/lang/Iterable"), (24, .class_ 36), (0, u "java/lang/Object")] 25

/-- java/lang/Iterable -/
def k16 : Class := { plain "java/lang/Iterable" (some 0) with
  accessFlags := 1537
  interfaces := #[]
  cf := some (fileOf pool16 8 #[] #[] 1537 35 #[] #[])
  fields := #[]
  methods := #[]
  instanceTypes := #[]
  staticTypes := #[]
  resolved := Array.replicate 62 none
  statics := none }

def pool17 : Array CpInfo := pool [(10, .class_ 12), (1, u "java/util/Collection"), (47, .class_ 61), (0, u "java/lang/Object"), (0, .class_ 63), (0, u "java/lang/Iterable")] 51

/-- java/util/Collection -/
def k17 : Class := { plain "java/util/Collection" (some 0) with
  accessFlags := 1537
  interfaces := #[16]
  cf := some (fileOf pool17 10 #[] #[] 1537 60 #[62] #[])
  fields := #[]
  methods := #[]
  instanceTypes := #[]
  staticTypes := #[]
  resolved := Array.replicate 115 none
  statics := none }

def pool18 : Array CpInfo := pool [(2, .class_ 4), (1, u "java/lang/Object"), (0, u "<init>"), (0, u "()V"), (1, .class_ 10), (1, u "java/util/AbstractCollection"), (66, .class_ 78), (0, u "java/util/Collection")] 81

def k18m0 : Method := { name := "<init>", desc := "()V", sig := { parameters := [], returnType := none }, accessFlags := 4, code := none }
/-- java/util/AbstractCollection -/
def k18 : Class := { plain "java/util/AbstractCollection" (some 0) with
  accessFlags := 1057
  interfaces := #[17]
  cf := some (fileOf pool18 8 #[] #[{ accessFlags := 4, nameIndex := 5, descriptorIndex := 6, attributes := #[] }] 1057 2 #[77] #[])
  fields := #[]
  methods := #[k18m0]
  instanceTypes := #[]
  staticTypes := #[]
  resolved := Array.replicate 160 none
  statics := none }

def pool19 : Array CpInfo := pool [(8, .class_ 10), (1, u "java/util/SequencedCollection"), (15, .class_ 27), (0, u "java/lang/Object"), (0, .class_ 29), (0, u "java/util/Collection")] 27

/-- java/util/SequencedCollection -/
def k19 : Class := { plain "java/util/SequencedCollection" (some 0) with
  accessFlags := 1537
  interfaces := #[17]
  cf := some (fileOf pool19 8 #[] #[] 1537 26 #[28] #[])
  fields := #[]
  methods := #[]
  instanceTypes := #[]
  staticTypes := #[]
  resolved := Array.replicate 57 none
  statics := none }

def pool20 : Array CpInfo := pool [(8, .class_ 10), (1, u "java/util/List"), (92, .class_ 104), (0, u "java/lang/Object"), (15, .class_ 121), (0, u "java/util/SequencedCollection")] 129

/-- java/util/List -/
def k20 : Class := { plain "java/util/List" (some 0) with
  accessFlags := 1537
  interfaces := #[19]
  cf := some (fileOf pool20 8 #[] #[] 1537 103 #[120] #[])
  fields := #[]
  methods := #[]
  instanceTypes := #[]
  staticTypes := #[]
  resolved := Array.replicate 251 none
  statics := none }

def pool21 : Array CpInfo := pool [(2, .class_ 4), (1, u "java/util/AbstractCollection"), (0, u "<init>"), (0, u "()V"), (1, .class_ 10), (1, u "java/util/AbstractList"), (0, u "modCount"), (0, u "I"), (64, .class_ 78), (0, u "java/util/AbstractList$Itr"), (3, .class_ 83), (0, u "java/util/AbstractList$ListItr"), (9, .class_ 94), (0, u "java/util/AbstractList$RandomAccessSubList"), (3, .class_ 99), (0, u "java/util/AbstractList$SubList"), (33, .class_ 134), (0, u "java/util/List"), (73, .class_ 209), (0, u "java/util/AbstractList$SubList$1"), (0, .class_ 211), (0, u "java/util/AbstractList$RandomAccessSpliterator")] 6

def k21m0 : Method := { name := "<init>", desc := "()V", sig := { parameters := [], returnType := none }, accessFlags := 4, code := none }
/-- java/util/AbstractList -/
def k21 : Class := { plain "java/util/AbstractList" (some 18) with
  accessFlags := 1057
  interfaces := #[20]
  cf := some (fileOf pool21 8 #[.nestMembers #[93, 98, 208, 210, 82, 77]] #[{ accessFlags := 4, nameIndex := 5, descriptorIndex := 6, attributes := #[] }] 1057 2 #[133] #[{ accessFlags := 132, nameIndex := 11, descriptorIndex := 12, attributes := #[] }])
  fields := #[{ name := "modCount", type := .int, accessFlags := 132, slot := 0, constantValue := 0 }]
  methods := #[k21m0]
  instanceTypes := #[.int]
  staticTypes := #[]
  resolved := Array.replicate 218 none
  statics := none }

def pool22 : Array CpInfo := pool [(1, .class_ 2), (0, u "java/util/RandomAccess"), (0, .class_ 4), (0, u "java/lang/Object")] 2

/-- java/util/RandomAccess -/
def k22 : Class := { plain "java/util/RandomAccess" (some 0) with
  accessFlags := 1537
  interfaces := #[]
  cf := some (fileOf pool22 1 #[] #[] 1537 3 #[] #[])
  fields := #[]
  methods := #[]
  instanceTypes := #[]
  staticTypes := #[]
  resolved := Array.replicate 7 none
  statics := none }

def pool23 : Array CpInfo := pool [(2, .class_ 4), (1, u "java/util/AbstractList"), (0, u "<init>"), (0, u "()V"), (1, .class_ 10), (1, u "java/util/Collections"), (54, .class_ 66), (0, u "java/util/Collections$EmptyList"), (0, .class_ 68), (0, u "java/util/RandomAccess"), (0, .class_ 70), (0, u "java/io/Serializable"), (0, u "serialVersionUID"), (0, u "J")] 77

def k23m0 : Method := { name := "<init>", desc := "()V", sig := { parameters := [], returnType := none }, accessFlags := 2, code := none }
/-- java/util/Collections$EmptyList -/
def k23 : Class := { plain "java/util/Collections$EmptyList" (some 21) with
  accessFlags := 32
  interfaces := #[22, 2]
  cf := some (fileOf pool23 65 #[.nestHost 8] #[{ accessFlags := 2, nameIndex := 5, descriptorIndex := 6, attributes := #[] }] 32 2 #[67, 69] #[{ accessFlags := 26, nameIndex := 71, descriptorIndex := 72, attributes := #[] }])
  fields := #[{ name := "serialVersionUID", type := .long, accessFlags := 26, slot := 0, constantValue := 0 }]
  methods := #[k23m0]
  instanceTypes := #[.int]
  staticTypes := #[.long]
  resolved := Array.replicate 150 none
  statics := none }

def pool24 : Array CpInfo := pool [(2, .class_ 4), (1, u "java/lang/StackTraceElement"), (0, u "<init>"), (2, .class_ 10), (1, u "java/lang/Object"), (0, u "()V"), (2, u "format"), (0, u "B"), (2, u "classLoaderName"), (0, u "Ljava/lang/String;"), (2, u "moduleName"), (2, u "moduleVersion"), (12, u "declaringClass"), (4, u "methodName"), (2, u "fileName"), (2, u "lineNumber"), (0, u "I"), (65, u "declaringClassObject"), (0, u "Ljava/lang/Class;"), (33, .class_ 153), (1, u "java/lang/StackTraceElement$HashedModules"), (17, .class_ 172), (0, u "java/io/Serializable"), (0, u "NATIVE_METHOD"), (1, u "UNKNOWN_SOURCE"), (2, u "BUILTIN_CLASS_LOADER"), (1, u "JDK_NON_UPGRADEABLE_MODULE"), (1, u "serialVersionUID"), (0, u "J")] 51

def k24m0 : Method := { name := "<init>", desc := "()V", sig := { parameters := [], returnType := none }, accessFlags := 2, code := none }
/-- java/lang/StackTraceElement -/
def k24 : Class := { plain "java/lang/StackTraceElement" (some 0) with
  accessFlags := 49
  interfaces := #[2]
  cf := some (fileOf pool24 2 #[.nestMembers #[151]] #[{ accessFlags := 2, nameIndex := 5, descriptorIndex := 11, attributes := #[] }] 49 8 #[171] #[{ accessFlags := 26, nameIndex := 173, descriptorIndex := 19, attributes := #[] }, { accessFlags := 26, nameIndex := 175, descriptorIndex := 19, attributes := #[] }, { accessFlags := 130, nameIndex := 116, descriptorIndex := 117, attributes := #[] }, { accessFlags := 2, nameIndex := 18, descriptorIndex := 19, attributes := #[] }, { accessFlags := 2, nameIndex := 22, descriptorIndex := 19, attributes := #[] }, { accessFlags := 2, nameIndex := 25, descriptorIndex := 19, attributes := #[] }, { accessFlags := 2, nameIndex := 38, descriptorIndex := 19, attributes := #[] }, { accessFlags := 2, nameIndex := 43, descriptorIndex := 19, attributes := #[] }, { accessFlags := 2, nameIndex := 46, descriptorIndex := 19, attributes := #[] }, { accessFlags := 2, nameIndex := 49, descriptorIndex := 50, attributes := #[] }, { accessFlags := 2, nameIndex := 14, descriptorIndex := 15, attributes := #[] }, { accessFlags := 26, nameIndex := 178, descriptorIndex := 15, attributes := #[] }, { accessFlags := 26, nameIndex := 180, descriptorIndex := 15, attributes := #[] }, { accessFlags := 26, nameIndex := 182, descriptorIndex := 183, attributes := #[] }])
  fields := #[{ name := "NATIVE_METHOD", type := (.object "java/lang/String"), accessFlags := 26, slot := 0, constantValue := 0 }, { name := "UNKNOWN_SOURCE", type := (.object "java/lang/String"), accessFlags := 26, slot := 1, constantValue := 0 }, { name := "declaringClassObject", type := (.object "java/lang/Class"), accessFlags := 130, slot := 0, constantValue := 0 }, { name := "classLoaderName", type := (.object "java/lang/String"), accessFlags := 2, slot := 1, constantValue := 0 }, { name := "moduleName", type := (.object "java/lang/String"), accessFlags := 2, slot := 2, constantValue := 0 }, { name := "moduleVersion", type := (.object "java/lang/String"), accessFlags := 2, slot := 3, constantValue := 0 }, { name := "declaringClass", type := (.object "java/lang/String"), accessFlags := 2, slot := 4, constantValue := 0 }, { name := "methodName", type := (.object "java/lang/String"), accessFlags := 2, slot := 5, constantValue := 0 }, { name := "fileName", type := (.object "java/lang/String"), accessFlags := 2, slot := 6, constantValue := 0 }, { name := "lineNumber", type := .int, accessFlags := 2, slot := 7, constantValue := 0 }, { name := "format", type := .byte, accessFlags := 2, slot := 8, constantValue := 0 }, { name := "BUILTIN_CLASS_LOADER", type := .byte, accessFlags := 26, slot := 2, constantValue := 0 }, { name := "JDK_NON_UPGRADEABLE_MODULE", type := .byte, accessFlags := 26, slot := 3, constantValue := 0 }, { name := "serialVersionUID", type := .long, accessFlags := 26, slot := 4, constantValue := 0 }]
  methods := #[k24m0]
  instanceTypes := #[(.object "java/lang/Class"), (.object "java/lang/String"), (.object "java/lang/String"), (.object "java/lang/String"), (.object "java/lang/String"), (.object "java/lang/String"), (.object "java/lang/String"), .int, .byte]
  staticTypes := #[(.object "java/lang/String"), (.object "java/lang/String"), .byte, .byte, .long]
  resolved := Array.replicate 235 none
  statics := none }

def pool25 : Array CpInfo := pool [(1, u "java/lang/Cloneable"), (0, .class_ 1), (0, u "java/lang/Object"), (0, .class_ 3)] 3

/-- java/lang/Cloneable -/
def k25 : Class := { plain "java/lang/Cloneable" (some 0) with
  accessFlags := 1537
  interfaces := #[]
  cf := some (fileOf pool25 2 #[] #[] 1537 4 #[] #[])
  fields := #[]
  methods := #[]
  instanceTypes := #[]
  staticTypes := #[]
  resolved := Array.replicate 8 none
  statics := none }

/-- the primitive byte -/
def k26 : Class := { plain "byte" none with kind := .primitive 'B', accessFlags := 0x411 }
/-- [B -/
def k27 : Class := { plain "[B" (some 0) with kind := .array 26 .byte, interfaces := #[25, 2], accessFlags := 1041 }

/-- the primitive char -/
def k28 : Class := { plain "char" none with kind := .primitive 'C', accessFlags := 0x411 }
/-- [C -/
def k29 : Class := { plain "[C" (some 0) with kind := .array 28 .char, interfaces := #[25, 2], accessFlags := 1041 }

/-- the primitive int -/
def k30 : Class := { plain "int" none with kind := .primitive 'I', accessFlags := 0x411 }
/-- [I -/
def k31 : Class := { plain "[I" (some 0) with kind := .array 30 .int, interfaces := #[25, 2], accessFlags := 1041 }

/-- [Ljava/lang/Object; -/
def k32 : Class := { plain "[Ljava/lang/Object;" (some 0) with kind := .array 0 (.object "java/lang/Object"), interfaces := #[25, 2], accessFlags := 1041 }

/-- [Ljava/lang/StackTraceElement; -/
def k33 : Class := { plain "[Ljava/lang/StackTraceElement;" (some 0) with kind := .array 24 (.object "java/lang/StackTraceElement"), interfaces := #[25, 2], accessFlags := 1041 }

/-- [Ljava/lang/Throwable; -/
def k34 : Class := { plain "[Ljava/lang/Throwable;" (some 0) with kind := .array 8 (.object "java/lang/Throwable"), interfaces := #[25, 2], accessFlags := 1041 }

def heap : Heap := #[{ cls := 7, slots := #[.long 0, .int 1, .null, .int 0, .null, .int 0, .int 0], vm := .statics 7 },
  { cls := 8, slots := #[.long 0, .ref 4, .ref 5, .null, .null, .null, .null, .ref 6, .int 1], vm := .statics 8 },
  { cls := 13, slots := #[.int 0, .int 0, .int 0, .int 0, .int 0, .int 0, .int 0, .int 0, .null, .null, .ref 5, .null], vm := .statics 13 },
  { cls := 14, slots := #[.null, .null, .null], vm := .statics 14 },
  { cls := 33, slots := #[], vm := .none },
  { cls := 23, slots := #[.int 0], vm := .none },
  { cls := 34, slots := #[], vm := .none }]
def classes : Array Class := #[k0, k1, k2, k3, k4, k5, k6, k7, k8, k9, k10, k11, k12, k13, k14, k15, k16, k17, k18, k19, k20, k21, k22, k23, k24, k25, k26, k27, k28, k29, k30, k31, k32, k33, k34]
def interned : List (Array UInt16 × Addr) := []
def slotsUsed : Nat := 32
def theMethod : MethodId := ⟨1, 1⟩
def args0 : Array Value := #[.int 500, .int 6, .int 97]
def aboutOver (below : List Frame) : State where
  vm := { classes := classes, interned := interned.toArray }
  heap := heap
  slotsUsed := slotsUsed
  threads := #[{ frames := .invoking theMethod args0 :: below }]
def below0 : List Frame := [.native { method := ⟨0, 0⟩, args := #[] }]
def about1 : State := aboutOver below0
def p0 : Program := .bare "" "" ""
def e0 : Env := launch0.env 0 0 0
theorem w_frames : about1.frames = Frame.invoking theMethod args0 :: below0 := rfl
set_option maxRecDepth 65536 in
theorem w_args : argsFit about1.vm theMethod args0 = true := by decide +kernel
set_option maxRecDepth 65536 in
theorem w_heap : heapFits about1 = true := by decide +kernel
set_option maxRecDepth 65536 in
theorem w_runnable : about1.curStatus? = some .runnable := by decide +kernel
set_option maxRecDepth 65536 in
theorem w_alone : about1.alone = true := by decide +kernel
set_option maxRecDepth 65536 in
theorem w_named : about1.methodNamed? x = some theMethod := by decide +kernel
set_option maxRecDepth 65536 in
theorem w_hears : about1.hears theMethod below0 = true := by decide +kernel
set_option maxRecDepth 65536 in
theorem w_ripe : about1.ripe theMethod args0 below0 = true := by decide +kernel
theorem w_running : about1.status = .running := rfl
set_option maxRecDepth 65536 in
theorem w_room : about1.hasRoom e0.platform room_1 = true :=
  launch0.hasRoom_least _ room_1 (by decide +kernel) (by decide +kernel) (by decide +kernel) (by decide +kernel) (by decide +kernel) (by decide +kernel)
theorem allAtoms_all (ts : List Jvm.Cond) (a : Array Jvm.Value) (st : Jvm.State) : (allAtoms ts).before a st = ts.all (fun c => c.before a st) := by
  induction ts with
  | nil => rfl
  | cons c t ih =>
    show (Jvm.Cond.and c (allAtoms t)).before a st = _
    rw [Jvm.Cond.before_and, ih, List.all_cons]
def words1 : List Jvm.Cond := Jvm.Cond.code x code maxLocals ret :: tables_1
/-- a 'code' word, met by the world's own term for the bytes: nothing is compared byte by byte -/
theorem code_word {y : MethodName} {bytes : ByteArray} {mx : Nat} {rt : Option FieldType} {a : Array Value} {s : State} {m : MethodId} {meth : Method} {c : Code} (h1 : s.methodNamed? y = some m) (h2 : s.vm.method? m = some meth) (h3 : meth.code = some c) (h4 : c.code = bytes)
    (h5 : (c.maxLocals == mx && c.exceptionTable.isEmpty && decide (c.maxStack ≤ mostOperands) && decide (meth.sig.returnType = rt) && !meth.locks && decide (parseMethodDescriptor y.desc = some meth.sig)) = true) : (Jvm.Cond.code y bytes mx rt).before a s = true := by
  simp only [Bool.and_eq_true, beq_iff_eq, Bool.not_eq_true', decide_eq_true_eq] at h5
  obtain ⟨⟨⟨⟨⟨g1, g2⟩, g3⟩, g4⟩, g5⟩, g6⟩ := h5
  simp [Cond.before, Cond.holds, Cond.value, h1, h2, h3, h4, g1, g2, g3, g4, g5, g6]
def isCode : Jvm.Cond → Bool
  | .code _ _ _ _ => true
  | _ => false
theorem all_split {L : List Jvm.Cond} {P : Jvm.Cond → Bool} (h1 : L.all (fun c => isCode c || P c) = true) (h2 : ∀ c ∈ L.filter isCode, P c = true) : L.all P = true := by
  refine List.all_eq_true.mpr fun c hc => ?_
  have h := List.all_eq_true.mp h1 c hc
  rcases Bool.eq_false_or_eq_true (isCode c) with hi | hi
  · exact h2 c (List.mem_filter.mpr ⟨hc, hi⟩)
  · simpa [hi] using h
set_option maxRecDepth 65536 in
theorem w_c0 : (Jvm.Cond.code x code maxLocals ret).before args0 about1 = true := code_word (m := ⟨1, 1⟩) (meth := k1m1) (c := k1c1) (by decide +kernel) rfl rfl rfl (by decide +kernel)
set_option maxRecDepth 65536 in
theorem w_c1 : (Jvm.Cond.code ({ cls := "java/lang/String", name := "<init>", desc := "([C)V" } : Jvm.MethodName) jdk_42_method_3_code (2 : Nat) (Option.none : Option Jvm.ClassFile.FieldType)).before args0 about1 = true := code_word (m := ⟨7, 1⟩) (meth := k7m1) (c := k7c1) (by decide +kernel) rfl rfl rfl (by decide +kernel)
set_option maxRecDepth 65536 in
theorem w_c2 : (Jvm.Cond.code ({ cls := "java/lang/String", name := "<init>", desc := "([CIILjava/lang/Void;)V" } : Jvm.MethodName) jdk_42_method_149_code (6 : Nat) (Option.none : Option Jvm.ClassFile.FieldType)).before args0 about1 = true := code_word (m := ⟨7, 3⟩) (meth := k7m3) (c := k7c3) (by decide +kernel) rfl rfl rfl (by decide +kernel)
set_option maxRecDepth 65536 in
theorem w_c3 : (Jvm.Cond.code ({ cls := "java/lang/Object", name := "<init>", desc := "()V" } : Jvm.MethodName) object_method_1_code (1 : Nat) (Option.none : Option Jvm.ClassFile.FieldType)).before args0 about1 = true := code_word (m := ⟨0, 0⟩) (meth := k0m0) (c := k0c0) (by decide +kernel) rfl rfl rfl (by decide +kernel)
set_option maxRecDepth 65536 in
theorem w_c4 : (Jvm.Cond.code ({ cls := "com/example/consentry/consentry/oauth/TokenRequestException", name := "<init>", desc := "(Ljava/lang/String;ILjava/lang/String;)V" } : Jvm.MethodName) prog_57_method_1_code (4 : Nat) (Option.none : Option Jvm.ClassFile.FieldType)).before args0 about1 = true := code_word (m := ⟨10, 0⟩) (meth := k10m0) (c := k10c0) (by decide +kernel) rfl rfl rfl (by decide +kernel)
set_option maxRecDepth 65536 in
theorem w_c5 : (Jvm.Cond.code ({ cls := "java/lang/Exception", name := "<init>", desc := "(Ljava/lang/String;)V" } : Jvm.MethodName) jdk_59_method_2_code (2 : Nat) (Option.none : Option Jvm.ClassFile.FieldType)).before args0 about1 = true := code_word (m := ⟨9, 1⟩) (meth := k9m1) (c := k9c1) (by decide +kernel) rfl rfl rfl (by decide +kernel)
set_option maxRecDepth 65536 in
theorem w_c6 : (Jvm.Cond.code ({ cls := "java/lang/Throwable", name := "<init>", desc := "(Ljava/lang/String;)V" } : Jvm.MethodName) jdk_78_method_2_code (2 : Nat) (Option.none : Option Jvm.ClassFile.FieldType)).before args0 about1 = true := code_word (m := ⟨8, 1⟩) (meth := k8m1) (c := k8c1) (by decide +kernel) rfl rfl rfl (by decide +kernel)
set_option maxRecDepth 65536 in
theorem w_c7 : (Jvm.Cond.code ({ cls := "java/lang/Throwable", name := "<init>", desc := "()V" } : Jvm.MethodName) jdk_78_method_1_code (1 : Nat) (Option.none : Option Jvm.ClassFile.FieldType)).before args0 about1 = true := code_word (m := ⟨8, 0⟩) (meth := k8m0) (c := k8c0) (by decide +kernel) rfl rfl rfl (by decide +kernel)
set_option maxRecDepth 65536 in
theorem w_c8 : (Jvm.Cond.code ({ cls := "com/example/consentry/consentry/oauth/TokenRequestException", name := "isTemporary", desc := "()Z" } : Jvm.MethodName) prog_57_method_5_code (1 : Nat) (Option.some Jvm.ClassFile.FieldType.boolean)).before args0 about1 = true := code_word (m := ⟨10, 1⟩) (meth := k10m1) (c := k10c1) (by decide +kernel) rfl rfl rfl (by decide +kernel)
set_option maxRecDepth 65536 in
theorem w_c9 : (Jvm.Cond.code ({ cls := "java/lang/String", name := "valueOf", desc := "(C)Ljava/lang/String;" } : Jvm.MethodName) jdk_42_method_139_code (1 : Nat) (Option.some (Jvm.ClassFile.FieldType.object "java/lang/String"))).before args0 about1 = true := code_word (m := ⟨7, 2⟩) (meth := k7m2) (c := k7c2) (by decide +kernel) rfl rfl rfl (by decide +kernel)
set_option maxRecDepth 65536 in
theorem w_c10 : (Jvm.Cond.code ({ cls := "java/lang/StringLatin1", name := "canEncode", desc := "(C)Z" } : Jvm.MethodName) jdk_43_method_3_code (1 : Nat) (Option.some Jvm.ClassFile.FieldType.boolean)).before args0 about1 = true := code_word (m := ⟨11, 1⟩) (meth := k11m1) (c := k11c1) (by decide +kernel) rfl rfl rfl (by decide +kernel)
set_option maxRecDepth 65536 in
theorem w_c11 : (Jvm.Cond.code ({ cls := "java/lang/StringLatin1", name := "toBytes", desc := "(C)[B" } : Jvm.MethodName) jdk_43_method_46_code (1 : Nat) (Option.some (Jvm.ClassFile.FieldType.array Jvm.ClassFile.FieldType.byte))).before args0 about1 = true := code_word (m := ⟨11, 2⟩) (meth := k11m2) (c := k11c2) (by decide +kernel) rfl rfl rfl (by decide +kernel)
set_option maxRecDepth 65536 in
theorem w_c12 : (Jvm.Cond.code ({ cls := "java/lang/String", name := "<init>", desc := "([BB)V" } : Jvm.MethodName) jdk_42_method_151_code (3 : Nat) (Option.none : Option Jvm.ClassFile.FieldType)).before args0 about1 = true := code_word (m := ⟨7, 4⟩) (meth := k7m4) (c := k7c4) (by decide +kernel) rfl rfl rfl (by decide +kernel)
set_option maxRecDepth 65536 in
theorem w_c13 : (Jvm.Cond.code ({ cls := "java/lang/StringUTF16", name := "compress", desc := "([CII)[B" } : Jvm.MethodName) jdk_52_method_16_code (6 : Nat) (Option.some (Jvm.ClassFile.FieldType.array Jvm.ClassFile.FieldType.byte))).before args0 about1 = true := code_word (m := ⟨12, 2⟩) (meth := k12m2) (c := k12c2) (by decide +kernel) rfl rfl rfl (by decide +kernel)
set_option maxRecDepth 65536 in
theorem w_c14 : (Jvm.Cond.code ({ cls := "java/lang/StringUTF16", name := "compress", desc := "([CI[BII)I" } : Jvm.MethodName) jdk_52_method_21_code (7 : Nat) (Option.some Jvm.ClassFile.FieldType.int)).before args0 about1 = true := code_word (m := ⟨12, 3⟩) (meth := k12m3) (c := k12c3) (by decide +kernel) rfl rfl rfl (by decide +kernel)
set_option maxRecDepth 65536 in
theorem w_c15 : (Jvm.Cond.code ({ cls := "java/lang/StringUTF16", name := "coderFromArrayLen", desc := "([BI)B" } : Jvm.MethodName) jdk_52_method_15_code (2 : Nat) (Option.some Jvm.ClassFile.FieldType.byte)).before args0 about1 = true := code_word (m := ⟨12, 1⟩) (meth := k12m1) (c := k12c1) (by decide +kernel) rfl rfl rfl (by decide +kernel)
def codes1 : List Jvm.Cond := [Jvm.Cond.code x code maxLocals ret, Jvm.Cond.code ({ cls := "java/lang/String", name := "<init>", desc := "([C)V" } : Jvm.MethodName) jdk_42_method_3_code (2 : Nat) (Option.none : Option Jvm.ClassFile.FieldType), Jvm.Cond.code ({ cls := "java/lang/String", name := "<init>", desc := "([CIILjava/lang/Void;)V" } : Jvm.MethodName) jdk_42_method_149_code (6 : Nat) (Option.none : Option Jvm.ClassFile.FieldType), Jvm.Cond.code ({ cls := "java/lang/Object", name := "<init>", desc := "()V" } : Jvm.MethodName) object_method_1_code (1 : Nat) (Option.none : Option Jvm.ClassFile.FieldType), Jvm.Cond.code ({ cls := "com/example/consentry/consentry/oauth/TokenRequestException", name := "<init>", desc := "(Ljava/lang/String;ILjava/lang/String;)V" } : Jvm.MethodName) prog_57_method_1_code (4 : Nat) (Option.none : Option Jvm.ClassFile.FieldType), Jvm.Cond.code ({ cls := "java/lang/Exception", name := "<init>", desc := "(Ljava/lang/String;)V" } : Jvm.MethodName) jdk_59_method_2_code (2 : Nat) (Option.none : Option Jvm.ClassFile.FieldType), Jvm.Cond.code ({ cls := "java/lang/Throwable", name := "<init>", desc := "(Ljava/lang/String;)V" } : Jvm.MethodName) jdk_78_method_2_code (2 : Nat) (Option.none : Option Jvm.ClassFile.FieldType), Jvm.Cond.code ({ cls := "java/lang/Throwable", name := "<init>", desc := "()V" } : Jvm.MethodName) jdk_78_method_1_code (1 : Nat) (Option.none : Option Jvm.ClassFile.FieldType), Jvm.Cond.code ({ cls := "com/example/consentry/consentry/oauth/TokenRequestException", name := "isTemporary", desc := "()Z" } : Jvm.MethodName) prog_57_method_5_code (1 : Nat) (Option.some Jvm.ClassFile.FieldType.boolean), Jvm.Cond.code ({ cls := "java/lang/String", name := "valueOf", desc := "(C)Ljava/lang/String;" } : Jvm.MethodName) jdk_42_method_139_code (1 : Nat) (Option.some (Jvm.ClassFile.FieldType.object "java/lang/String")), Jvm.Cond.code ({ cls := "java/lang/StringLatin1", name := "canEncode", desc := "(C)Z" } : Jvm.MethodName) jdk_43_method_3_code (1 : Nat) (Option.some Jvm.ClassFile.FieldType.boolean), Jvm.Cond.code ({ cls := "java/lang/StringLatin1", name := "toBytes", desc := "(C)[B" } : Jvm.MethodName) jdk_43_method_46_code (1 : Nat) (Option.some (Jvm.ClassFile.FieldType.array Jvm.ClassFile.FieldType.byte)), Jvm.Cond.code ({ cls := "java/lang/String", name := "<init>", desc := "([BB)V" } : Jvm.MethodName) jdk_42_method_151_code (3 : Nat) (Option.none : Option Jvm.ClassFile.FieldType), Jvm.Cond.code ({ cls := "java/lang/StringUTF16", name := "compress", desc := "([CII)[B" } : Jvm.MethodName) jdk_52_method_16_code (6 : Nat) (Option.some (Jvm.ClassFile.FieldType.array Jvm.ClassFile.FieldType.byte)), Jvm.Cond.code ({ cls := "java/lang/StringUTF16", name := "compress", desc := "([CI[BII)I" } : Jvm.MethodName) jdk_52_method_21_code (7 : Nat) (Option.some Jvm.ClassFile.FieldType.int), Jvm.Cond.code ({ cls := "java/lang/StringUTF16", name := "coderFromArrayLen", desc := "([BI)B" } : Jvm.MethodName) jdk_52_method_15_code (2 : Nat) (Option.some Jvm.ClassFile.FieldType.byte)]
set_option maxRecDepth 65536 in
theorem codes_eq : words1.filter isCode = codes1 := rfl
theorem w_codes : ∀ c ∈ words1.filter isCode, c.before args0 about1 = true := by
  rw [codes_eq]
  intro c hc
  simp only [codes1, List.mem_cons, List.not_mem_nil, or_false] at hc
  rcases hc with rfl | rfl | rfl | rfl | rfl | rfl | rfl | rfl | rfl | rfl | rfl | rfl | rfl | rfl | rfl | rfl
  · exact w_c0
  · exact w_c1
  · exact w_c2
  · exact w_c3
  · exact w_c4
  · exact w_c5
  · exact w_c6
  · exact w_c7
  · exact w_c8
  · exact w_c9
  · exact w_c10
  · exact w_c11
  · exact w_c12
  · exact w_c13
  · exact w_c14
  · exact w_c15
set_option maxRecDepth 65536 in
theorem w_t1 : (words1.take 24).all (fun c => isCode c || c.before args0 about1) = true := by decide +kernel
set_option maxRecDepth 65536 in
theorem w_t2 : ((words1.drop 24).take 24).all (fun c => isCode c || c.before args0 about1) = true := by decide +kernel
set_option maxRecDepth 65536 in
theorem w_t3 : (((words1.drop 24).drop 24).take 24).all (fun c => isCode c || c.before args0 about1) = true := by decide +kernel
set_option maxRecDepth 65536 in
theorem w_t4 : ((((words1.drop 24).drop 24).drop 24).take 24).all (fun c => isCode c || c.before args0 about1) = true := by decide +kernel
set_option maxRecDepth 65536 in
theorem w_t5 : ((((words1.drop 24).drop 24).drop 24).drop 24).all (fun c => isCode c || c.before args0 about1) = true := by decide +kernel
theorem w_tables : (allAtoms (Jvm.Cond.code x code maxLocals ret :: tables_1)).before args0 about1 = true := by
  rw [allAtoms_all]
  show words1.all (fun c => c.before args0 about1) = true
  refine all_split ?_ w_codes
  rw [← List.take_append_drop 24 words1, List.all_append, w_t1, ← List.take_append_drop 24 (words1.drop 24), List.all_append, w_t2, ← List.take_append_drop 24 ((words1.drop 24).drop 24), List.all_append, w_t3, ← List.take_append_drop 24 (((words1.drop 24).drop 24).drop 24), List.all_append, w_t4, w_t5]
  rfl
set_option maxRecDepth 65536 in
theorem w_rest : rest_1_c.before args0 about1 = true := by decide +kernel
set_option maxRecDepth 65536 in
theorem w_case : (Jvm.Cond.and given_1 narrow_1).before args0 about1 = true := by decide +kernel
set_option maxRecDepth 65536 in
theorem w_consts : constsHeld consts_1 about1 := Jvm.Lit.constsHeldB_iff.mp (by decide +kernel)
theorem w_applies : (headSpec (Jvm.Cond.code x code maxLocals ret :: tables_1) room_1).applies x e0.platform about1 = true :=
  (Spec.applies_iff w_frames).mpr ⟨w_running, w_runnable, w_alone, w_named, w_hears, w_ripe, w_room, w_tables⟩
theorem atStart : AtStart classFile x code maxLocals ret World_1 tables_1 room_1 Calls_1 rest_1 Pre_1 launch0 p0 e0 about1 theMethod args0 below0 :=
  ⟨lists_1, trivial, launch0.admits_env _ _ _, launch0.least_env, fairChoices_fair.cas, fairChoices_fair.clock, w_frames, w_args, w_heap, w_applies, ⟨(by decide +kernel : framesKnown about1 = true), ⟨(by decide +kernel : tablesKnown about1 = true), ⟨w_consts, trivial⟩⟩⟩, w_rest, w_case⟩
end start1
theorem witness_1 : WitnessClaimed_1 := ⟨start1.p0, start1.e0, start1.about1, start1.theMethod, start1.args0, start1.below0, start1.atStart⟩
end Jvm.Pilot.@@N@@
