import JvmDerived
import JvmDerived.Pilot.@@N@@Statement
import JvmDerived.Pilot.@@N@@Code
set_option linter.unusedVariables false
set_option linter.unusedSimpArgs false
/- laws to paste: Road.backV (cut by pick.py; bodies as the Statement names them) -/
namespace Jvm.Pilot.@@N@@
namespace StrChars
open Jvm Sem ClassFile Op Lib Jvm.Stand Jvm.Free.XT Jvm.Free.ALB Jvm.Free.JM Jvm.Free
open Jvm.Lib.Cold (StaticIs)
/-- a char array whose places are chars -/
def Ch (a : Addr) (A : Cell) (U : State) : Prop := Arr .char a A U ∧ Typed .char A
theorem Ch.mv {a : Addr} {A : Cell} {U U' : State} (h : Ch a A U) (hal : U.vm.Alike U'.vm) (hh : U'.heap = U.heap) : Ch a A U' := ⟨h.1.mv hal hh, h.2⟩
theorem Ch.keep {a : Addr} {A : Cell} {U U' : State} (h : Ch a A U) (hal : U.vm.Alike U'.vm) (hk : U'.heap[a]? = some A) : Ch a A U' := ⟨h.1.keep hal hk, h.2⟩
/-- what place i of a char[]'s cell holds -/
def cv (A : Cell) (i : Nat) : Int32 := match A.slots[i]? with | some (.int x) => x | _ => 0
theorem Ch.get {a : Addr} {A : Cell} {U : State} (h : Ch a A U) {i : Nat} (hi : i < A.slots.size) : A.slots[i]? = some (.int (cv A i)) := by
  have e := Array.getElem?_eq_getElem hi
  have f := h.2 i _ e
  unfold cv; rw [e]
  generalize A.slots[i] = v at f
  cases v <;> simp [fits] at f ⊢
/-- the byte that i2b leaves of a char -/
def lo8 (x : Int32) : Int32 := x.toInt8.toInt32
theorem fits_lo8 (y : Int32) : fits .byte (.int (lo8 y)) = true := by
  have h1 := y.toInt8.le_toInt
  have h2 := y.toInt8.toInt_lt
  simp only [lo8, fits, Bool.and_eq_true, decide_eq_true_eq, Int32.le_iff_toInt_le, Int8.toInt_toInt32, show (-128 : Int32).toInt = -128 from by decide, show (127 : Int32).toInt = 127 from by decide]
  omega
/-- A' is A but that each place j of lo .. hi - 1 holds f j -/
def Laid (A A' : Cell) (lo hi : Nat) (f : Nat → Value) : Prop := A'.cls = A.cls ∧ A'.vm = A.vm ∧ A'.slots.size = A.slots.size ∧ ∀ i, A'.slots[i]? = if lo ≤ i ∧ i < hi then some (f i) else A.slots[i]?
theorem Laid.zero (A : Cell) (lo : Nat) (f : Nat → Value) : Laid A A lo (lo + 0) f := ⟨rfl, rfl, rfl, fun i => by rw [if_neg (by omega)]⟩
theorem Laid.step {A Ak : Cell} {lo k : Nat} {f : Nat → Value} {v : Value} (h : Laid A Ak lo k f) (hlo : lo ≤ k) (hk : k < Ak.slots.size) (hv : v = f k) : Laid A (Ak.setSlot k v) lo (k + 1) f := by
  refine ⟨h.1, h.2.1, by simpa [Cell.setSlot] using h.2.2.1, fun i => ?_⟩
  by_cases e : k = i
  · subst e; rw [Cell.slots_setSlot_self v hk, if_pos (by omega), hv]
  · rw [Cell.slots_setSlot_ne v e, h.2.2.2 i]
    by_cases q : lo ≤ i ∧ i < k
    · rw [if_pos q, if_pos (by omega)]
    · rw [if_neg q, if_neg (by omega)]
def U16 : String := "java/lang/StringUTF16"
namespace Cmp5
def yN : MethodName := ⟨"java/lang/StringUTF16", "compress", "([CI[BII)I"⟩
abbrev yB : ByteArray := jdk_52_method_21_code
theorem d0 : decode yB 0 = .ok (.iconst 0, 1) := by decide +kernel
theorem d1 : decode yB 1 = .ok (.istore 5, 2) := by decide +kernel
theorem d3 : decode yB 3 = .ok (.iload 5, 2) := by decide +kernel
theorem d5 : decode yB 5 = .ok (.iload 4, 2) := by decide +kernel
theorem d7 : decode yB 7 = .ok (.if_icmp (.ge) 37, 3) := by decide +kernel
theorem d10 : decode yB 10 = .ok (.aload_n 0, 1) := by decide +kernel
theorem d11 : decode yB 11 = .ok (.iload_n 1, 1) := by decide +kernel
theorem d12 : decode yB 12 = .ok (.caload, 1) := by decide +kernel
theorem d13 : decode yB 13 = .ok (.istore 6, 2) := by decide +kernel
theorem d15 : decode yB 15 = .ok (.iload 6, 2) := by decide +kernel
theorem d17 : decode yB 17 = .ok (.sipush 255, 3) := by decide +kernel
theorem d20 : decode yB 20 = .ok (.if_icmp (.le) 6, 3) := by decide +kernel
theorem d26 : decode yB 26 = .ok (.aload_n 2, 1) := by decide +kernel
theorem d27 : decode yB 27 = .ok (.iload_n 3, 1) := by decide +kernel
theorem d28 : decode yB 28 = .ok (.iload 6, 2) := by decide +kernel
theorem d30 : decode yB 30 = .ok (.i2b, 1) := by decide +kernel
theorem d31 : decode yB 31 = .ok (.bastore, 1) := by decide +kernel
theorem d32 : decode yB 32 = .ok (.iinc 1 1, 3) := by decide +kernel
theorem d35 : decode yB 35 = .ok (.iinc 3 1, 3) := by decide +kernel
theorem d38 : decode yB 38 = .ok (.iinc 5 1, 3) := by decide +kernel
theorem d41 : decode yB 41 = .ok (.goto (-38), 3) := by decide +kernel
theorem d44 : decode yB 44 = .ok (.iload 4, 2) := by decide +kernel
theorem d46 : decode yB 46 = .ok (.ireturn, 1) := by decide +kernel
def site : List Cond := []
def tab : Cond := tabOf yN yB 7 (some .int) site
def P (b : Addr) (A : Cell) (d : Addr) (B : Cell) (o q len : Nat) (args : Array Value) (s : State) : Prop := args = #[.ref b, .int (Int32.ofNat o), .ref d, .int (Int32.ofNat q), .int (Int32.ofNat len)] ∧ Ch b A s ∧ Arr .byte d B s ∧ b ≠ d ∧ o + len ≤ A.slots.size ∧ q + len ≤ B.slots.size ∧ ∀ i, i < len → ¬ 255 < cv A (o + i)
def E (b : Addr) (A : Cell) (d : Addr) (B : Cell) (o q len : Nat) (r : Option Value) (s u : State) : Prop := r = some (.int (Int32.ofNat len)) ∧ ∃ B', Put d B' s u ∧ Laid B B' q (q + len) (fun j => Value.int (lo8 (cv A (o + (j - q)))))
/-- no char of the range above 255: len; the places written hold each char's low byte -/
theorem law (l : Launch) (b : Addr) (A : Cell) (d : Addr) (B : Cell) (o q len : Nat) : Law l yN 5 5 0 0 yB 7 (some .int) site (P b A d B o q len) (E b A d B o q len) (copyLocs d q len) 0 0 := by
  refine Law.of_walk (plainFor_of_name (by decide +kernel)) (by decide +kernel) (by decide +kernel) (by decide) (fun _ _ h => by rw [h.1]; rfl) (fun _ U U' hal hh h => ⟨h.1, h.2.1.mv hal hh, h.2.2.1.mv hal hh, h.2.2.2⟩) (fun r U U' V V' h1 hal h2 h => ⟨h.1, h.2.elim fun B' q => ⟨B', q.1.mv h1 h2, q.2⟩⟩) ?_
  intro p e s m args below meth c s₁ X0 hexec hbytes hml hret hlk hnm hown hh0 W hP
  obtain ⟨rfl, hA, hB, hne, l1, l2, hp⟩ := hP
  have c1 : Steps p.tables e below (s₁.setTop (entryFrame m #[.ref b, .int (Int32.ofNat o), .ref d, .int (Int32.ofNat q), .int (Int32.ofNat len)] 7)) (s₁.setTop (mkF m 0 #[.val (.ref b), .val (.int (Int32.ofNat o)), .val (.ref d), .val (.int (Int32.ofNat q)), .val (.int (Int32.ofNat len)), .unset, .unset] [])) := entry rfl
  have hA0 := hA.1.mv X0.warmed.alike hh0
  have hB0 := hB.mv X0.warmed.alike hh0
  have a31 := hA.1.2.2.2
  have c2 : Steps p.tables e below (s₁.setTop (entryFrame m #[.ref b, .int (Int32.ofNat o), .ref d, .int (Int32.ofNat q), .int (Int32.ofNat len)] 7)) (s₁.setTop (mkF m 3 #[.val (.ref b), .val (.int (Int32.ofNat o)), .val (.ref d), .val (.int (Int32.ofNat q)), .val (.int (Int32.ofNat len)), .val (.int 0), .unset] [])) := c1.trans (by
    refine iconstV X0.here hexec rfl 0 (hb hbytes d0) (by decide) ?_
    refine XS.istore X0.here hexec rfl (hb hbytes d1) rfl rfl ?_
    exact Steps.refl _)
  have loop : ∀ (r i : Nat), i + r = len → ∀ (z : Slot), (z = .unset ∨ ∃ w, z = .val w ∧ w.category = 1) → ∀ (Tl : State) (Bk : Cell), Stand p l e { frames := 0, locals := 0, cells := 0, slots := 0 } s m #[.ref b, .int (Int32.ofNat o), .ref d, .int (Int32.ofNat q), .int (Int32.ofNat len)] below meth c Tl ([] ++ copyLocs d q i) 0 0 → Put d Bk s₁ Tl → Laid B Bk q (q + i) (fun j => Value.int (lo8 (cv A (o + (j - q))))) →
      Steps p.tables e below (s₁.setTop (entryFrame m #[.ref b, .int (Int32.ofNat o), .ref d, .int (Int32.ofNat q), .int (Int32.ofNat len)] 7)) (Tl.setTop (mkF m 3 #[.val (.ref b), .val (.int (Int32.ofNat (o + i))), .val (.ref d), .val (.int (Int32.ofNat (q + i))), .val (.int (Int32.ofNat len)), .val (.int (Int32.ofNat i)), z] [])) → ∃ (T' : State) (B' : Cell) (z' : Slot), Stand p l e { frames := 0, locals := 0, cells := 0, slots := 0 } s m #[.ref b, .int (Int32.ofNat o), .ref d, .int (Int32.ofNat q), .int (Int32.ofNat len)] below meth c T' ([] ++ copyLocs d q len) 0 0 ∧ Put d B' s₁ T' ∧ Laid B B' q (q + len) (fun j => Value.int (lo8 (cv A (o + (j - q))))) ∧
      Steps p.tables e below (s₁.setTop (entryFrame m #[.ref b, .int (Int32.ofNat o), .ref d, .int (Int32.ofNat q), .int (Int32.ofNat len)] 7)) (T'.setTop (mkF m 3 #[.val (.ref b), .val (.int (Int32.ofNat (o + len))), .val (.ref d), .val (.int (Int32.ofNat (q + len))), .val (.int (Int32.ofNat len)), .val (.int (Int32.ofNat len)), z'] [])) := by
    intro r
    induction r with
    | zero =>
      intro i hi z hz Tl Bk Xl pl fl cl
      have hil : i = len := by omega
      rw [hil] at Xl fl cl
      exact ⟨Tl, Bk, z, Xl, pl, fl, cl⟩
    | succ r ih =>
      intro i hi z hz Tl Bk Xl pl fl cl
      have all := X0.warmed.alike.symm.trans Xl.warmed.alike
      have hAl := hA0.keep all (pl.other hne hA0.1)
      have hBk := hB0.like all pl.1 fl.1 fl.2.1 fl.2.2.1
      have hlt : q + i < Bk.slots.size := by rw [fl.2.2.1]; omega
      have c3 : Steps p.tables e below (s₁.setTop (entryFrame m #[.ref b, .int (Int32.ofNat o), .ref d, .int (Int32.ofNat q), .int (Int32.ofNat len)] 7)) (Tl.setTop (mkF m 12 #[.val (.ref b), .val (.int (Int32.ofNat (o + i))), .val (.ref d), .val (.int (Int32.ofNat (q + i))), .val (.int (Int32.ofNat len)), .val (.int (Int32.ofNat i)), z] [.int (Int32.ofNat (o + i)), .ref b])) := cl.trans (by
        refine XS.iload Xl.here hexec rfl (hb hbytes d3) rfl ?_
        refine XS.iload Xl.here hexec rfl (hb hbytes d5) rfl ?_
        refine XS.icmpNo Xl.here hexec rfl (hb hbytes d7) rfl (ii_ge_f (lt32 (by omega) (by omega))) ?_
        refine XS.aloadN Xl.here hexec rfl (hb hbytes d10) rfl rfl ?_
        refine XS.iloadN Xl.here hexec rfl (hb hbytes d11) rfl ?_
        exact Steps.refl _)
      have c4 : Steps p.tables e below (s₁.setTop (entryFrame m #[.ref b, .int (Int32.ofNat o), .ref d, .int (Int32.ofNat q), .int (Int32.ofNat len)] 7)) (Tl.setTop (mkF m 13 #[.val (.ref b), .val (.int (Int32.ofNat (o + i))), .val (.ref d), .val (.int (Int32.ofNat (q + i))), .val (.int (Int32.ofNat len)), .val (.int (Int32.ofNat i)), z] [.int (cv A (o + i))])) := c3.trans (by
        refine Xl.aget hexec hAl rfl (hA.get (i := o + i) (by omega)) rfl rfl (hb hbytes d12) ?_
        exact Steps.refl _)
      have c5 : Steps p.tables e below (s₁.setTop (entryFrame m #[.ref b, .int (Int32.ofNat o), .ref d, .int (Int32.ofNat q), .int (Int32.ofNat len)] 7)) (Tl.setTop (mkF m 15 #[.val (.ref b), .val (.int (Int32.ofNat (o + i))), .val (.ref d), .val (.int (Int32.ofNat (q + i))), .val (.int (Int32.ofNat len)), .val (.int (Int32.ofNat i)), .val (.int (cv A (o + i)))] [])) := c4.trans (by
        refine XS.istoreS Xl.here hexec rfl (hb hbytes d13) rfl rfl hz ?_
        exact Steps.refl _)
      have c6 : Steps p.tables e below (s₁.setTop (entryFrame m #[.ref b, .int (Int32.ofNat o), .ref d, .int (Int32.ofNat q), .int (Int32.ofNat len)] 7)) (Tl.setTop (mkF m 31 #[.val (.ref b), .val (.int (Int32.ofNat (o + i))), .val (.ref d), .val (.int (Int32.ofNat (q + i))), .val (.int (Int32.ofNat len)), .val (.int (Int32.ofNat i)), .val (.int (cv A (o + i)))] [.int (lo8 (cv A (o + i))), .int (Int32.ofNat (q + i)), .ref d])) := c5.trans (by
        refine XS.iload Xl.here hexec rfl (hb hbytes d15) rfl ?_
        refine sipushV Xl.here hexec rfl 255 (hb hbytes d17) (by decide) ?_
        refine XS.icmpYes Xl.here hexec rfl (pc0 := 20) rfl (hb hbytes d20) rfl (ii_le_t (hp i (by omega))) (by decide) rfl ?_
        refine XS.aloadN Xl.here hexec rfl (hb hbytes d26) rfl rfl ?_
        refine XS.iloadN Xl.here hexec rfl (hb hbytes d27) rfl ?_
        refine XS.iload Xl.here hexec rfl (hb hbytes d28) rfl ?_
        refine i2b Xl.here hexec rfl (hb hbytes d30) rfl ?_
        exact Steps.refl _)
      obtain ⟨T7, X7, p7, st7⟩ := Xl.aput hexec hBk rfl hlt rfl (fits_lo8 (cv A (o + i))) (g := (mkF m 31 #[.val (.ref b), .val (.int (Int32.ofNat (o + i))), .val (.ref d), .val (.int (Int32.ofNat (q + i))), .val (.int (Int32.ofNat len)), .val (.int (Int32.ofNat i)), .val (.int (cv A (o + i)))] [.int (lo8 (cv A (o + i))), .int (Int32.ofNat (q + i)), .ref d])) rfl (rest := []) rfl (hb hbytes d31)
      have c8 : Steps p.tables e below (s₁.setTop (entryFrame m #[.ref b, .int (Int32.ofNat o), .ref d, .int (Int32.ofNat q), .int (Int32.ofNat len)] 7)) (T7.setTop (mkF m 32 #[.val (.ref b), .val (.int (Int32.ofNat (o + i))), .val (.ref d), .val (.int (Int32.ofNat (q + i))), .val (.int (Int32.ofNat len)), .val (.int (Int32.ofNat i)), .val (.int (cv A (o + i)))] [])) := c6.trans (st7 _ (Steps.refl _))
      have c9 : Steps p.tables e below (s₁.setTop (entryFrame m #[.ref b, .int (Int32.ofNat o), .ref d, .int (Int32.ofNat q), .int (Int32.ofNat len)] 7)) (T7.setTop (mkF m 3 #[.val (.ref b), .val (.int (Int32.ofNat (o + i) + 1)), .val (.ref d), .val (.int (Int32.ofNat (q + i) + 1)), .val (.int (Int32.ofNat len)), .val (.int (Int32.ofNat i + 1)), .val (.int (cv A (o + i)))] [])) := c8.trans (by
        refine iincV X7.here hexec rfl 1 (hb hbytes d32) (by decide) rfl rfl ?_
        refine iincV X7.here hexec rfl 1 (hb hbytes d35) (by decide) rfl rfl ?_
        refine iincV X7.here hexec rfl 1 (hb hbytes d38) (by decide) rfl rfl ?_
        refine XS.goto X7.here hexec rfl (pc0 := 41) rfl (hb hbytes d41) (by decide) rfl ?_
        exact Steps.refl _)
      have c10 : Steps p.tables e below (s₁.setTop (entryFrame m #[.ref b, .int (Int32.ofNat o), .ref d, .int (Int32.ofNat q), .int (Int32.ofNat len)] 7)) (T7.setTop (mkF m 3 #[.val (.ref b), .val (.int (Int32.ofNat (o + (i + 1)))), .val (.ref d), .val (.int (Int32.ofNat (q + (i + 1)))), .val (.int (Int32.ofNat len)), .val (.int (Int32.ofNat (i + 1))), .val (.int (cv A (o + i)))] [])) := by
        have := c9
        rw [succ32, succ32, succ32] at this
        exact this
      exact ih (i + 1) (by omega) _ (Or.inr ⟨_, rfl, rfl⟩) T7 _ (by rw [copyLocs_step, ← List.append_assoc]; exact X7) (pl.trans p7) (fl.step (by omega) hlt (by simp)) c10
  obtain ⟨T9, B9, z9, X9, p9, f9, g9⟩ := loop len 0 (by omega) .unset (Or.inl rfl) s₁ B (by simpa [copyLocs] using X0) ⟨hB0.1, fun _ _ => rfl, rfl⟩ (Laid.zero _ _ _) c2
  have c11 : Steps p.tables e below (s₁.setTop (entryFrame m #[.ref b, .int (Int32.ofNat o), .ref d, .int (Int32.ofNat q), .int (Int32.ofNat len)] 7)) (T9.setTop (mkF m 46 #[.val (.ref b), .val (.int (Int32.ofNat (o + len))), .val (.ref d), .val (.int (Int32.ofNat (q + len))), .val (.int (Int32.ofNat len)), .val (.int (Int32.ofNat len)), z9] [.int (Int32.ofNat len)])) := g9.trans (by
    refine XS.iload X9.here hexec rfl (hb hbytes d3) rfl ?_
    refine XS.iload X9.here hexec rfl (hb hbytes d5) rfl ?_
    refine XS.icmpYes X9.here hexec rfl (pc0 := 7) rfl (hb hbytes d7) rfl (ii_ge_t (nlt32 (by omega) (Nat.le_refl _))) (by decide) rfl ?_
    refine XS.iload X9.here hexec rfl (hb hbytes d44) rfl ?_
    exact Steps.refl _)
  exact ⟨T9, some (.int (Int32.ofNat len)), _, _, _, X9, by simp, rfl, rfl, (fun h => by cases h), ⟨rfl, B9, p9.from hh0, f9⟩, fun fs hl => c11.trans (X9.ireturnOut hexec hret rfl (Or.inl rfl) (hb hbytes d46) hl)⟩
end Cmp5
namespace Cmp3
def yN : MethodName := ⟨"java/lang/StringUTF16", "compress", "([CII)[B"⟩
abbrev yB : ByteArray := jdk_52_method_16_code
theorem d0 : decode yB 0 = .ok (.iload_n 2, 1) := by decide +kernel
theorem d1 : decode yB 1 = .ok (.newarray .byte, 2) := by decide +kernel
theorem d3 : decode yB 3 = .ok (.astore_n 3, 1) := by decide +kernel
theorem d4 : decode yB 4 = .ok (.aload_n 0, 1) := by decide +kernel
theorem d5 : decode yB 5 = .ok (.iload_n 1, 1) := by decide +kernel
theorem d6 : decode yB 6 = .ok (.aload_n 3, 1) := by decide +kernel
theorem d7 : decode yB 7 = .ok (.iconst 0, 1) := by decide +kernel
theorem d8 : decode yB 8 = .ok (.iload_n 2, 1) := by decide +kernel
theorem d9 : decode yB 9 = .ok (.invokestatic 115, 3) := by decide +kernel
theorem d12 : decode yB 12 = .ok (.istore 4, 2) := by decide +kernel
theorem d14 : decode yB 14 = .ok (.iload 4, 2) := by decide +kernel
theorem d16 : decode yB 16 = .ok (.iload_n 2, 1) := by decide +kernel
theorem d17 : decode yB 17 = .ok (.if_icmp (.eq) 40, 3) := by decide +kernel
theorem d57 : decode yB 57 = .ok (.aload_n 3, 1) := by decide +kernel
theorem d58 : decode yB 58 = .ok (.areturn, 1) := by decide +kernel
def site : List Cond := [.arrayClass .byte, Cmp5.tab] ++ staticW U16 115 Cmp5.yN
def tab : Cond := tabOf yN yB 6 (some (.array .byte)) site
def P (b : Addr) (A : Cell) (o len : Nat) (args : Array Value) (s : State) : Prop := args = #[.ref b, .int (Int32.ofNat o), .int (Int32.ofNat len)] ∧ Ch b A s ∧ o + len ≤ A.slots.size ∧ len ≤ 536870912 ∧ ∀ i, i < len → ¬ 255 < cv A (o + i)
def E (b : Addr) (A : Cell) (o len : Nat) (r : Option Value) (s u : State) : Prop := NewArr .byte "[B" len (fun j => .int (lo8 (cv A (o + j)))) r s u ∧ u.heap.size = s.heap.size + 1
/-- no char of the range above 255: a new byte[] of their low bytes -/
theorem law (l : Launch) (b : Addr) (A : Cell) (o len : Nat) : Law l yN 3 3 1 18 yB 6 (some (.array .byte)) site (P b A o len) (E b A o len) [] 1 len := by
  refine Law.of_walk (plainFor_of_name (by decide +kernel)) (by decide +kernel) (by decide +kernel) (by decide) (fun _ _ h => by rw [h.1]; rfl) (fun _ U U' hal hh h => ⟨h.1, h.2.1.mv hal hh, h.2.2⟩) (fun r U U' V V' h1 hal h2 h => ⟨NewArr.mv r U U' V V' h1 hal h2 h.1, by rw [h1, h2]; exact h.2⟩) ?_
  intro p e s m args below meth c s₁ X0 hexec hbytes hml hret hlk hnm hown hh0 W hP
  obtain ⟨rfl, hA, l1, l2, hp⟩ := hP
  have a31 := hA.1.2.2.2
  have c1 : Steps p.tables e below (s₁.setTop (entryFrame m #[.ref b, .int (Int32.ofNat o), .int (Int32.ofNat len)] 6)) (s₁.setTop (mkF m 0 #[.val (.ref b), .val (.int (Int32.ofNat o)), .val (.int (Int32.ofNat len)), .unset, .unset, .unset] [])) := entry rfl
  have c2 : Steps p.tables e below (s₁.setTop (entryFrame m #[.ref b, .int (Int32.ofNat o), .int (Int32.ofNat len)] 6)) (s₁.setTop (mkF m 1 #[.val (.ref b), .val (.int (Int32.ofNat o)), .val (.int (Int32.ofNat len)), .unset, .unset, .unset] [.int (Int32.ofNat len)])) := c1.trans (by
    refine XS.iloadN X0.here hexec rfl (hb hbytes d0) rfl ?_
    exact Steps.refl _)
  obtain ⟨T3, B3, X3, ba3, bs3, bv3, bh3, bf3, st3⟩ := X0.anew hexec (atype := .byte) (wk W (.arrayClass .byte)) rfl (by show len * 1 ≤ _; omega) (by omega) (g := (mkF m 1 #[.val (.ref b), .val (.int (Int32.ofNat o)), .val (.int (Int32.ofNat len)), .unset, .unset, .unset] [.int (Int32.ofNat len)])) rfl (hb hbytes d1) (rest := []) rfl (Nat.le_refl _) (by show 0 + len ≤ len; omega)
  rw [hh0] at ba3 st3
  have kp3 : XT.Kept s T3 := (XT.Kept.of_eq hh0).push bh3
  have hA3 := hA.keep X3.warmed.alike (kp3 _ _ hA.1.1)
  have hne : b ≠ s.heap.size := hA.1.ne
  have c4 : Steps p.tables e below (s₁.setTop (entryFrame m #[.ref b, .int (Int32.ofNat o), .int (Int32.ofNat len)] 6)) (T3.setTop (mkF m 3 #[.val (.ref b), .val (.int (Int32.ofNat o)), .val (.int (Int32.ofNat len)), .unset, .unset, .unset] [.ref s.heap.size])) := c2.trans (st3 _ (Steps.refl _))
  have c5 : Steps p.tables e below (s₁.setTop (entryFrame m #[.ref b, .int (Int32.ofNat o), .int (Int32.ofNat len)] 6)) (T3.setTop (mkF m 9 #[.val (.ref b), .val (.int (Int32.ofNat o)), .val (.int (Int32.ofNat len)), .val (.ref s.heap.size), .unset, .unset] [.int (Int32.ofNat len), .int 0, .ref s.heap.size, .int (Int32.ofNat o), .ref b])) := c4.trans (by
    refine XS.astoreN X3.here hexec rfl (hb hbytes d3) rfl rfl rfl ?_
    refine XS.aloadN X3.here hexec rfl (hb hbytes d4) rfl rfl ?_
    refine XS.iloadN X3.here hexec rfl (hb hbytes d5) rfl ?_
    refine XS.aloadN X3.here hexec rfl (hb hbytes d6) rfl rfl ?_
    refine iconstV X3.here hexec rfl 0 (hb hbytes d7) (by decide) ?_
    refine XS.iloadN X3.here hexec rfl (hb hbytes d8) rfl ?_
    exact Steps.refl _)
  obtain ⟨v6, T6, X6, E6, g6⟩ := X3.callS hexec (Cmp5.law l b A s.heap.size B3 o 0 len) hown (wks W (staticW U16 115 Cmp5.yN)) (wk W Cmp5.tab) (W := 0) (Nat.le_of_ble_eq_true rfl) (Nat.le_of_ble_eq_true rfl) (Nat.le_refl _) (by show 0 + len + 0 ≤ len; omega) (g := (mkF m 9 #[.val (.ref b), .val (.int (Int32.ofNat o)), .val (.int (Int32.ofNat len)), .val (.ref s.heap.size), .unset, .unset] [.int (Int32.ofNat len), .int (Int32.ofNat 0), .ref s.heap.size, .int (Int32.ofNat o), .ref b])) rfl (by rw [hml]; rfl) c5 (argsL := [.ref b, .int (Int32.ofNat o), .ref s.heap.size, .int (Int32.ofNat 0), .int (Int32.ofNat len)]) (rest := []) rfl rfl (by show 2 * 0 + 0 ≤ _; decide) (hb hbytes d9) (⟨rfl, hA3, ba3, hne, l1, by rw [bs3]; simp, hp⟩)
  obtain ⟨rfl, B6, p6, f6⟩ := E6
  have c7 : Steps p.tables e below (s₁.setTop (entryFrame m #[.ref b, .int (Int32.ofNat o), .int (Int32.ofNat len)] 6)) (T6.setTop (mkF m 12 #[.val (.ref b), .val (.int (Int32.ofNat o)), .val (.int (Int32.ofNat len)), .val (.ref s.heap.size), .unset, .unset] [.int (Int32.ofNat len)])) := g6
  have c8 : Steps p.tables e below (s₁.setTop (entryFrame m #[.ref b, .int (Int32.ofNat o), .int (Int32.ofNat len)] 6)) (T6.setTop (mkF m 58 #[.val (.ref b), .val (.int (Int32.ofNat o)), .val (.int (Int32.ofNat len)), .val (.ref s.heap.size), .val (.int (Int32.ofNat len)), .unset] [.ref s.heap.size])) := c7.trans (by
    refine XS.istore X6.here hexec rfl (hb hbytes d12) rfl rfl ?_
    refine XS.iload X6.here hexec rfl (hb hbytes d14) rfl ?_
    refine XS.iloadN X6.here hexec rfl (hb hbytes d16) rfl ?_
    refine XS.icmpYes X6.here hexec rfl (pc0 := 17) rfl (hb hbytes d17) rfl (ii_eq_t rfl) (by decide) rfl ?_
    refine XS.aloadN X6.here hexec rfl (hb hbytes d57) rfl rfl ?_
    exact Steps.refl _)
  have X8 := X6.wide (L' := []) (cells' := 1) (slots' := len) (fun x hx hlt => by
    simp only [List.nil_append, copyLocs, List.mem_map, List.mem_range] at hx
    obtain ⟨i, -, rfl⟩ := hx
    exact absurd hlt (Nat.lt_irrefl _)) (Nat.le_refl _) (by omega)
  exact ⟨T6, some (.ref s.heap.size), _, _, _, X8, rfl, rfl, rfl, (fun h => by cases h), ⟨⟨rfl, B6, ba3.like (X3.warmed.alike.symm.trans X6.warmed.alike) p6.1 f6.1 f6.2.1 f6.2.2.1, f6.2.1.trans bv3, by rw [X6.warmed.alike.findClass, f6.1]; exact bf3, by rw [f6.2.2.1, bs3]; simp, fun j hj => by rw [f6.2.2.2 j, if_pos (by omega)]; rfl, kp3.put p6 (Nat.le_refl _)⟩, by rw [p6.2.2, bh3, hh0]; simp⟩, fun fs hl => c8.trans (X8.areturnOut hexec rfl hret rfl (hb hbytes d58) hl)⟩
end Cmp3
namespace CodL
def yN : MethodName := ⟨"java/lang/StringUTF16", "coderFromArrayLen", "([BI)B"⟩
abbrev yB : ByteArray := jdk_52_method_15_code
theorem d0 : decode yB 0 = .ok (.iload_n 1, 1) := by decide +kernel
theorem d1 : decode yB 1 = .ok (.aload_n 0, 1) := by decide +kernel
theorem d2 : decode yB 2 = .ok (.arraylength, 1) := by decide +kernel
theorem d3 : decode yB 3 = .ok (.isub, 1) := by decide +kernel
theorem d4 : decode yB 4 = .ok (.bipush 31, 2) := by decide +kernel
theorem d6 : decode yB 6 = .ok (.iushr, 1) := by decide +kernel
theorem d7 : decode yB 7 = .ok (.i2b, 1) := by decide +kernel
theorem d8 : decode yB 8 = .ok (.ireturn, 1) := by decide +kernel
def site : List Cond := []
def tab : Cond := tabOf yN yB 2 (some .byte) site
def P (d : Addr) (B : Cell) (args : Array Value) (s : State) : Prop := args = #[.ref d, .int (Int32.ofNat B.slots.size)] ∧ Arr .byte d B s
def E (r : Option Value) (s u : State) : Prop := XT.PureE (some (.int 0)) r s u
/-- an array as long as the number of chars: LATIN1 -/
theorem law (l : Launch) (d : Addr) (B : Cell) : Law l yN 2 2 0 0 yB 2 (some .byte) site (P d B) E [] 0 0 := by
  refine Law.of_walk (plainFor_of_name (by decide +kernel)) (by decide +kernel) (by decide +kernel) (by decide) (fun _ _ h => by rw [h.1]; rfl) (fun _ U U' hal hh h => ⟨h.1, h.2.mv hal hh⟩) (fun r U U' V V' h1 hal h2 h => XT.PureE.mv r U U' V V' h1 hal h2 h) ?_
  intro p e s m args below meth c s₁ X0 hexec hbytes hml hret hlk hnm hown hh0 W hP
  obtain ⟨rfl, hB⟩ := hP
  have hB0 := hB.mv X0.warmed.alike hh0
  have c1 : Steps p.tables e below (s₁.setTop (entryFrame m #[.ref d, .int (Int32.ofNat B.slots.size)] 2)) (s₁.setTop (mkF m 0 #[.val (.ref d), .val (.int (Int32.ofNat B.slots.size))] [])) := entry rfl
  have c2 : Steps p.tables e below (s₁.setTop (entryFrame m #[.ref d, .int (Int32.ofNat B.slots.size)] 2)) (s₁.setTop (mkF m 2 #[.val (.ref d), .val (.int (Int32.ofNat B.slots.size))] [.ref d, .int (Int32.ofNat B.slots.size)])) := c1.trans (by
    refine XS.iloadN X0.here hexec rfl (hb hbytes d0) rfl ?_
    refine XS.aloadN X0.here hexec rfl (hb hbytes d1) rfl rfl ?_
    exact Steps.refl _)
  have c3 : Steps p.tables e below (s₁.setTop (entryFrame m #[.ref d, .int (Int32.ofNat B.slots.size)] 2)) (s₁.setTop (mkF m 8 #[.val (.ref d), .val (.int (Int32.ofNat B.slots.size))] [.int (lo8 (ushr (Int32.ofNat B.slots.size - Int32.ofNat B.slots.size) 31))])) := c2.trans (by
    refine X0.alen hexec hB0 rfl rfl (hb hbytes d2) ?_
    refine XS.isub X0.here hexec rfl (hb hbytes d3) rfl ?_
    refine bipushV X0.here hexec rfl 31 (hb hbytes d4) (by decide) ?_
    refine iushr X0.here hexec rfl (hb hbytes d6) rfl ?_
    refine i2b X0.here hexec rfl (hb hbytes d7) rfl ?_
    exact Steps.refl _)
  have e0 : lo8 (ushr (Int32.ofNat B.slots.size - Int32.ofNat B.slots.size) 31) = 0 := by rw [Int32.sub_self]; decide
  rw [e0] at c3
  exact ⟨s₁, some (.int 0), _, _, _, X0, rfl, rfl, rfl, (fun h => by cases h), ⟨rfl, hh0⟩, fun fs hl => c3.trans (X0.ireturnOut hexec hret rfl (Or.inr (Or.inr (Or.inl rfl))) (hb hbytes d8) hl)⟩
end CodL
/-- the String at a is Latin-1 over a new byte[] (the heap's one new cell): the low bytes of the len chars of A from o on; every cell but a is kept -/
def Got (a : Addr) (D : Cell) (fV fC : Field) (A : Cell) (o len : Nat) (r : Option Value) (s u : State) : Prop := r = none ∧ ∃ D' V : Cell, Blank "java/lang/String" a D' u ∧ Same D D' [fV.slot, fC.slot] ∧ D'.slots[fV.slot]? = some (.ref s.heap.size) ∧ D'.slots[fC.slot]? = some (.int 0) ∧ Arr .byte s.heap.size V u ∧ V.vm = .none ∧ u.vm.findClass "[B" = some V.cls ∧ V.slots.size = len ∧ (∀ j, j < len → V.slots[j]? = some (.int (lo8 (cv A (o + j))))) ∧ (∀ (y : Addr) (c : Cell), y ≠ a → s.heap[y]? = some c → u.heap[y]? = some c) ∧ u.heap.size = s.heap.size + 1
theorem Got.mv {a : Addr} {D A : Cell} {fV fC : Field} {o len : Nat} : ∀ r (U U' V V' : State), U'.heap = U.heap → V.vm.Alike V'.vm → V'.heap = V.heap → Got a D fV fC A o len r U V → Got a D fV fC A o len r U' V' :=
  fun r U U' V V' h1 hal h2 ⟨e0, D', X, a1, a2, a3, a4, a5, a6, a7, a8, a9, a10, a11⟩ => ⟨e0, D', X, a1.mv hal h2, a2, by rw [h1]; exact a3, a4, by rw [h1]; exact a5.mv hal h2, a6, by rw [hal.findClass]; exact a7, a8, a9, by rw [h1, h2]; exact a10, by rw [h1, h2]; exact a11⟩
namespace New4
def yN : MethodName := ⟨"java/lang/String", "<init>", "([CIILjava/lang/Void;)V"⟩
abbrev yB : ByteArray := jdk_42_method_149_code
theorem d0 : decode yB 0 = .ok (.aload_n 0, 1) := by decide +kernel
theorem d1 : decode yB 1 = .ok (.invokespecial 1, 3) := by decide +kernel
theorem d4 : decode yB 4 = .ok (.iload_n 3, 1) := by decide +kernel
theorem d5 : decode yB 5 = .ok (.ifCond (.ne) 22, 3) := by decide +kernel
theorem d27 : decode yB 27 = .ok (.getstatic 38, 3) := by decide +kernel
theorem d30 : decode yB 30 = .ok (.ifCond (.eq) 28, 3) := by decide +kernel
theorem d33 : decode yB 33 = .ok (.aload_n 1, 1) := by decide +kernel
theorem d34 : decode yB 34 = .ok (.iload_n 2, 1) := by decide +kernel
theorem d35 : decode yB 35 = .ok (.iload_n 3, 1) := by decide +kernel
theorem d36 : decode yB 36 = .ok (.invokestatic 177, 3) := by decide +kernel
theorem d39 : decode yB 39 = .ok (.astore 5, 2) := by decide +kernel
theorem d41 : decode yB 41 = .ok (.aload_n 0, 1) := by decide +kernel
theorem d42 : decode yB 42 = .ok (.aload 5, 2) := by decide +kernel
theorem d44 : decode yB 44 = .ok (.iload_n 3, 1) := by decide +kernel
theorem d45 : decode yB 45 = .ok (.invokestatic 47, 3) := by decide +kernel
theorem d48 : decode yB 48 = .ok (.putfield 15, 3) := by decide +kernel
theorem d51 : decode yB 51 = .ok (.aload_n 0, 1) := by decide +kernel
theorem d52 : decode yB 52 = .ok (.aload 5, 2) := by decide +kernel
theorem d54 : decode yB 54 = .ok (.putfield 9, 3) := by decide +kernel
theorem d57 : decode yB 57 = .ok (.return_, 1) := by decide +kernel
def site : List Cond := [.fieldLink "java/lang/String" 38 "java/lang/String" "COMPACT_STRINGS" "Z", Cmp3.tab, CodL.tab, .laysFinal "java/lang/String" "java/lang/String" "value" "[B", .fieldLink "java/lang/String" 9 "java/lang/String" "value" "[B", .laysFinal "java/lang/String" "java/lang/String" "coder" "B", .fieldLink "java/lang/String" 15 "java/lang/String" "coder" "B"] ++ objW "java/lang/String" 1 ++ staticW "java/lang/String" 177 Cmp3.yN ++ staticW "java/lang/String" 47 CodL.yN
def tab : Cond := tabOf yN yB 6 none site
def P (a : Addr) (D : Cell) (fV fC : Field) (b : Addr) (A : Cell) (z : Int32) (o len : Nat) (args : Array Value) (s : State) : Prop := args = #[.ref a, .ref b, .int (Int32.ofNat o), .int (Int32.ofNat len), .null] ∧ Blank "java/lang/String" a D s ∧ Found "java/lang/String" "value" "[B" fV s ∧ Found "java/lang/String" "coder" "B" fC s ∧ Ch b A s ∧ StaticIs s "java/lang/String" "COMPACT_STRINGS" "Z" (.int z) ∧ ¬ z = 0 ∧ 0 < len ∧ o + len ≤ A.slots.size ∧ len ≤ 536870912 ∧ ∀ i, i < len → ¬ 255 < cv A (o + i)
def E (a : Addr) (D : Cell) (fV fC : Field) (A : Cell) (o len : Nat) (r : Option Value) (s u : State) : Prop := Got a D fV fC A o len r s u
/-- len > 0, no char of the range above 255: a Latin-1 String of their low bytes -/
theorem law (l : Launch) (a : Addr) (D : Cell) (fV fC : Field) (b : Addr) (A : Cell) (z : Int32) (o len : Nat) : Law l yN 5 4 2 35 yB 6 none site (P a D fV fC b A z o len) (E a D fV fC A o len) [⟨a, fC.slot⟩, ⟨a, fV.slot⟩] 1 len := by
  refine Law.of_walk (plainFor_of_name (by decide +kernel)) (by decide +kernel) (by decide +kernel) (by decide) (fun _ _ h => by rw [h.1]; rfl) (fun _ U U' hal hh h => ⟨h.1, h.2.1.mv hal hh, h.2.2.1.al hal, h.2.2.2.1.al hal, h.2.2.2.2.1.mv hal hh, h.2.2.2.2.2.1.there hal hh, h.2.2.2.2.2.2⟩) (fun r U U' V V' h1 hal h2 h => Got.mv r U U' V V' h1 hal h2 h) ?_
  intro p e s m args below meth c s₁ X0 hexec hbytes hml hret hlk hnm hown hh0 W hP
  obtain ⟨rfl, hB, f1, f2, hA, s1, hz, l0, l1, l2, hp⟩ := hP
  have a31 := hA.1.2.2.2
  have c1 : Steps p.tables e below (s₁.setTop (entryFrame m #[.ref a, .ref b, .int (Int32.ofNat o), .int (Int32.ofNat len), .null] 6)) (s₁.setTop (mkF m 0 #[.val (.ref a), .val (.ref b), .val (.int (Int32.ofNat o)), .val (.int (Int32.ofNat len)), .val .null, .unset] [])) := entry rfl
  have c2 : Steps p.tables e below (s₁.setTop (entryFrame m #[.ref a, .ref b, .int (Int32.ofNat o), .int (Int32.ofNat len), .null] 6)) (s₁.setTop (mkF m 1 #[.val (.ref a), .val (.ref b), .val (.int (Int32.ofNat o)), .val (.int (Int32.ofNat len)), .val .null, .unset] [.ref a])) := c1.trans (by
    refine XS.aloadN X0.here hexec rfl (hb hbytes d0) rfl rfl ?_
    exact Steps.refl _)
  obtain ⟨T3, X3, q3, st3⟩ := X0.oinit hexec hown (wks W (objW "java/lang/String" 1)) (g := (mkF m 1 #[.val (.ref a), .val (.ref b), .val (.int (Int32.ofNat o)), .val (.int (Int32.ofNat len)), .val .null, .unset] [.ref a])) rfl (by rw [hml]; rfl) (rest := []) rfl (hb hbytes d1) (W := 0) (by show 2 * 0 + 0 ≤ _; decide) (Nat.le_of_ble_eq_true rfl) (Nat.le_of_ble_eq_true rfl)
  have hh3 := q3.trans hh0
  have c4 : Steps p.tables e below (s₁.setTop (entryFrame m #[.ref a, .ref b, .int (Int32.ofNat o), .int (Int32.ofNat len), .null] 6)) (T3.setTop (mkF m 27 #[.val (.ref a), .val (.ref b), .val (.int (Int32.ofNat o)), .val (.int (Int32.ofNat len)), .val .null, .unset] [])) := (c2.trans (st3 _ (Steps.refl _))).trans (by
    refine XS.iloadN X3.here hexec rfl (hb hbytes d4) rfl ?_
    refine XS.ifYes X3.here hexec rfl (pc0 := 5) rfl (hb hbytes d5) rfl (i0_ne_t (nz32 (by omega) l0)) (by decide) rfl ?_
    exact Steps.refl _)
  obtain ⟨T5, X5, q5, st5⟩ := X3.sget hexec hown (wk W (.fieldLink "java/lang/String" 38 "java/lang/String" "COMPACT_STRINGS" "Z")) s1 (fun _ _ h => by rw [hh3]; exact h) (g := (mkF m 27 #[.val (.ref a), .val (.ref b), .val (.int (Int32.ofNat o)), .val (.int (Int32.ofNat len)), .val .null, .unset] [])) rfl (hb hbytes d27)
  have hh5 := q5.trans hh3
  have c6 : Steps p.tables e below (s₁.setTop (entryFrame m #[.ref a, .ref b, .int (Int32.ofNat o), .int (Int32.ofNat len), .null] 6)) (T5.setTop (mkF m 30 #[.val (.ref a), .val (.ref b), .val (.int (Int32.ofNat o)), .val (.int (Int32.ofNat len)), .val .null, .unset] [.int z])) := c4.trans (st5 _ (Steps.refl _))
  have c7 : Steps p.tables e below (s₁.setTop (entryFrame m #[.ref a, .ref b, .int (Int32.ofNat o), .int (Int32.ofNat len), .null] 6)) (T5.setTop (mkF m 36 #[.val (.ref a), .val (.ref b), .val (.int (Int32.ofNat o)), .val (.int (Int32.ofNat len)), .val .null, .unset] [.int (Int32.ofNat len), .int (Int32.ofNat o), .ref b])) := c6.trans (by
    refine XS.ifNo X5.here hexec rfl (hb hbytes d30) rfl (i0_eq_f hz) ?_
    refine XS.aloadN X5.here hexec rfl (hb hbytes d33) rfl rfl ?_
    refine XS.iloadN X5.here hexec rfl (hb hbytes d34) rfl ?_
    refine XS.iloadN X5.here hexec rfl (hb hbytes d35) rfl ?_
    exact Steps.refl _)
  obtain ⟨v8, T8, X8, E8, g8⟩ := X5.callS hexec (Cmp3.law l b A o len) hown (wks W (staticW "java/lang/String" 177 Cmp3.yN)) (wk W Cmp3.tab) (W := 0) (Nat.le_of_ble_eq_true rfl) (Nat.le_of_ble_eq_true rfl) (Nat.le_refl _) (by show 0 + len ≤ len; omega) (g := (mkF m 36 #[.val (.ref a), .val (.ref b), .val (.int (Int32.ofNat o)), .val (.int (Int32.ofNat len)), .val .null, .unset] [.int (Int32.ofNat len), .int (Int32.ofNat o), .ref b])) rfl (by rw [hml]; rfl) c7 (argsL := [.ref b, .int (Int32.ofNat o), .int (Int32.ofNat len)]) (rest := []) rfl rfl (by show 2 * 0 + 0 ≤ _; decide) (hb hbytes d36) (⟨rfl, hA.mv X5.warmed.alike hh5, l1, l2, hp⟩)
  obtain ⟨e8, z8⟩ := E8
  obtain ⟨rfl, N, n1, n2, n3, n4, n5, n6⟩ := NewArr.mv _ T5 s _ _ hh5.symm (Vm.Alike.refl _) rfl e8
  rw [hh5] at z8
  have hB1 := hB.keep X8.warmed.alike (n6 _ _ hB.1)
  have hne : s.heap.size ≠ a := (Nat.ne_of_lt (Array.getElem?_eq_some_iff.mp hB.1).1).symm
  have c9 : Steps p.tables e below (s₁.setTop (entryFrame m #[.ref a, .ref b, .int (Int32.ofNat o), .int (Int32.ofNat len), .null] 6)) (T8.setTop (mkF m 39 #[.val (.ref a), .val (.ref b), .val (.int (Int32.ofNat o)), .val (.int (Int32.ofNat len)), .val .null, .unset] [.ref s.heap.size])) := g8
  have c10 : Steps p.tables e below (s₁.setTop (entryFrame m #[.ref a, .ref b, .int (Int32.ofNat o), .int (Int32.ofNat len), .null] 6)) (T8.setTop (mkF m 45 #[.val (.ref a), .val (.ref b), .val (.int (Int32.ofNat o)), .val (.int (Int32.ofNat len)), .val .null, .val (.ref s.heap.size)] [.int (Int32.ofNat N.slots.size), .ref s.heap.size, .ref a])) := by
    have hc : Steps p.tables e below (s₁.setTop (entryFrame m #[.ref a, .ref b, .int (Int32.ofNat o), .int (Int32.ofNat len), .null] 6)) (T8.setTop (mkF m 45 #[.val (.ref a), .val (.ref b), .val (.int (Int32.ofNat o)), .val (.int (Int32.ofNat len)), .val .null, .val (.ref s.heap.size)] [.int (Int32.ofNat len), .ref s.heap.size, .ref a])) := c9.trans (by
      refine XS.astore X8.here hexec rfl (hb hbytes d39) rfl rfl rfl ?_
      refine XS.aloadN X8.here hexec rfl (hb hbytes d41) rfl rfl ?_
      refine XS.aload X8.here hexec rfl (hb hbytes d42) rfl rfl ?_
      refine XS.iloadN X8.here hexec rfl (hb hbytes d44) rfl ?_
      exact Steps.refl _)
    rw [n4]; exact hc
  obtain ⟨v11, T11, X11, E11, g11⟩ := X8.callS hexec (CodL.law l s.heap.size N) hown (wks W (staticW "java/lang/String" 47 CodL.yN)) (wk W CodL.tab) (W := 1) (Nat.le_of_ble_eq_true rfl) (Nat.le_of_ble_eq_true rfl) (Nat.le_refl _) (by show 0 + len + 0 ≤ len; omega) (g := (mkF m 45 #[.val (.ref a), .val (.ref b), .val (.int (Int32.ofNat o)), .val (.int (Int32.ofNat len)), .val .null, .val (.ref s.heap.size)] [.int (Int32.ofNat N.slots.size), .ref s.heap.size, .ref a])) rfl (by rw [hml]; rfl) c10 (argsL := [.ref s.heap.size, .int (Int32.ofNat N.slots.size)]) (rest := [.ref a]) rfl rfl (by show 2 * 0 + (1 + 0) ≤ _; decide) (hb hbytes d45) (⟨rfl, n1⟩)
  obtain ⟨rfl, q11⟩ := E11
  have hB11 := hB1.mv (X8.warmed.alike.symm.trans X11.warmed.alike) q11
  have c12 : Steps p.tables e below (s₁.setTop (entryFrame m #[.ref a, .ref b, .int (Int32.ofNat o), .int (Int32.ofNat len), .null] 6)) (T11.setTop (mkF m 48 #[.val (.ref a), .val (.ref b), .val (.int (Int32.ofNat o)), .val (.int (Int32.ofNat len)), .val .null, .val (.ref s.heap.size)] [.int 0, .ref a])) := g11
  obtain ⟨T13, X13, p13, bl13, sl13, st13⟩ := X11.finit hexec hown (wk W (.fieldLink "java/lang/String" 15 "java/lang/String" "coder" "B")) (Or.inr ⟨_, (wk W (.laysFinal "java/lang/String" "java/lang/String" "coder" "B"))⟩) (Or.inl ⟨rfl, hnm⟩) f2 (Or.inl rfl) hB11 (t := .byte) (by decide +kernel) rfl (g := (mkF m 48 #[.val (.ref a), .val (.ref b), .val (.int (Int32.ofNat o)), .val (.int (Int32.ofNat len)), .val .null, .val (.ref s.heap.size)] [.int 0, .ref a])) rfl (rest := []) rfl (hb hbytes d48)
  have c14 : Steps p.tables e below (s₁.setTop (entryFrame m #[.ref a, .ref b, .int (Int32.ofNat o), .int (Int32.ofNat len), .null] 6)) (T13.setTop (mkF m 54 #[.val (.ref a), .val (.ref b), .val (.int (Int32.ofNat o)), .val (.int (Int32.ofNat len)), .val .null, .val (.ref s.heap.size)] [.ref s.heap.size, .ref a])) := (c12.trans (st13 _ (Steps.refl _))).trans (by
    refine XS.aloadN X13.here hexec rfl (hb hbytes d51) rfl rfl ?_
    refine XS.aload X13.here hexec rfl (hb hbytes d52) rfl rfl ?_
    exact Steps.refl _)
  obtain ⟨T15, X15, p15, bl15, sl15, st15⟩ := X13.finit hexec hown (wk W (.fieldLink "java/lang/String" 9 "java/lang/String" "value" "[B")) (Or.inr ⟨_, (wk W (.laysFinal "java/lang/String" "java/lang/String" "value" "[B"))⟩) (Or.inl ⟨rfl, hnm⟩) f1 (Or.inl rfl) bl13 (t := (.array .byte)) (by decide +kernel) rfl (g := (mkF m 54 #[.val (.ref a), .val (.ref b), .val (.int (Int32.ofNat o)), .val (.int (Int32.ofNat len)), .val .null, .val (.ref s.heap.size)] [.ref s.heap.size, .ref a])) rfl (rest := []) rfl (hb hbytes d54)
  have c16 : Steps p.tables e below (s₁.setTop (entryFrame m #[.ref a, .ref b, .int (Int32.ofNat o), .int (Int32.ofNat len), .null] 6)) (T15.setTop (mkF m 57 #[.val (.ref a), .val (.ref b), .val (.int (Int32.ofNat o)), .val (.int (Int32.ofNat len)), .val .null, .val (.ref s.heap.size)] [])) := c14.trans (st15 _ (Steps.refl _))
  have ap := apart (Or.inr ⟨_, (wk W (.laysFinal "java/lang/String" "java/lang/String" "value" "[B"))⟩) (Or.inr ⟨_, (wk W (.laysFinal "java/lang/String" "java/lang/String" "coder" "B"))⟩) f1 f2 (t₁ := .array .byte) (t₂ := .byte) (by decide +kernel) (by decide +kernel) (by decide)
  have al := X8.warmed.alike.symm.trans X15.warmed.alike
  have n7 : T11.heap[s.heap.size]? = some N := by rw [q11]; exact n1.1
  exact ⟨T15, none, _, _, _, X15, by simp, rfl, by omega, (fun _ => rfl), ⟨rfl, _, N, bl15, ((Same.refl D _).set _ (by simp)).set _ (by simp), sl15, (Cell.slots_setSlot_ne _ ap).trans sl13, n1.keep al (p15.other hne (p13.other hne n7)), n2, by rw [al.findClass]; exact n3, n4, n5, fun y c h1 h2 => p15.other h1 (p13.other h1 (by rw [q11]; exact n6 y c h2)), by rw [p15.2.2, p13.2.2, q11]; exact z8⟩, fun fs hl => c16.trans (X15.returnOut hexec hret (hb hbytes d57) hl)⟩
end New4
namespace New1
def yN : MethodName := ⟨"java/lang/String", "<init>", "([C)V"⟩
abbrev yB : ByteArray := jdk_42_method_3_code
theorem d0 : decode yB 0 = .ok (.aload_n 0, 1) := by decide +kernel
theorem d1 : decode yB 1 = .ok (.aload_n 1, 1) := by decide +kernel
theorem d2 : decode yB 2 = .ok (.iconst 0, 1) := by decide +kernel
theorem d3 : decode yB 3 = .ok (.aload_n 1, 1) := by decide +kernel
theorem d4 : decode yB 4 = .ok (.arraylength, 1) := by decide +kernel
theorem d5 : decode yB 5 = .ok (.aconst_null, 1) := by decide +kernel
theorem d6 : decode yB 6 = .ok (.invokespecial 27, 3) := by decide +kernel
theorem d9 : decode yB 9 = .ok (.return_, 1) := by decide +kernel
def site : List Cond := [New4.tab] ++ initW "java/lang/String" 27 New4.yN
def tab : Cond := tabOf yN yB 2 none site
def P (a : Addr) (D : Cell) (fV fC : Field) (b : Addr) (A : Cell) (z : Int32) (args : Array Value) (s : State) : Prop := args = #[.ref a, .ref b] ∧ Blank "java/lang/String" a D s ∧ Found "java/lang/String" "value" "[B" fV s ∧ Found "java/lang/String" "coder" "B" fC s ∧ Ch b A s ∧ StaticIs s "java/lang/String" "COMPACT_STRINGS" "Z" (.int z) ∧ ¬ z = 0 ∧ 0 < A.slots.size ∧ A.slots.size ≤ 536870912 ∧ ∀ i, i < A.slots.size → ¬ 255 < cv A i
def E (a : Addr) (D : Cell) (fV fC : Field) (A : Cell) (r : Option Value) (s u : State) : Prop := Got a D fV fC A 0 A.slots.size r s u
/-- new String(chars), not empty, no char above 255: a Latin-1 String of their low bytes -/
theorem law (l : Launch) (a : Addr) (D : Cell) (fV fC : Field) (b : Addr) (A : Cell) (z : Int32) : Law l yN 2 1 3 52 yB 2 none site (P a D fV fC b A z) (E a D fV fC A) [⟨a, fC.slot⟩, ⟨a, fV.slot⟩] 1 A.slots.size := by
  refine Law.of_walk (plainFor_of_name (by decide +kernel)) (by decide +kernel) (by decide +kernel) (by decide) (fun _ _ h => by rw [h.1]; rfl) (fun _ U U' hal hh h => ⟨h.1, h.2.1.mv hal hh, h.2.2.1.al hal, h.2.2.2.1.al hal, h.2.2.2.2.1.mv hal hh, h.2.2.2.2.2.1.there hal hh, h.2.2.2.2.2.2⟩) (fun r U U' V V' h1 hal h2 h => Got.mv r U U' V V' h1 hal h2 h) ?_
  intro p e s m args below meth c s₁ X0 hexec hbytes hml hret hlk hnm hown hh0 W hP
  obtain ⟨rfl, hB, f1, f2, hA, s1, hz, l0, l2, hp⟩ := hP
  have c1 : Steps p.tables e below (s₁.setTop (entryFrame m #[.ref a, .ref b] 2)) (s₁.setTop (mkF m 0 #[.val (.ref a), .val (.ref b)] [])) := entry rfl
  have c2 : Steps p.tables e below (s₁.setTop (entryFrame m #[.ref a, .ref b] 2)) (s₁.setTop (mkF m 6 #[.val (.ref a), .val (.ref b)] [.null, .int (Int32.ofNat A.slots.size), .int 0, .ref b, .ref a])) := c1.trans (by
    refine XS.aloadN X0.here hexec rfl (hb hbytes d0) rfl rfl ?_
    refine XS.aloadN X0.here hexec rfl (hb hbytes d1) rfl rfl ?_
    refine iconstV X0.here hexec rfl 0 (hb hbytes d2) (by decide) ?_
    refine XS.aloadN X0.here hexec rfl (hb hbytes d3) rfl rfl ?_
    refine X0.alen hexec (hA.1.mv X0.warmed.alike hh0) rfl rfl (hb hbytes d4) ?_
    refine XS.aconstNull X0.here hexec rfl (hb hbytes d5) ?_
    exact Steps.refl _)
  obtain ⟨v3, T3, X3, E3, g3⟩ := X0.callN hexec (New4.law l a D fV fC b A z 0 A.slots.size) rfl hown (wks W (initW "java/lang/String" 27 New4.yN)) (W New4.tab (by simp only [site, List.mem_cons, List.mem_append, true_or, or_true])) (W := 0) (Nat.le_of_ble_eq_true rfl) (Nat.le_of_ble_eq_true rfl) (Nat.le_refl _) (by show 0 + A.slots.size ≤ A.slots.size; omega) (g := (mkF m 6 #[.val (.ref a), .val (.ref b)] [.null, .int (Int32.ofNat A.slots.size), .int (Int32.ofNat 0), .ref b, .ref a])) rfl (by rw [hml]; rfl) c2 (argsL := [.ref b, .int (Int32.ofNat 0), .int (Int32.ofNat A.slots.size), .null]) (rest := []) rfl rfl (by show 2 * 0 + 0 ≤ _; decide) (hb hbytes d6) (⟨rfl, hB.mv X0.warmed.alike hh0, f1.al X0.warmed.alike, f2.al X0.warmed.alike, hA.mv X0.warmed.alike hh0, s1.there X0.warmed.alike hh0, hz, l0, by omega, l2, fun i hi => by rw [Nat.zero_add]; exact hp i hi⟩)
  have e0 := Got.mv _ s₁ s _ _ hh0.symm (Vm.Alike.refl _) rfl E3
  obtain rfl := e0.1
  have c4 : Steps p.tables e below (s₁.setTop (entryFrame m #[.ref a, .ref b] 2)) (T3.setTop (mkF m 9 #[.val (.ref a), .val (.ref b)] [])) := g3
  exact ⟨T3, none, _, _, _, X3, by simp, rfl, by omega, (fun _ => rfl), e0, fun fs hl => c4.trans (X3.returnOut hexec hret (hb hbytes d9) hl)⟩
theorem pays {l : Launch} {R : Room} {p : Program} {e : Env} {below : List Frame} {s : State} {sargs : Array Value} {len W : Nat} (a : Addr) (D : Cell) (fV fC : Field) (b : Addr) (A : Cell) (z : Int32) (htab : tab.before sargs s = true) (hfr : 4 ≤ R.frames) (hlo : W + 65 ≤ R.locals) :
    Back l R p e below s sargs yN len W (fun A₁ a₁ => A₁.cells + 1 ≤ R.cells ∧ A₁.slots + A.slots.size ≤ R.slots ∧ P a D fV fC b A z a₁ A₁.U) (fun A₁ _ v₁ B₁ => E a D fV fC A v₁ A₁.U B₁.U ∧ B₁.locs = A₁.locs ++ [⟨a, fC.slot⟩, ⟨a, fV.slot⟩] ∧ B₁.cells = A₁.cells + 1 ∧ B₁.slots = A₁.slots + A.slots.size) :=
  (law l a D fV fC b A z).pays htab hfr (by omega)
end New1
end StrChars
namespace StrChars.Road
open Jvm Sem ClassFile Op Lib Jvm.Stand Jvm.Free Jvm.Free.XT
open Jvm.Lib.Cold (StaticIs)
abbrev ST : String := "java/lang/String"
/-- every table word that New1's law asks, flat -/
abbrev words : List Jvm.Cond := [.code New1.yN New1.yB 2 none, .initialized ST, .methodLink ST 27 New4.yN, .instanceMethod New4.yN,
  .code New4.yN New4.yB 6 none, .fieldLink ST 38 ST "COMPACT_STRINGS" "Z", .laysFinal ST ST "value" "[B", .fieldLink ST 9 ST "value" "[B", .laysFinal ST ST "coder" "B", .fieldLink ST 15 ST "coder" "B",
  .methodLink ST 1 Lib.objectInit, .instanceMethod Lib.objectInit, .code Lib.objectInit ⟨#[0xb1]⟩ 1 none, .methodLink ST 177 Cmp3.yN, .static Cmp3.yN, .methodLink ST 47 CodL.yN, .static CodL.yN,
  .code Cmp3.yN Cmp3.yB 6 (some (.array .byte)), .initialized U16, .arrayClass .byte, .methodLink U16 115 Cmp5.yN, .static Cmp5.yN, .code Cmp5.yN Cmp5.yB 7 (some .int), .code CodL.yN CodL.yB 2 (some .byte)]
theorem tab_of {a : Array Value} {s : State} (h : ∀ w ∈ words, w.before a s = true) : New1.tab.before a s = true := by
  have h5 : Cmp5.tab.before a s = true := unparts (wk h (.code Cmp5.yN Cmp5.yB 7 (some .int))) (wks h (.initialized Cmp5.yN.cls :: Cmp5.site))
  have hc : CodL.tab.before a s = true := unparts (wk h (.code CodL.yN CodL.yB 2 (some .byte))) (wks h (.initialized CodL.yN.cls :: CodL.site))
  have q5 : ∀ w ∈ Cmp5.tab :: words, w.before a s = true := fun w hw => (List.mem_cons.mp hw).elim (fun e => e ▸ h5) (h w)
  have h3 : Cmp3.tab.before a s = true := unparts (wk q5 (.code Cmp3.yN Cmp3.yB 6 (some (.array .byte)))) (wks q5 (.initialized Cmp3.yN.cls :: Cmp3.site))
  have q3 : ∀ w ∈ Cmp3.tab :: CodL.tab :: words, w.before a s = true := fun w hw => (List.mem_cons.mp hw).elim (fun e => e ▸ h3) fun hw => (List.mem_cons.mp hw).elim (fun e => e ▸ hc) (h w)
  have h4 : New4.tab.before a s = true := unparts (wk q3 (.code New4.yN New4.yB 6 none)) (wks q3 (.initialized New4.yN.cls :: New4.site))
  have q4 : ∀ w ∈ New4.tab :: words, w.before a s = true := fun w hw => (List.mem_cons.mp hw).elim (fun e => e ▸ h4) (h w)
  exact unparts (wk q4 (.code New1.yN New1.yB 2 none)) (wks q4 (.initialized New1.yN.cls :: New1.site))
/-- the words ride from the start Z to the walk's own state -/
theorem moved {Z s : State} {a0 args : Array Value} (hZ : Z.Warmed39 s.vm) (hw : ∀ d ∈ words, d.before a0 Z = true) : ∀ d ∈ words, d.before args s = true := fun d hd => by
  have q := hw d hd
  have t : ∀ d ∈ words, d = .arrayClass .byte ∨ (d.onTables && d.keepsFace) = true := by decide +kernel
  rcases t d hd with rfl | t
  · exact RoadKit.mvA hZ q
  · exact RoadKit.mv hZ q t
/-- WHAT COMES BACK, over the tables of the start Z: h the heap at the call, h' behind it -/
def Q (Z : State) (x : Addr) (A : Cell) (h : Heap) (v : Option Value) (h' : Heap) (L : List Loc) : Prop := v = none ∧ (∀ y ∈ L, y.base = x) ∧ RoadKit.Keep h h' [x] ∧ h'.size = h.size + 1 ∧ RoadKit.Exa Z h' x ST ∧ RoadKit.Fld Z h' x ST "value" "[B" (.ref h.size) ∧ RoadKit.Fld Z h' x ST "coder" "B" (.int 0) ∧
  (∃ V : Cell, RoadKit.Arr Z h' h.size V .byte ∧ V.vm = .none ∧ Z.vm.findClass "[B" = some V.cls ∧ V.slots.size = A.slots.size ∧ ∀ j, j < A.slots.size → V.slots[j]? = some (.int (lo8 (cv A j)))) ∧
  ∀ (O n d : String) (w : Value), RoadKit.Fld Z h x O n d w → RoadKit.slotOf Z O n d ≠ RoadKit.slotOf Z ST "value" "[B" → RoadKit.slotOf Z O n d ≠ RoadKit.slotOf Z ST "coder" "B" → RoadKit.Fld Z h' x O n d w
/-- **new String(chars) AT A CALL, IN THE ROAD'S FORM**: for specialBack behind newO: x the fresh String, b the char[] with the cell A -/
theorem back {p : Program} {l : Launch} {e : Env} {R : Room} {s : State} {args : Array Value} {below : List Frame} {len W : Nat} {Z : State} {a0 : Array Value} {h : Heap} (hZ : Z.Warmed39 s.vm) (hw : ∀ d ∈ words, d.before a0 Z = true) {kI : Nat} (wi : (Jvm.Cond.instantiable ST kI).before a0 Z = true)
    {x b : Addr} {A : Cell} {z : Int32} {v0 c0 : Value} (E : RoadKit.Exa Z h x ST) (V : RoadKit.Fld Z h x ST "value" "[B" v0) (C : RoadKit.Fld Z h x ST "coder" "B" c0) (K : RoadKit.Arr Z h b A .char) (hty : Typed .char A) (S : RoadKit.Sta Z h ST "COMPACT_STRINGS" "Z" (.int z)) (hz : ¬ z = 0)
    (l0 : 0 < A.slots.size) (l2 : A.slots.size ≤ 536870912) (hp : ∀ i, i < A.slots.size → ¬ 255 < cv A i) (hfr : 4 ≤ R.frames) (hlo : W + 65 ≤ R.locals) :
    Back l R p e below s args New1.yN len W (fun P a => a = #[.ref x, .ref b] ∧ P.U.heap = h ∧ P.cells + 1 ≤ R.cells ∧ P.slots + A.slots.size ≤ R.slots)
      (fun P _ v B => ∃ L, Q Z x A h v B.U.heap L ∧ B.locs = P.locs ++ L ∧ B.cells = P.cells + 1 ∧ B.slots = P.slots + A.slots.size) := by
  intro m meth c P g ig mk a X hg hsize hdg hW hn hp'
  obtain ⟨rfl, rfl, r1, r2⟩ := hp'
  have al : Z.vm.Alike P.U.vm := hZ.alike.trans X.warmed.alike
  obtain ⟨D, cfV, kV, iV, fV, hD, gV, stV, knV, obV, asV, slV⟩ := id V
  obtain ⟨D', cfC, kC, iC, fC, hD', gC, stC, -, -, asC, slC⟩ := id C
  cases hD.symm.trans hD'
  obtain ⟨D2, kD, e1, e2, e3, e4, e5⟩ := id E
  cases hD.symm.trans e1
  obtain ⟨c2, k2, i1, i2, i3, -⟩ := Cond.instantiable_spec wi
  cases e2.symm.trans i1
  cases e3.symm.trans i2
  obtain ⟨kU, u1, u2⟩ := al.2.2 _ _ e3
  have hB : Blank ST x D P.U := ⟨hD, ⟨knV, fun q hq => by rw [hq] at obV; cases obV⟩, by rw [al.findClass]; exact e2, kU, u1, by rw [u2]; exact i3, by rw [u2]; exact e5 i3⟩
  have F1 : Found ST "value" "[B" fV P.U := ⟨SBG.found_only al ⟨cfV, kV, iV, gV⟩, stV⟩
  have F2 : Found ST "coder" "B" fC P.U := ⟨SBG.found_only al ⟨cfC, kC, iC, gC⟩, stC⟩
  have hA : Ch b A P.U := ⟨⟨K.1, State.isArrayOf_alike al K.2.1, K.2.2, by omega⟩, hty⟩
  have hS : StaticIs P.U ST "COMPACT_STRINGS" "Z" (.int z) := by
    obtain ⟨cfS, iS, kS, fS, st, cS, t1, t2, t3, t4, t5, t6, t7⟩ := S
    exact StaticIs.there (s := { Z with heap := P.U.heap }) ⟨cfS, iS, kS, fS, st, cS, t1, t2, t3, t4, t5, (fun q => by rw [q] at t6; cases t6), t7⟩ al rfl
  obtain ⟨v, B, X', ⟨⟨hv, E', V', q1, q2, q3, q4, q5, q6, q7, q8, q9, q10, q11⟩, hl, hc, hs⟩, st⟩ := New1.pays x D fV fC b A z (tab_of (moved hZ hw)) hfr hlo m meth c P g ig mk _ X hg hsize hdg hW hn ⟨r1, r2, rfl, hB, F1, F2, hA, hS, hz, l0, l2, hp⟩
  have al' : Z.vm.Alike B.U.vm := hZ.alike.trans X'.warmed.alike
  have hsz : E'.slots.size = D.slots.size := by
    obtain ⟨-, -, -, kB, w1, w2, w3⟩ := q1
    obtain ⟨kB', y1, y2⟩ := al'.2.2 _ _ e3
    rw [q2.2.1] at w1
    cases w1.symm.trans y1
    rw [w3, e5 i3, y2]
  refine ⟨v, B, X', ⟨_, ⟨hv, ?_, ⟨by omega, fun y cy hy hn' => q10 y cy (by simpa using hn') hy, fun y cy hy => ?_⟩, q11, ⟨E', _, q1.1, by rw [q2.2.1]; exact e2, by rw [q2.2.1]; exact e3, by rw [q2.1]; exact obV, fun _ => by rw [hsz]; exact e5 i3⟩,
    ⟨E', cfV, kV, iV, fV, q1.1, gV, stV, by rw [q2.1]; exact knV, by rw [q2.1]; exact obV, by rw [q2.2.1]; exact asV, q3⟩, ⟨E', cfC, kC, iC, fC, q1.1, gC, stC, by rw [q2.1]; exact knV, by rw [q2.1]; exact obV, by rw [q2.2.1]; exact asC, q4⟩,
    ⟨V', ⟨q5.1, State.isArrayOf_alike al'.symm q5.2.1, q5.2.2.1⟩, q6, by rw [← al'.findClass]; exact q7, q8, fun j hj => by have := q9 j hj; rwa [Nat.zero_add] at this⟩, fun O n d w F n1 n2 => ?_⟩, hl, hc, hs⟩, st⟩
  · intro y hy
    simp only [List.mem_cons, List.not_mem_nil, or_false] at hy
    rcases hy with rfl | rfl <;> rfl
  · by_cases q : y = x
    · subst q
      cases hD.symm.trans hy
      exact ⟨E', q1.1, q2.2.1, q2.1, hsz⟩
    · exact ⟨cy, q10 y cy q hy, rfl, rfl, rfl⟩
  · obtain ⟨D3, cf, k, i, f, g1, g2, g3, g4, g5, g6, g7⟩ := F
    cases hD.symm.trans g1
    simp only [RoadKit.slotOf, g2, gV, gC, Option.map_some, Option.getD_some] at n1 n2
    exact ⟨E', cf, k, i, f, q1.1, g2, g3, by rw [q2.1]; exact g4, by rw [q2.1]; exact g5, by rw [q2.2.1]; exact g6, by rw [q2.2.2 f.slot (by simp [n1, n2])]; exact g7⟩
end StrChars.Road
namespace StrChars.Road
open Jvm Sem ClassFile Op Lib Jvm.Stand Jvm.Free Jvm.Free.XT
/-- WHAT COMES BACK, the byte[] as a list of values -/
def QA (Z : State) (x : Addr) (zn : Int32) (cs : List Int32) (h : Heap) (v : Option Value) (h' : Heap) (L : List Loc) : Prop := v = none ∧ (∀ y ∈ L, y.base = x) ∧ RoadKit.Keep h h' [x] ∧ h'.size = h.size + 1 ∧ RoadKit.Exa Z h' x ST ∧ RoadKit.Fld Z h' x ST "value" "[B" (.ref h.size) ∧ RoadKit.Fld Z h' x ST "coder" "B" (.int 0) ∧
  (∃ kb, Z.vm.findClass "[B" = some kb ∧ RoadKit.Arv Z h' h.size kb .byte zn (cs.map fun c => .int (lo8 c)) (.int 0)) ∧
  ∀ (O n d : String) (w : Value), RoadKit.Fld Z h x O n d w → RoadKit.slotOf Z O n d ≠ RoadKit.slotOf Z ST "value" "[B" → RoadKit.slotOf Z O n d ≠ RoadKit.slotOf Z ST "coder" "B" → RoadKit.Fld Z h' x O n d w
/-- **new String(chars) AT A CALL, THE ARRAYS AS LISTS**: the char[] at b holds cs, not empty, no char above 255 -/
theorem backArv {p : Program} {l : Launch} {e : Env} {R : Room} {s : State} {args : Array Value} {below : List Frame} {len W : Nat} {Z : State} {a0 : Array Value} {h : Heap} (hZ : Z.Warmed39 s.vm) (hw : ∀ d ∈ words, d.before a0 Z = true) {kI : Nat} (wi : (Jvm.Cond.instantiable ST kI).before a0 Z = true)
    {x b : Addr} {k : ClassId} {zn z : Int32} {cs : List Int32} {dv v0 c0 : Value} (E : RoadKit.Exa Z h x ST) (V : RoadKit.Fld Z h x ST "value" "[B" v0) (C : RoadKit.Fld Z h x ST "coder" "B" c0) (K : RoadKit.Arv Z h b k .char zn (cs.map Value.int) dv) (S : RoadKit.Sta Z h ST "COMPACT_STRINGS" "Z" (.int z)) (hz : ¬ z = 0)
    (hlen : zn.toNatClampNeg = cs.length) (h0 : 0 < cs.length) (hbig : cs.length ≤ 536870912) (hall : ∀ c ∈ cs, ¬ 255 < c) (hfr : 4 ≤ R.frames) (hlo : W + 65 ≤ R.locals) :
    Back l R p e below s args New1.yN len W (fun P a => a = #[.ref x, .ref b] ∧ P.U.heap = h ∧ P.cells + 1 ≤ R.cells ∧ P.slots + cs.length ≤ R.slots)
      (fun P _ v B => ∃ L, QA Z x zn cs h v B.U.heap L ∧ B.locs = P.locs ++ L ∧ B.cells = P.cells + 1 ∧ B.slots = P.slots + cs.length) := by
  obtain ⟨A, K1, K2, K3, K4, K5, K6⟩ := K
  have e : A.slots.size = cs.length := K3.trans hlen
  have hat : ∀ (i : Nat) (hi : i < cs.length), A.slots[i]? = some (.int cs[i]) := fun i hi => by rw [K5 i (by omega)]; simp [List.getD_eq_getElem?_getD, hi]
  have hcv : ∀ (i : Nat) (hi : i < cs.length), cv A i = cs[i] := fun i hi => by unfold cv; rw [hat i hi]
  have hty : Typed .char A := fun i v hv => by
    have hi : i < A.slots.size := (Array.getElem?_eq_some_iff.mp hv).1
    have q := K5 i hi
    rw [hv] at q
    rw [Option.some.inj q]
    exact K6 i hi
  refine Back.mono (back hZ hw wi E V C K1 hty S hz (by omega) (by omega) (fun i hi => by rw [hcv i (by omega)]; exact hall _ (List.getElem_mem _)) hfr hlo) (fun P a hp => ⟨hp.1, hp.2.1, hp.2.2.1, by rw [e]; exact hp.2.2.2⟩) (fun P a v B hp hq => ?_)
  obtain ⟨L, ⟨q1, q2, q3, q4, q5, q6, q7, ⟨V', v1, v2, v3, v4, v5⟩, q9⟩, hl, hc, hs⟩ := hq
  refine ⟨L, ⟨q1, q2, q3, q4, q5, q6, q7, ⟨V'.cls, v3, V', v1, rfl, by rw [v4, e, hlen], K4, fun i hi => ?_, fun i hi => ?_⟩, q9⟩, hl, hc, by rw [hs, e]⟩
  · have hi' : i < cs.length := by omega
    rw [v5 i (by omega), hcv i hi']; simp [List.getD_eq_getElem?_getD, hi']
  · have hi' : i < cs.length := by omega
    simp only [List.getD_eq_getElem?_getD, List.getElem?_map, List.getElem?_eq_getElem hi', Option.map_some, Option.getD_some]
    exact fits_lo8 _
end StrChars.Road
namespace StrChars.Road
open Jvm Sem ClassFile Op Lib Jvm.Stand Jvm.Free Jvm.Free.XT
/-- WHAT COMES BACK, in the writer's own shape -/
def QV (Z : State) (x : Addr) (N : Int32) (bs : List Int32) (h : Heap) (n0 : Nat) (v : Option Value) (h' : Heap) (L : List Loc) : Prop := v = none ∧ RoadKit.Fr n0 L ∧ RoadKit.Keep h h' [x] ∧ RoadKit.Exa Z h' x ST ∧ RoadKit.Fld Z h' x ST "coder" "B" (.int 0) ∧
  ∃ (t : Addr) (kb : ClassId), n0 ≤ t ∧ h.size ≤ t ∧ ¬ t = x ∧ RoadKit.Fld Z h' x ST "value" "[B" (.ref t) ∧ RoadKit.Arv Z h' t kb .byte N (bs.map Value.int) (.int 0)
/-- **new String(chars) AT A CALL, FOR THE WRITER**: a char[] of n known ints, each 0 to 255 -/
theorem backV {p : Program} {l : Launch} {e : Env} {R : Room} {s : State} {args : Array Value} {below : List Frame} {len W : Nat} {Z : State} {a0 : Array Value} {h : Heap} (hZ : Z.Warmed39 s.vm) (hw : ∀ d ∈ words, d.before a0 Z = true) {kI : Nat} (wi : (Jvm.Cond.instantiable ST kI).before a0 Z = true)
    {x b : Addr} {kC : ClassId} {cs bs : List Int32} {d v0 c0 : Value} {z N : Int32} {n n0 : Nat} (hx0 : n0 ≤ x) (hh0 : n0 ≤ h.size) (E : RoadKit.Exa Z h x ST) (V : RoadKit.Fld Z h x ST "value" "[B" v0) (C : RoadKit.Fld Z h x ST "coder" "B" c0) (K : RoadKit.Arv Z h b kC .char N (cs.map Value.int) d) (S : RoadKit.Sta Z h ST "COMPACT_STRINGS" "Z" (.int z)) (hz : ¬ z = 0)
    (hn : cs.length = n) (hN : N = Int32.ofNat n) (l0 : 0 < n) (l2 : n ≤ 4000) (hp : ∀ c ∈ cs, ¬ c < 0 ∧ ¬ (255 : Int32) < c) (hb : bs = cs.map (fun c => c.toInt8.toInt32)) (hfr : 4 ≤ R.frames) (hlo : W + 65 ≤ R.locals) :
    Back l R p e below s args (⟨"java/lang/String", "<init>", "([C)V"⟩ : MethodName) len W (fun P a => a = #[.ref x, .ref b] ∧ P.U.heap = h ∧ P.cells + 1 ≤ R.cells ∧ P.slots + n ≤ R.slots)
      (fun P _ v B => ∃ L, QV Z x N bs h n0 v B.U.heap L ∧ B.locs = P.locs ++ L ∧ B.cells = P.cells + 1 ∧ B.slots = P.slots + n) := by
  subst hn hN hb
  refine Back.mono (backArv hZ hw wi E V C K S hz (n32 (by omega)) l0 (by omega) (fun c hc => (hp c hc).2) hfr hlo) (fun P a hp => hp) (fun P a v B hp hq => ?_)
  obtain ⟨L, ⟨q1, q2, q3, q4, q5, q6, q7, ⟨kb, v1, v2⟩, q9⟩, hl, hc, hs⟩ := hq
  exact ⟨L, ⟨q1, fun y hy => by rw [q2 y hy]; exact hx0, q3, q5, q7, h.size, kb, hh0, Nat.le_refl _, Nat.ne_of_gt E.lt, q6, by rw [List.map_map]; exact v2⟩, hl, hc, hs⟩
end StrChars.Road
end Jvm.Pilot.@@N@@
namespace Jvm.Pilot.@@N@@
open Jvm Jvm.ClassFile Sem Op Lib Jvm.Free Jvm.Stand Jvm.LawKit Jvm.RoadKit Bundle Jvm.Pilot.@@N@@.Jvm.D
namespace Wk
open Jvm Jvm.ClassFile Sem Op Lib Jvm.Free Jvm.Stand Jvm.LawKit Jvm.RoadKit
/-- the fixed part of a walk: program, environment, the state at the invocation, the method, its arguments, the frames below, the method's record, its code -/
abbrev Wd : Type := Program × Env × State × MethodId × Array Value × List Frame × Method × Code
abbrev Wd.p (W : Wd) : Program := W.1
abbrev Wd.e (W : Wd) : Env := W.2.1
abbrev Wd.s (W : Wd) : State := W.2.2.1
abbrev Wd.m (W : Wd) : MethodId := W.2.2.2.1
abbrev Wd.a (W : Wd) : Array Value := W.2.2.2.2.1
abbrev Wd.b (W : Wd) : List Frame := W.2.2.2.2.2.1
abbrev Wd.t (W : Wd) : Method := W.2.2.2.2.2.2.1
abbrev Wd.c (W : Wd) : Code := W.2.2.2.2.2.2.2
abbrev Post : Type := Option Value → Heap → Prop
def Go (R : Room) (Z : State) (W : Wd) (Q : Post) (A : State) : Prop :=
  ∃ s₂ o, Steps W.p.tables W.e W.b A s₂ ∧ s₂.status = .running ∧ Ended s₂ W.b o ∧ ∃ v L, o = .returned v ∧ (Q v s₂.heap ∧ Ext Z.heap s₂.heap ∧ Fr Z.heap.size L) ∧ FrameEnd W.s o s₂ L R.cells R.slots
abbrev Std (l : Launch) (R : Room) (W : Wd) (T : State) (locs : List Loc) (k n : Nat) : Prop := Stand W.p l W.e R W.s W.m W.a W.b W.t W.c T locs k n
def Run (l : Launch) (R : Room) (Z : State) (W : Wd) (Q : Post) (h : Heap) (k n : Nat) (f : JFrame) : Prop :=
  ∀ T locs, Std l R W T locs k n → T.heap = h → Fr Z.heap.size locs → Ext Z.heap h → Go R Z W Q (T.setTop f)
def Cx (Z : State) (W : Wd) (own nm : String) (code : ByteArray) (maxL : Nat) (ret : Option FieldType) : Prop :=
  W.p.tables.exec = Jvm.exec ∧ W.c.code = code ∧ W.c.maxLocals = maxL ∧ W.s.vm.findClass own = some W.m.cls ∧ Z.Warmed39 W.s.vm ∧ W.t.sig.returnType = ret ∧ W.t.name = nm ∧ W.t.locks = false
section Kit
variable {l : Launch} {R : Room} {Z : State} {W : Wd} {Q : Post} {h : Heap} {k n : Nat} {own nm : String} {code : ByteArray} {maxL : Nat} {ret : Option FieldType} {a0 : Array Value} {pc pc' : Nat} {Ls : Array Slot} {st : List Value}
theorem Cx.hx (C : Cx Z W own nm code maxL ret) : W.p.tables.exec = Jvm.exec := C.1
theorem Cx.hb (C : Cx Z W own nm code maxL ret) {pc : Nat} {r : Except ClassFile.DecodeError (ClassFile.Instr × Nat)} (h2 : decode code pc = r) : decode W.c.code pc = r := C.2.1 ▸ h2
theorem Cx.ow (C : Cx Z W own nm code maxL ret) : W.s.vm.findClass own = some W.m.cls := C.2.2.2.1
theorem Cx.hZ (C : Cx Z W own nm code maxL ret) : Z.Warmed39 W.s.vm := C.2.2.2.2.1
theorem Cx.ml (C : Cx Z W own nm code maxL ret) : W.c.maxLocals = maxL := C.2.2.1
theorem Cx.rt (C : Cx Z W own nm code maxL ret) : W.t.sig.returnType = ret := C.2.2.2.2.2.1
theorem Cx.nme (C : Cx Z W own nm code maxL ret) : W.t.name = nm := C.2.2.2.2.2.2.1
theorem Cx.lk (C : Cx Z W own nm code maxL ret) : W.t.locks = false := C.2.2.2.2.2.2.2
theorem old_of (O : Ext Z.heap h) : Old Z Z.heap.size h := ⟨rfl, O⟩
theorem Go.step {A B : State} (f : ∀ t, Steps W.p.tables W.e W.b B t → Steps W.p.tables W.e W.b A t) (g : Go R Z W Q B) : Go R Z W Q A := by
  obtain ⟨t, o, h1, r⟩ := g
  exact ⟨t, o, f t h1, r⟩
theorem Run.one {g g' : JFrame} (f : ∀ T locs, Std l R W T locs k n → T.heap = h → ∀ t, Steps W.p.tables W.e W.b (T.setTop g') t → Steps W.p.tables W.e W.b (T.setTop g) t) (r : Run l R Z W Q h k n g') : Run l R Z W Q h k n g :=
  fun T locs X eT N O => Go.step (f T locs X eT) (r T locs X eT N O)
theorem Run.old {f : JFrame} (r : Ext Z.heap h → Run l R Z W Q h k n f) : Run l R Z W Q h k n f := fun T locs X eT N O => r O T locs X eT N O
theorem Run.grow {f : JFrame} {k' n' : Nat} (hk : k ≤ k') (hn : n ≤ n') (r : Run l R Z W Q h k' n' f) : Run l R Z W Q h k n f := fun T locs X eT N O =>
  r T locs ⟨X.admits, X.cas, X.clock, X.frames, X.room, X.hears, X.method, X.code, X.here, X.tail, X.warmed, X.limits, X.bytes, X.same.mono hk hn⟩ eT N O

theorem iloadN (C : Cx Z W own nm code maxL ret) {i : Fin 4} {v : Int32} (hd : decode code pc = .ok (.iload_n i, 1)) (hl : Ls[i.val]? = some (.val (.int v))) (hp : pc + 1 = pc')
    (r : Run l R Z W Q h k n (mkF W.m pc' Ls (.int v :: st))) : Run l R Z W Q h k n (mkF W.m pc Ls (st)) := by
  subst hp
  exact Run.one (fun T locs X _ t g => XS.iloadN X.here C.hx rfl (C.hb hd) hl g) r
theorem iload (C : Cx Z W own nm code maxL ret) {i : Nat} {v : Int32} (hd : decode code pc = .ok (.iload i, 2)) (hl : Ls[i]? = some (.val (.int v))) (hp : pc + 2 = pc')
    (r : Run l R Z W Q h k n (mkF W.m pc' Ls (.int v :: st))) : Run l R Z W Q h k n (mkF W.m pc Ls (st)) := by
  subst hp
  exact Run.one (fun T locs X _ t g => XS.iload X.here C.hx rfl (C.hb hd) hl g) r
theorem lloadN (C : Cx Z W own nm code maxL ret) {i : Fin 4} {v : Int64} (hd : decode code pc = .ok (.lload_n i, 1)) (hl : Ls[i.val]? = some (.val (.long v))) (hp : pc + 1 = pc')
    (r : Run l R Z W Q h k n (mkF W.m pc' Ls (.long v :: st))) : Run l R Z W Q h k n (mkF W.m pc Ls (st)) := by
  subst hp
  exact Run.one (fun T locs X _ t g => XS.lloadN X.here C.hx rfl (C.hb hd) hl g) r
theorem lload (C : Cx Z W own nm code maxL ret) {i : Nat} {v : Int64} (hd : decode code pc = .ok (.lload i, 2)) (hl : Ls[i]? = some (.val (.long v))) (hp : pc + 2 = pc')
    (r : Run l R Z W Q h k n (mkF W.m pc' Ls (.long v :: st))) : Run l R Z W Q h k n (mkF W.m pc Ls (st)) := by
  subst hp
  exact Run.one (fun T locs X _ t g => XS.lload X.here C.hx rfl (C.hb hd) hl g) r
theorem aloadN (C : Cx Z W own nm code maxL ret) {i : Fin 4} {v : Value} (hd : decode code pc = .ok (.aload_n i, 1)) (hl : Ls[i.val]? = some (.val v)) (hv : v.isRef = true) (hp : pc + 1 = pc')
    (r : Run l R Z W Q h k n (mkF W.m pc' Ls (v :: st))) : Run l R Z W Q h k n (mkF W.m pc Ls (st)) := by
  subst hp
  exact Run.one (fun T locs X _ t g => XS.aloadN X.here C.hx rfl (C.hb hd) hl hv g) r
theorem aload (C : Cx Z W own nm code maxL ret) {i : Nat} {v : Value} (hd : decode code pc = .ok (.aload i, 2)) (hl : Ls[i]? = some (.val v)) (hv : v.isRef = true) (hp : pc + 2 = pc')
    (r : Run l R Z W Q h k n (mkF W.m pc' Ls (v :: st))) : Run l R Z W Q h k n (mkF W.m pc Ls (st)) := by
  subst hp
  exact Run.one (fun T locs X _ t g => XS.aload X.here C.hx rfl (C.hb hd) hl hv g) r
theorem istoreN (C : Cx Z W own nm code maxL ret) {i : Fin 4} {v : Int32} {Ls' : Array Slot} (hd : decode code pc = .ok (.istore_n i, 1)) (hl : storeLocals Ls i.val (.int v) = some Ls') (hp : pc + 1 = pc')
    (r : Run l R Z W Q h k n (mkF W.m pc' Ls' (st))) : Run l R Z W Q h k n (mkF W.m pc Ls (.int v :: st)) := by
  subst hp
  exact Run.one (fun T locs X _ t g => XS.istoreN X.here C.hx rfl (C.hb hd) rfl hl g) r
theorem istore (C : Cx Z W own nm code maxL ret) {i : Nat} {v : Int32} {Ls' : Array Slot} (hd : decode code pc = .ok (.istore i, 2)) (hl : storeLocals Ls i (.int v) = some Ls') (hp : pc + 2 = pc')
    (r : Run l R Z W Q h k n (mkF W.m pc' Ls' (st))) : Run l R Z W Q h k n (mkF W.m pc Ls (.int v :: st)) := by
  subst hp
  exact Run.one (fun T locs X _ t g => XS.istore X.here C.hx rfl (C.hb hd) rfl hl g) r
theorem lstoreN (C : Cx Z W own nm code maxL ret) {i : Fin 4} {v : Int64} {Ls' : Array Slot} (hd : decode code pc = .ok (.lstore_n i, 1)) (hl : storeLocals Ls i.val (.long v) = some Ls') (hp : pc + 1 = pc')
    (r : Run l R Z W Q h k n (mkF W.m pc' Ls' (st))) : Run l R Z W Q h k n (mkF W.m pc Ls (.long v :: st)) := by
  subst hp
  exact Run.one (fun T locs X _ t g => XS.lstoreN X.here C.hx rfl (C.hb hd) rfl hl g) r
theorem lstore (C : Cx Z W own nm code maxL ret) {i : Nat} {v : Int64} {Ls' : Array Slot} (hd : decode code pc = .ok (.lstore i, 2)) (hl : storeLocals Ls i (.long v) = some Ls') (hp : pc + 2 = pc')
    (r : Run l R Z W Q h k n (mkF W.m pc' Ls' (st))) : Run l R Z W Q h k n (mkF W.m pc Ls (.long v :: st)) := by
  subst hp
  exact Run.one (fun T locs X _ t g => XS.lstore X.here C.hx rfl (C.hb hd) rfl hl g) r
theorem astoreN (C : Cx Z W own nm code maxL ret) {i : Fin 4} {v : Value} {Ls' : Array Slot} (hd : decode code pc = .ok (.astore_n i, 1)) (hv : v.isRef = true) (hl : storeLocals Ls i.val v = some Ls') (hp : pc + 1 = pc')
    (r : Run l R Z W Q h k n (mkF W.m pc' Ls' (st))) : Run l R Z W Q h k n (mkF W.m pc Ls (v :: st)) := by
  subst hp
  exact Run.one (fun T locs X _ t g => XS.astoreN X.here C.hx rfl (C.hb hd) rfl hv hl g) r
theorem astore (C : Cx Z W own nm code maxL ret) {i : Nat} {v : Value} {Ls' : Array Slot} (hd : decode code pc = .ok (.astore i, 2)) (hv : v.isRef = true) (hl : storeLocals Ls i v = some Ls') (hp : pc + 2 = pc')
    (r : Run l R Z W Q h k n (mkF W.m pc' Ls' (st))) : Run l R Z W Q h k n (mkF W.m pc Ls (v :: st)) := by
  subst hp
  exact Run.one (fun T locs X _ t g => XS.astore X.here C.hx rfl (C.hb hd) rfl hv hl g) r
theorem iconst (C : Cx Z W own nm code maxL ret) {i : Int} {v : Int32} (hd : decode code pc = .ok (.iconst i, 1)) (hv : Int32.ofInt i = v) (hp : pc + 1 = pc')
    (r : Run l R Z W Q h k n (mkF W.m pc' Ls (.int v :: st))) : Run l R Z W Q h k n (mkF W.m pc Ls (st)) := by
  subst hp
  exact Run.one (fun T locs X _ t g => XS.iconst X.here C.hx rfl (C.hb hd) (hv ▸ g)) r
theorem bipush (C : Cx Z W own nm code maxL ret) {i : Int} {v : Int32} (hd : decode code pc = .ok (.bipush i, 2)) (hv : (Int8.ofInt i).toInt32 = v) (hp : pc + 2 = pc')
    (r : Run l R Z W Q h k n (mkF W.m pc' Ls (.int v :: st))) : Run l R Z W Q h k n (mkF W.m pc Ls (st)) := by
  subst hp
  exact Run.one (fun T locs X _ t g => XS.bipush X.here C.hx rfl (C.hb hd) (hv ▸ g)) r
theorem sipush (C : Cx Z W own nm code maxL ret) {i : Int} {v : Int32} (hd : decode code pc = .ok (.sipush i, 3)) (hv : (Int16.ofInt i).toInt32 = v) (hp : pc + 3 = pc')
    (r : Run l R Z W Q h k n (mkF W.m pc' Ls (.int v :: st))) : Run l R Z W Q h k n (mkF W.m pc Ls (st)) := by
  subst hp
  exact Run.one (fun T locs X _ t g => XS.sipush X.here C.hx rfl (C.hb hd) (hv ▸ g)) r
theorem lconst (C : Cx Z W own nm code maxL ret) {i : Fin 2} {v : Int64} (hd : decode code pc = .ok (.lconst i, 1)) (hv : Int64.ofNat i = v) (hp : pc + 1 = pc')
    (r : Run l R Z W Q h k n (mkF W.m pc' Ls (.long v :: st))) : Run l R Z W Q h k n (mkF W.m pc Ls (st)) := by
  subst hp
  exact Run.one (fun T locs X _ t g => XS.lconst X.here C.hx rfl (C.hb hd) (hv ▸ g)) r
theorem aconstNull (C : Cx Z W own nm code maxL ret)  (hd : decode code pc = .ok (.aconst_null, 1)) (hp : pc + 1 = pc')
    (r : Run l R Z W Q h k n (mkF W.m pc' Ls (.null :: st))) : Run l R Z W Q h k n (mkF W.m pc Ls (st)) := by
  subst hp
  exact Run.one (fun T locs X _ t g => XS.aconstNull X.here C.hx rfl (C.hb hd) g) r
theorem iadd (C : Cx Z W own nm code maxL ret) {x y v : Int32} (hd : decode code pc = .ok (.iadd, 1)) (hv : x + y = v) (hp : pc + 1 = pc')
    (r : Run l R Z W Q h k n (mkF W.m pc' Ls (.int v :: st))) : Run l R Z W Q h k n (mkF W.m pc Ls (.int y :: .int x :: st)) := by
  subst hp
  exact Run.one (fun T locs X _ t g => XS.iadd X.here C.hx rfl (C.hb hd) rfl (hv ▸ g)) r
theorem isub (C : Cx Z W own nm code maxL ret) {x y v : Int32} (hd : decode code pc = .ok (.isub, 1)) (hv : x - y = v) (hp : pc + 1 = pc')
    (r : Run l R Z W Q h k n (mkF W.m pc' Ls (.int v :: st))) : Run l R Z W Q h k n (mkF W.m pc Ls (.int y :: .int x :: st)) := by
  subst hp
  exact Run.one (fun T locs X _ t g => XS.isub X.here C.hx rfl (C.hb hd) rfl (hv ▸ g)) r
theorem imul (C : Cx Z W own nm code maxL ret) {x y v : Int32} (hd : decode code pc = .ok (.imul, 1)) (hv : x * y = v) (hp : pc + 1 = pc')
    (r : Run l R Z W Q h k n (mkF W.m pc' Ls (.int v :: st))) : Run l R Z W Q h k n (mkF W.m pc Ls (.int y :: .int x :: st)) := by
  subst hp
  exact Run.one (fun T locs X _ t g => XS.imul X.here C.hx rfl (C.hb hd) rfl (hv ▸ g)) r
theorem iand (C : Cx Z W own nm code maxL ret) {x y v : Int32} (hd : decode code pc = .ok (.iand, 1)) (hv : x &&& y = v) (hp : pc + 1 = pc')
    (r : Run l R Z W Q h k n (mkF W.m pc' Ls (.int v :: st))) : Run l R Z W Q h k n (mkF W.m pc Ls (.int y :: .int x :: st)) := by
  subst hp
  exact Run.one (fun T locs X _ t g => XS.iand X.here C.hx rfl (C.hb hd) rfl (hv ▸ g)) r
theorem ior (C : Cx Z W own nm code maxL ret) {x y v : Int32} (hd : decode code pc = .ok (.ior, 1)) (hv : x ||| y = v) (hp : pc + 1 = pc')
    (r : Run l R Z W Q h k n (mkF W.m pc' Ls (.int v :: st))) : Run l R Z W Q h k n (mkF W.m pc Ls (.int y :: .int x :: st)) := by
  subst hp
  exact Run.one (fun T locs X _ t g => XS.ior X.here C.hx rfl (C.hb hd) rfl (hv ▸ g)) r
theorem ixor (C : Cx Z W own nm code maxL ret) {x y v : Int32} (hd : decode code pc = .ok (.ixor, 1)) (hv : x ^^^ y = v) (hp : pc + 1 = pc')
    (r : Run l R Z W Q h k n (mkF W.m pc' Ls (.int v :: st))) : Run l R Z W Q h k n (mkF W.m pc Ls (.int y :: .int x :: st)) := by
  subst hp
  exact Run.one (fun T locs X _ t g => XS.ixor X.here C.hx rfl (C.hb hd) rfl (hv ▸ g)) r
theorem ladd (C : Cx Z W own nm code maxL ret) {x y v : Int64} (hd : decode code pc = .ok (.ladd, 1)) (hv : x + y = v) (hp : pc + 1 = pc')
    (r : Run l R Z W Q h k n (mkF W.m pc' Ls (.long v :: st))) : Run l R Z W Q h k n (mkF W.m pc Ls (.long y :: .long x :: st)) := by
  subst hp
  exact Run.one (fun T locs X _ t g => XS.ladd X.here C.hx rfl (C.hb hd) rfl (hv ▸ g)) r
theorem lsub (C : Cx Z W own nm code maxL ret) {x y v : Int64} (hd : decode code pc = .ok (.lsub, 1)) (hv : x - y = v) (hp : pc + 1 = pc')
    (r : Run l R Z W Q h k n (mkF W.m pc' Ls (.long v :: st))) : Run l R Z W Q h k n (mkF W.m pc Ls (.long y :: .long x :: st)) := by
  subst hp
  exact Run.one (fun T locs X _ t g => XS.lsub X.here C.hx rfl (C.hb hd) rfl (hv ▸ g)) r
theorem lmul (C : Cx Z W own nm code maxL ret) {x y v : Int64} (hd : decode code pc = .ok (.lmul, 1)) (hv : x * y = v) (hp : pc + 1 = pc')
    (r : Run l R Z W Q h k n (mkF W.m pc' Ls (.long v :: st))) : Run l R Z W Q h k n (mkF W.m pc Ls (.long y :: .long x :: st)) := by
  subst hp
  exact Run.one (fun T locs X _ t g => XS.lmul X.here C.hx rfl (C.hb hd) rfl (hv ▸ g)) r
theorem land (C : Cx Z W own nm code maxL ret) {x y v : Int64} (hd : decode code pc = .ok (.land, 1)) (hv : x &&& y = v) (hp : pc + 1 = pc')
    (r : Run l R Z W Q h k n (mkF W.m pc' Ls (.long v :: st))) : Run l R Z W Q h k n (mkF W.m pc Ls (.long y :: .long x :: st)) := by
  subst hp
  exact Run.one (fun T locs X _ t g => XS.land X.here C.hx rfl (C.hb hd) rfl (hv ▸ g)) r
theorem lor (C : Cx Z W own nm code maxL ret) {x y v : Int64} (hd : decode code pc = .ok (.lor, 1)) (hv : x ||| y = v) (hp : pc + 1 = pc')
    (r : Run l R Z W Q h k n (mkF W.m pc' Ls (.long v :: st))) : Run l R Z W Q h k n (mkF W.m pc Ls (.long y :: .long x :: st)) := by
  subst hp
  exact Run.one (fun T locs X _ t g => XS.lor X.here C.hx rfl (C.hb hd) rfl (hv ▸ g)) r
theorem lxor (C : Cx Z W own nm code maxL ret) {x y v : Int64} (hd : decode code pc = .ok (.lxor, 1)) (hv : x ^^^ y = v) (hp : pc + 1 = pc')
    (r : Run l R Z W Q h k n (mkF W.m pc' Ls (.long v :: st))) : Run l R Z W Q h k n (mkF W.m pc Ls (.long y :: .long x :: st)) := by
  subst hp
  exact Run.one (fun T locs X _ t g => XS.lxor X.here C.hx rfl (C.hb hd) rfl (hv ▸ g)) r
theorem idiv (C : Cx Z W own nm code maxL ret) {x y v : Int32} (hd : decode code pc = .ok (.idiv, 1)) (hy : ¬ y = 0) (hv : x / y = v) (hp : pc + 1 = pc')
    (r : Run l R Z W Q h k n (mkF W.m pc' Ls (.int v :: st))) : Run l R Z W Q h k n (mkF W.m pc Ls (.int y :: .int x :: st)) := by
  subst hp
  exact Run.one (fun T locs X _ t g => XS.idiv X.here C.hx rfl (C.hb hd) rfl hy (hv ▸ g)) r
theorem irem (C : Cx Z W own nm code maxL ret) {x y v : Int32} (hd : decode code pc = .ok (.irem, 1)) (hy : ¬ y = 0) (hv : x % y = v) (hp : pc + 1 = pc')
    (r : Run l R Z W Q h k n (mkF W.m pc' Ls (.int v :: st))) : Run l R Z W Q h k n (mkF W.m pc Ls (.int y :: .int x :: st)) := by
  subst hp
  exact Run.one (fun T locs X _ t g => iremM X C.hx rfl (C.hb hd) rfl hy (hv ▸ g)) r
theorem ineg (C : Cx Z W own nm code maxL ret) {x v : Int32} (hd : decode code pc = .ok (.ineg, 1)) (hv : -x = v) (hp : pc + 1 = pc')
    (r : Run l R Z W Q h k n (mkF W.m pc' Ls (.int v :: st))) : Run l R Z W Q h k n (mkF W.m pc Ls (.int x :: st)) := by
  subst hp
  exact Run.one (fun T locs X _ t g => XS.ineg X.here C.hx rfl (C.hb hd) rfl (hv ▸ g)) r
theorem ishl (C : Cx Z W own nm code maxL ret) {x y v : Int32} (hd : decode code pc = .ok (.ishl, 1)) (hv : x <<< (y &&& 31) = v) (hp : pc + 1 = pc')
    (r : Run l R Z W Q h k n (mkF W.m pc' Ls (.int v :: st))) : Run l R Z W Q h k n (mkF W.m pc Ls (.int y :: .int x :: st)) := by
  subst hp
  exact Run.one (fun T locs X _ t g => XS.ishl X.here C.hx rfl (C.hb hd) rfl (hv ▸ g)) r
theorem ishr (C : Cx Z W own nm code maxL ret) {x y v : Int32} (hd : decode code pc = .ok (.ishr, 1)) (hv : x >>> (y &&& 31) = v) (hp : pc + 1 = pc')
    (r : Run l R Z W Q h k n (mkF W.m pc' Ls (.int v :: st))) : Run l R Z W Q h k n (mkF W.m pc Ls (.int y :: .int x :: st)) := by
  subst hp
  exact Run.one (fun T locs X _ t g => XS.ishr X.here C.hx rfl (C.hb hd) rfl (hv ▸ g)) r
theorem iushr (C : Cx Z W own nm code maxL ret) {x y v : Int32} (hd : decode code pc = .ok (.iushr, 1)) (hv : (x.toUInt32 >>> (y &&& 31).toUInt32).toInt32 = v) (hp : pc + 1 = pc')
    (r : Run l R Z W Q h k n (mkF W.m pc' Ls (.int v :: st))) : Run l R Z W Q h k n (mkF W.m pc Ls (.int y :: .int x :: st)) := by
  subst hp
  exact Run.one (fun T locs X _ t g => XS.iushr X.here C.hx rfl (C.hb hd) rfl (hv ▸ g)) r
theorem lshl (C : Cx Z W own nm code maxL ret) {x : Int64} {y : Int32} {v : Int64} (hd : decode code pc = .ok (.lshl, 1)) (hv : x <<< (y &&& 0x3f).toInt64 = v) (hp : pc + 1 = pc')
    (r : Run l R Z W Q h k n (mkF W.m pc' Ls (.long v :: st))) : Run l R Z W Q h k n (mkF W.m pc Ls (.int y :: .long x :: st)) := by
  subst hp
  exact Run.one (fun T locs X _ t g => XS.lshl X.here C.hx rfl (C.hb hd) rfl (hv ▸ g)) r
theorem lshr (C : Cx Z W own nm code maxL ret) {x : Int64} {y : Int32} {v : Int64} (hd : decode code pc = .ok (.lshr, 1)) (hv : x >>> (y &&& 0x3f).toInt64 = v) (hp : pc + 1 = pc')
    (r : Run l R Z W Q h k n (mkF W.m pc' Ls (.long v :: st))) : Run l R Z W Q h k n (mkF W.m pc Ls (.int y :: .long x :: st)) := by
  subst hp
  exact Run.one (fun T locs X _ t g => XS.lshr X.here C.hx rfl (C.hb hd) rfl (hv ▸ g)) r
theorem lushr (C : Cx Z W own nm code maxL ret) {x : Int64} {y : Int32} {v : Int64} (hd : decode code pc = .ok (.lushr, 1)) (hv : (x.toUInt64 >>> (y &&& 0x3f).toInt64.toUInt64).toInt64 = v) (hp : pc + 1 = pc')
    (r : Run l R Z W Q h k n (mkF W.m pc' Ls (.long v :: st))) : Run l R Z W Q h k n (mkF W.m pc Ls (.int y :: .long x :: st)) := by
  subst hp
  exact Run.one (fun T locs X _ t g => XS.lushr X.here C.hx rfl (C.hb hd) rfl (hv ▸ g)) r
theorem i2l (C : Cx Z W own nm code maxL ret) {x : Int32} {v : Int64} (hd : decode code pc = .ok (.i2l, 1)) (hv : x.toInt64 = v) (hp : pc + 1 = pc')
    (r : Run l R Z W Q h k n (mkF W.m pc' Ls (.long v :: st))) : Run l R Z W Q h k n (mkF W.m pc Ls (.int x :: st)) := by
  subst hp
  exact Run.one (fun T locs X _ t g => XS.i2l X.here C.hx rfl (C.hb hd) rfl (hv ▸ g)) r
theorem l2i (C : Cx Z W own nm code maxL ret) {x : Int64} {v : Int32} (hd : decode code pc = .ok (.l2i, 1)) (hv : x.toInt32 = v) (hp : pc + 1 = pc')
    (r : Run l R Z W Q h k n (mkF W.m pc' Ls (.int v :: st))) : Run l R Z W Q h k n (mkF W.m pc Ls (.long x :: st)) := by
  subst hp
  exact Run.one (fun T locs X _ t g => XS.l2i X.here C.hx rfl (C.hb hd) rfl (hv ▸ g)) r
theorem i2b (C : Cx Z W own nm code maxL ret) {x : Int32} {v : Int32} (hd : decode code pc = .ok (.i2b, 1)) (hv : x.toInt8.toInt32 = v) (hp : pc + 1 = pc')
    (r : Run l R Z W Q h k n (mkF W.m pc' Ls (.int v :: st))) : Run l R Z W Q h k n (mkF W.m pc Ls (.int x :: st)) := by
  subst hp
  exact Run.one (fun T locs X _ t g => XS.i2b X.here C.hx rfl (C.hb hd) rfl (hv ▸ g)) r
theorem i2c (C : Cx Z W own nm code maxL ret) {x : Int32} {v : Int32} (hd : decode code pc = .ok (.i2c, 1)) (hv : x.toUInt32.toUInt16.toUInt32.toInt32 = v) (hp : pc + 1 = pc')
    (r : Run l R Z W Q h k n (mkF W.m pc' Ls (.int v :: st))) : Run l R Z W Q h k n (mkF W.m pc Ls (.int x :: st)) := by
  subst hp
  exact Run.one (fun T locs X _ t g => XS.i2c X.here C.hx rfl (C.hb hd) rfl (hv ▸ g)) r
theorem i2s (C : Cx Z W own nm code maxL ret) {x : Int32} {v : Int32} (hd : decode code pc = .ok (.i2s, 1)) (hv : x.toInt16.toInt32 = v) (hp : pc + 1 = pc')
    (r : Run l R Z W Q h k n (mkF W.m pc' Ls (.int v :: st))) : Run l R Z W Q h k n (mkF W.m pc Ls (.int x :: st)) := by
  subst hp
  exact Run.one (fun T locs X _ t g => XS.i2s X.here C.hx rfl (C.hb hd) rfl (hv ▸ g)) r
theorem lcmp (C : Cx Z W own nm code maxL ret) {x y : Int64} (hd : decode code pc = .ok (.lcmp, 1)) (hp : pc + 1 = pc')
    (r : Run l R Z W Q h k n (mkF W.m pc' Ls (.int (lcmpW x y) :: st))) : Run l R Z W Q h k n (mkF W.m pc Ls (.long y :: .long x :: st)) := by
  subst hp
  exact Run.one (fun T locs X _ t g => XS.lcmp X.here C.hx rfl (C.hb hd) rfl g) r
theorem dup (C : Cx Z W own nm code maxL ret) {v : Value} (hd : decode code pc = .ok (.dup, 1)) (hc : v.category = 1) (hp : pc + 1 = pc')
    (r : Run l R Z W Q h k n (mkF W.m pc' Ls (v :: v :: st))) : Run l R Z W Q h k n (mkF W.m pc Ls (v :: st)) := by
  subst hp
  exact Run.one (fun T locs X _ t g => XS.dup X.here C.hx rfl (C.hb hd) rfl hc g) r
theorem dupX1 (C : Cx Z W own nm code maxL ret) {v w : Value} (hd : decode code pc = .ok (.dup_x1, 1)) (hc : v.category = 1) (hc' : w.category = 1) (hp : pc + 1 = pc')
    (r : Run l R Z W Q h k n (mkF W.m pc' Ls (v :: w :: v :: st))) : Run l R Z W Q h k n (mkF W.m pc Ls (v :: w :: st)) := by
  subst hp
  exact Run.one (fun T locs X _ t g => XS.dupX1 X.here C.hx rfl (C.hb hd) rfl hc hc' g) r
theorem dup2 (C : Cx Z W own nm code maxL ret) {v w : Value} (hd : decode code pc = .ok (.dup2, 1)) (hc : v.category = 1) (hc' : w.category = 1) (hp : pc + 1 = pc')
    (r : Run l R Z W Q h k n (mkF W.m pc' Ls (v :: w :: v :: w :: st))) : Run l R Z W Q h k n (mkF W.m pc Ls (v :: w :: st)) := by
  subst hp
  exact Run.one (fun T locs X _ t g => XT.dup2 X.here C.hx rfl (C.hb hd) rfl hc hc' g) r
theorem pop (C : Cx Z W own nm code maxL ret) {v : Value} (hd : decode code pc = .ok (.pop, 1)) (hc : v.category = 1) (hp : pc + 1 = pc')
    (r : Run l R Z W Q h k n (mkF W.m pc' Ls (st))) : Run l R Z W Q h k n (mkF W.m pc Ls (v :: st)) := by
  subst hp
  exact Run.one (fun T locs X _ t g => XS.pop X.here C.hx rfl (C.hb hd) rfl hc g) r
theorem swap (C : Cx Z W own nm code maxL ret) {v w : Value} (hd : decode code pc = .ok (.swap, 1)) (hc : v.category = 1) (hc' : w.category = 1) (hp : pc + 1 = pc')
    (r : Run l R Z W Q h k n (mkF W.m pc' Ls (w :: v :: st))) : Run l R Z W Q h k n (mkF W.m pc Ls (v :: w :: st)) := by
  subst hp
  exact Run.one (fun T locs X _ t g => XS.swap X.here C.hx rfl (C.hb hd) rfl hc hc' g) r
theorem iinc (C : Cx Z W own nm code maxL ret) {i : Nat} {d : Int} {x v : Int32} {Ls' : Array Slot} (hd : decode code pc = .ok (.iinc i d, 3)) (hl : Ls[i]? = some (.val (.int x))) (hv : x + Int32.ofInt d = v) (hl' : storeLocals Ls i (.int v) = some Ls') (hp : pc + 3 = pc')
    (r : Run l R Z W Q h k n (mkF W.m pc' Ls' st)) : Run l R Z W Q h k n (mkF W.m pc Ls st) := by
  subst hp hv
  exact Run.one (fun T locs X _ t g => XS.iinc X.here C.hx rfl (C.hb hd) hl hl' g) r
theorem goto (C : Cx Z W own nm code maxL ret) {o : Int} (hd : decode code pc = .ok (.goto o, 3)) (ho : 0 ≤ (pc : Int) + o) (hp : ((pc : Int) + o).toNat = pc')
    (r : Run l R Z W Q h k n (mkF W.m pc' Ls st)) : Run l R Z W Q h k n (mkF W.m pc Ls st) :=
  Run.one (fun T locs X _ t g => XS.goto X.here C.hx rfl rfl (C.hb hd) ho hp g) r
theorem icmp_eq (C : Cx Z W own nm code maxL ret) {x y : Int32} {o : Int} {pcT : Nat} (hd : decode code pc = .ok (.if_icmp .eq o, 3)) (ho : 0 ≤ (pc : Int) + o) (hp : ((pc : Int) + o).toNat = pcT) (hp' : pc + 3 = pc')
    (rt : x = y → Run l R Z W Q h k n (mkF W.m pcT Ls st)) (rf : ¬ x = y → Run l R Z W Q h k n (mkF W.m pc' Ls st)) : Run l R Z W Q h k n (mkF W.m pc Ls (.int y :: .int x :: st)) := by
  subst hp'
  by_cases q : x = y
  · exact Run.one (fun T locs X _ t g => XS.icmpYes X.here C.hx rfl rfl (C.hb hd) rfl (teq q).1 ho hp g) (rt q)
  · exact Run.one (fun T locs X _ t g => XS.icmpNo X.here C.hx rfl (C.hb hd) rfl (feq q).1 g) (rf q)
theorem if_eq (C : Cx Z W own nm code maxL ret) {x : Int32} {o : Int} {pcT : Nat} (hd : decode code pc = .ok (.ifCond .eq o, 3)) (ho : 0 ≤ (pc : Int) + o) (hp : ((pc : Int) + o).toNat = pcT) (hp' : pc + 3 = pc')
    (rt : x = (0 : Int32) → Run l R Z W Q h k n (mkF W.m pcT Ls st)) (rf : ¬ x = (0 : Int32) → Run l R Z W Q h k n (mkF W.m pc' Ls st)) : Run l R Z W Q h k n (mkF W.m pc Ls (.int x :: st)) := by
  subst hp'
  by_cases q : x = (0 : Int32)
  · exact Run.one (fun T locs X _ t g => XS.ifYes X.here C.hx rfl rfl (C.hb hd) rfl ((if0 _ _).trans (teq q).1) ho hp g) (rt q)
  · exact Run.one (fun T locs X _ t g => XS.ifNo X.here C.hx rfl (C.hb hd) rfl ((if0 _ _).trans (feq q).1) g) (rf q)
theorem icmp_ne (C : Cx Z W own nm code maxL ret) {x y : Int32} {o : Int} {pcT : Nat} (hd : decode code pc = .ok (.if_icmp .ne o, 3)) (ho : 0 ≤ (pc : Int) + o) (hp : ((pc : Int) + o).toNat = pcT) (hp' : pc + 3 = pc')
    (rt : ¬ x = y → Run l R Z W Q h k n (mkF W.m pcT Ls st)) (rf : x = y → Run l R Z W Q h k n (mkF W.m pc' Ls st)) : Run l R Z W Q h k n (mkF W.m pc Ls (.int y :: .int x :: st)) := by
  subst hp'
  by_cases q : x = y
  · exact Run.one (fun T locs X _ t g => XS.icmpNo X.here C.hx rfl (C.hb hd) rfl (teq q).2 g) (rf q)
  · exact Run.one (fun T locs X _ t g => XS.icmpYes X.here C.hx rfl rfl (C.hb hd) rfl (feq q).2 ho hp g) (rt q)
theorem if_ne (C : Cx Z W own nm code maxL ret) {x : Int32} {o : Int} {pcT : Nat} (hd : decode code pc = .ok (.ifCond .ne o, 3)) (ho : 0 ≤ (pc : Int) + o) (hp : ((pc : Int) + o).toNat = pcT) (hp' : pc + 3 = pc')
    (rt : ¬ x = (0 : Int32) → Run l R Z W Q h k n (mkF W.m pcT Ls st)) (rf : x = (0 : Int32) → Run l R Z W Q h k n (mkF W.m pc' Ls st)) : Run l R Z W Q h k n (mkF W.m pc Ls (.int x :: st)) := by
  subst hp'
  by_cases q : x = (0 : Int32)
  · exact Run.one (fun T locs X _ t g => XS.ifNo X.here C.hx rfl (C.hb hd) rfl ((if0 _ _).trans (teq q).2) g) (rf q)
  · exact Run.one (fun T locs X _ t g => XS.ifYes X.here C.hx rfl rfl (C.hb hd) rfl ((if0 _ _).trans (feq q).2) ho hp g) (rt q)
theorem icmp_lt (C : Cx Z W own nm code maxL ret) {x y : Int32} {o : Int} {pcT : Nat} (hd : decode code pc = .ok (.if_icmp .lt o, 3)) (ho : 0 ≤ (pc : Int) + o) (hp : ((pc : Int) + o).toNat = pcT) (hp' : pc + 3 = pc')
    (rt : x < y → Run l R Z W Q h k n (mkF W.m pcT Ls st)) (rf : ¬ x < y → Run l R Z W Q h k n (mkF W.m pc' Ls st)) : Run l R Z W Q h k n (mkF W.m pc Ls (.int y :: .int x :: st)) := by
  subst hp'
  by_cases q : x < y
  · exact Run.one (fun T locs X _ t g => XS.icmpYes X.here C.hx rfl rfl (C.hb hd) rfl (tlt q).1 ho hp g) (rt q)
  · exact Run.one (fun T locs X _ t g => XS.icmpNo X.here C.hx rfl (C.hb hd) rfl (flt q).1 g) (rf q)
theorem if_lt (C : Cx Z W own nm code maxL ret) {x : Int32} {o : Int} {pcT : Nat} (hd : decode code pc = .ok (.ifCond .lt o, 3)) (ho : 0 ≤ (pc : Int) + o) (hp : ((pc : Int) + o).toNat = pcT) (hp' : pc + 3 = pc')
    (rt : x < (0 : Int32) → Run l R Z W Q h k n (mkF W.m pcT Ls st)) (rf : ¬ x < (0 : Int32) → Run l R Z W Q h k n (mkF W.m pc' Ls st)) : Run l R Z W Q h k n (mkF W.m pc Ls (.int x :: st)) := by
  subst hp'
  by_cases q : x < (0 : Int32)
  · exact Run.one (fun T locs X _ t g => XS.ifYes X.here C.hx rfl rfl (C.hb hd) rfl ((if0 _ _).trans (tlt q).1) ho hp g) (rt q)
  · exact Run.one (fun T locs X _ t g => XS.ifNo X.here C.hx rfl (C.hb hd) rfl ((if0 _ _).trans (flt q).1) g) (rf q)
theorem icmp_ge (C : Cx Z W own nm code maxL ret) {x y : Int32} {o : Int} {pcT : Nat} (hd : decode code pc = .ok (.if_icmp .ge o, 3)) (ho : 0 ≤ (pc : Int) + o) (hp : ((pc : Int) + o).toNat = pcT) (hp' : pc + 3 = pc')
    (rt : ¬ x < y → Run l R Z W Q h k n (mkF W.m pcT Ls st)) (rf : x < y → Run l R Z W Q h k n (mkF W.m pc' Ls st)) : Run l R Z W Q h k n (mkF W.m pc Ls (.int y :: .int x :: st)) := by
  subst hp'
  by_cases q : x < y
  · exact Run.one (fun T locs X _ t g => XS.icmpNo X.here C.hx rfl (C.hb hd) rfl (tlt q).2.1 g) (rf q)
  · exact Run.one (fun T locs X _ t g => XS.icmpYes X.here C.hx rfl rfl (C.hb hd) rfl (flt q).2.1 ho hp g) (rt q)
theorem if_ge (C : Cx Z W own nm code maxL ret) {x : Int32} {o : Int} {pcT : Nat} (hd : decode code pc = .ok (.ifCond .ge o, 3)) (ho : 0 ≤ (pc : Int) + o) (hp : ((pc : Int) + o).toNat = pcT) (hp' : pc + 3 = pc')
    (rt : ¬ x < (0 : Int32) → Run l R Z W Q h k n (mkF W.m pcT Ls st)) (rf : x < (0 : Int32) → Run l R Z W Q h k n (mkF W.m pc' Ls st)) : Run l R Z W Q h k n (mkF W.m pc Ls (.int x :: st)) := by
  subst hp'
  by_cases q : x < (0 : Int32)
  · exact Run.one (fun T locs X _ t g => XS.ifNo X.here C.hx rfl (C.hb hd) rfl ((if0 _ _).trans (tlt q).2.1) g) (rf q)
  · exact Run.one (fun T locs X _ t g => XS.ifYes X.here C.hx rfl rfl (C.hb hd) rfl ((if0 _ _).trans (flt q).2.1) ho hp g) (rt q)
theorem icmp_gt (C : Cx Z W own nm code maxL ret) {x y : Int32} {o : Int} {pcT : Nat} (hd : decode code pc = .ok (.if_icmp .gt o, 3)) (ho : 0 ≤ (pc : Int) + o) (hp : ((pc : Int) + o).toNat = pcT) (hp' : pc + 3 = pc')
    (rt : y < x → Run l R Z W Q h k n (mkF W.m pcT Ls st)) (rf : ¬ y < x → Run l R Z W Q h k n (mkF W.m pc' Ls st)) : Run l R Z W Q h k n (mkF W.m pc Ls (.int y :: .int x :: st)) := by
  subst hp'
  by_cases q : y < x
  · exact Run.one (fun T locs X _ t g => XS.icmpYes X.here C.hx rfl rfl (C.hb hd) rfl (tlt q).2.2.1 ho hp g) (rt q)
  · exact Run.one (fun T locs X _ t g => XS.icmpNo X.here C.hx rfl (C.hb hd) rfl (flt q).2.2.1 g) (rf q)
theorem if_gt (C : Cx Z W own nm code maxL ret) {x : Int32} {o : Int} {pcT : Nat} (hd : decode code pc = .ok (.ifCond .gt o, 3)) (ho : 0 ≤ (pc : Int) + o) (hp : ((pc : Int) + o).toNat = pcT) (hp' : pc + 3 = pc')
    (rt : (0 : Int32) < x → Run l R Z W Q h k n (mkF W.m pcT Ls st)) (rf : ¬ (0 : Int32) < x → Run l R Z W Q h k n (mkF W.m pc' Ls st)) : Run l R Z W Q h k n (mkF W.m pc Ls (.int x :: st)) := by
  subst hp'
  by_cases q : (0 : Int32) < x
  · exact Run.one (fun T locs X _ t g => XS.ifYes X.here C.hx rfl rfl (C.hb hd) rfl ((if0 _ _).trans (tlt q).2.2.1) ho hp g) (rt q)
  · exact Run.one (fun T locs X _ t g => XS.ifNo X.here C.hx rfl (C.hb hd) rfl ((if0 _ _).trans (flt q).2.2.1) g) (rf q)
theorem icmp_le (C : Cx Z W own nm code maxL ret) {x y : Int32} {o : Int} {pcT : Nat} (hd : decode code pc = .ok (.if_icmp .le o, 3)) (ho : 0 ≤ (pc : Int) + o) (hp : ((pc : Int) + o).toNat = pcT) (hp' : pc + 3 = pc')
    (rt : ¬ y < x → Run l R Z W Q h k n (mkF W.m pcT Ls st)) (rf : y < x → Run l R Z W Q h k n (mkF W.m pc' Ls st)) : Run l R Z W Q h k n (mkF W.m pc Ls (.int y :: .int x :: st)) := by
  subst hp'
  by_cases q : y < x
  · exact Run.one (fun T locs X _ t g => XS.icmpNo X.here C.hx rfl (C.hb hd) rfl (tlt q).2.2.2 g) (rf q)
  · exact Run.one (fun T locs X _ t g => XS.icmpYes X.here C.hx rfl rfl (C.hb hd) rfl (flt q).2.2.2 ho hp g) (rt q)
theorem if_le (C : Cx Z W own nm code maxL ret) {x : Int32} {o : Int} {pcT : Nat} (hd : decode code pc = .ok (.ifCond .le o, 3)) (ho : 0 ≤ (pc : Int) + o) (hp : ((pc : Int) + o).toNat = pcT) (hp' : pc + 3 = pc')
    (rt : ¬ (0 : Int32) < x → Run l R Z W Q h k n (mkF W.m pcT Ls st)) (rf : (0 : Int32) < x → Run l R Z W Q h k n (mkF W.m pc' Ls st)) : Run l R Z W Q h k n (mkF W.m pc Ls (.int x :: st)) := by
  subst hp'
  by_cases q : (0 : Int32) < x
  · exact Run.one (fun T locs X _ t g => XS.ifNo X.here C.hx rfl (C.hb hd) rfl ((if0 _ _).trans (tlt q).2.2.2) g) (rf q)
  · exact Run.one (fun T locs X _ t g => XS.ifYes X.here C.hx rfl rfl (C.hb hd) rfl ((if0 _ _).trans (flt q).2.2.2) ho hp g) (rt q)
theorem ifnullY (C : Cx Z W own nm code maxL ret) {o : Int} (hd : decode code pc = .ok (.ifnull o, 3)) (ho : 0 ≤ (pc : Int) + o) (hp : ((pc : Int) + o).toNat = pc') (r : Run l R Z W Q h k n (mkF W.m pc' Ls st)) : Run l R Z W Q h k n (mkF W.m pc Ls (.null :: st)) :=
  Run.one (fun T locs X _ t g => XS.ifnullYes X.here C.hx rfl rfl (C.hb hd) rfl ho hp g) r
theorem ifnullN (C : Cx Z W own nm code maxL ret) {o : Int} {b : Addr} (hd : decode code pc = .ok (.ifnull o, 3)) (hp : pc + 3 = pc') (r : Run l R Z W Q h k n (mkF W.m pc' Ls st)) : Run l R Z W Q h k n (mkF W.m pc Ls (.ref b :: st)) := by
  subst hp
  exact Run.one (fun T locs X _ t g => XS.ifnullNo X.here C.hx rfl (C.hb hd) rfl g) r
theorem ifnonnullY (C : Cx Z W own nm code maxL ret) {o : Int} {b : Addr} (hd : decode code pc = .ok (.ifnonnull o, 3)) (ho : 0 ≤ (pc : Int) + o) (hp : ((pc : Int) + o).toNat = pc') (r : Run l R Z W Q h k n (mkF W.m pc' Ls st)) : Run l R Z W Q h k n (mkF W.m pc Ls (.ref b :: st)) :=
  Run.one (fun T locs X _ t g => XS.ifnonnullYes X.here C.hx rfl rfl (C.hb hd) rfl ho hp g) r
theorem ifnonnullN (C : Cx Z W own nm code maxL ret) {o : Int} (hd : decode code pc = .ok (.ifnonnull o, 3)) (hp : pc + 3 = pc') (r : Run l R Z W Q h k n (mkF W.m pc' Ls st)) : Run l R Z W Q h k n (mkF W.m pc Ls (.null :: st)) := by
  subst hp
  exact Run.one (fun T locs X _ t g => XS.ifnonnullNo X.here C.hx rfl (C.hb hd) rfl g) r
theorem acmp_eq (C : Cx Z W own nm code maxL ret) {o : Int} {x y : Value} {pcT : Nat} (hd : decode code pc = .ok (.if_acmp .eq o, 3)) (hx' : x.isRef = true) (hy' : y.isRef = true) (ho : 0 ≤ (pc : Int) + o) (hp : ((pc : Int) + o).toNat = pcT) (hp' : pc + 3 = pc')
    (rt : x = y → Run l R Z W Q h k n (mkF W.m pcT Ls st)) (rf : ¬ x = y → Run l R Z W Q h k n (mkF W.m pc' Ls st)) : Run l R Z W Q h k n (mkF W.m pc Ls (y :: x :: st)) := by
  subst hp'
  by_cases q : x = y
  · exact Run.one (fun T locs X _ t g => XT.acmpYes X.here C.hx rfl rfl (C.hb hd) rfl hx' hy' (XT.aa_eq_t q) ho hp g) (rt q)
  · exact Run.one (fun T locs X _ t g => XT.acmpNo X.here C.hx rfl (C.hb hd) rfl hx' hy' (XT.aa_eq_f q) g) (rf q)
theorem acmp_ne (C : Cx Z W own nm code maxL ret) {o : Int} {x y : Value} {pcT : Nat} (hd : decode code pc = .ok (.if_acmp .ne o, 3)) (hx' : x.isRef = true) (hy' : y.isRef = true) (ho : 0 ≤ (pc : Int) + o) (hp : ((pc : Int) + o).toNat = pcT) (hp' : pc + 3 = pc')
    (rt : ¬ x = y → Run l R Z W Q h k n (mkF W.m pcT Ls st)) (rf : x = y → Run l R Z W Q h k n (mkF W.m pc' Ls st)) : Run l R Z W Q h k n (mkF W.m pc Ls (y :: x :: st)) := by
  subst hp'
  by_cases q : x = y
  · exact Run.one (fun T locs X _ t g => XT.acmpNo X.here C.hx rfl (C.hb hd) rfl hx' hy' (XT.aa_ne_f q) g) (rf q)
  · exact Run.one (fun T locs X _ t g => XT.acmpYes X.here C.hx rfl rfl (C.hb hd) rfl hx' hy' (XT.aa_ne_t q) ho hp g) (rt q)
theorem tswIn (C : Cx Z W own nm code maxL ret) {d lo hi o : Int} {offs : Array Int} {ln : Nat} {i : Int32} (hd : decode code pc = .ok (.tableswitch d lo hi offs, ln)) (hin : ¬ (i.toInt < lo ∨ i.toInt > hi)) (ho : offs[(i.toInt - lo).toNat]? = some o) (h0 : 0 ≤ (pc : Int) + o) (hp : ((pc : Int) + o).toNat = pc')
    (r : Run l R Z W Q h k n (mkF W.m pc' Ls st)) : Run l R Z W Q h k n (mkF W.m pc Ls (.int i :: st)) :=
  Run.one (fun T locs X _ t g => XS.tswIn X.here C.hx rfl rfl (C.hb hd) rfl hin ho h0 hp g) r
theorem ldcI (C : Cx Z W own nm code maxL ret) {ix : Nat} {v : Int32} (hd : decode code pc = .ok (.ldc ix, 2)) (w : (Cond.constant own ix v).before a0 Z = true) (hp : pc + 2 = pc') (r : Run l R Z W Q h k n (mkF W.m pc' Ls (.int v :: st))) : Run l R Z W Q h k n (mkF W.m pc Ls st) := by
  subst hp
  exact Run.one (fun T locs X _ t g => X.ldcInt C.hx C.ow (mvT C.hZ w) (g := mkF W.m pc Ls st) rfl (C.hb hd) t g) r
theorem ldc2J (C : Cx Z W own nm code maxL ret) {ix : Nat} {v : Int64} (hd : decode code pc = .ok (.ldc2_w ix, 3)) (w : (Cond.constantLong own ix v).before a0 Z = true) (hp : pc + 3 = pc') (r : Run l R Z W Q h k n (mkF W.m pc' Ls (.long v :: st))) : Run l R Z W Q h k n (mkF W.m pc Ls st) := by
  subst hp
  exact Run.one (fun T locs X _ t g => X.ldc2Long C.hx C.ow (mvT C.hZ w) (g := mkF W.m pc Ls st) rfl (C.hb hd) t g) r
theorem Run.via {g g' : JFrame} (f : ∀ T locs, Std l R W T locs k n → T.heap = h → ∃ T', Std l R W T' locs k n ∧ T'.heap = h ∧ ∀ t, Steps W.p.tables W.e W.b (T'.setTop g') t → Steps W.p.tables W.e W.b (T.setTop g) t) (r : Run l R Z W Q h k n g') : Run l R Z W Q h k n g :=
  fun T locs X eT N O => by
    obtain ⟨T', X', e', s'⟩ := f T locs X eT
    exact Go.step s' (r T' locs X' e' N O)
theorem getF (C : Cx Z W own nm code maxL ret) {R0 O nmF d : String} {ix : Nat} (hd : decode code pc = .ok (.getfield ix, 3)) (w : (Cond.fieldLink own ix R0 nmF d).before a0 Z = true) (via : Via Z R0 O nmF d) {a : Addr} {v : Value} (F : Fld Z h a O nmF d v) (hp : pc + 3 = pc')
    (r : Run l R Z W Q h k n (mkF W.m pc' Ls (v :: st))) : Run l R Z W Q h k n (mkF W.m pc Ls (.ref a :: st)) := by
  subst hp
  exact Run.via (fun T locs X eT => RoadKit.getF X C.hx C.hZ C.ow (host := "") (Or.inl w) via eT F (g := mkF W.m pc Ls (.ref a :: st)) rfl rfl (C.hb hd)) r
theorem getFN (C : Cx Z W own nm code maxL ret) {R0 O nmF d host : String} {ix : Nat} (hd : decode code pc = .ok (.getfield ix, 3)) (w : (Cond.fieldLinkNest own ix R0 nmF d host).before a0 Z = true) (via : Via Z R0 O nmF d) {a : Addr} {v : Value} (F : Fld Z h a O nmF d v) (hp : pc + 3 = pc')
    (r : Run l R Z W Q h k n (mkF W.m pc' Ls (v :: st))) : Run l R Z W Q h k n (mkF W.m pc Ls (.ref a :: st)) := by
  subst hp
  exact Run.via (fun T locs X eT => RoadKit.getF X C.hx C.hZ C.ow (Or.inr w) via eT F (g := mkF W.m pc Ls (.ref a :: st)) rfl rfl (C.hb hd)) r
theorem getS (C : Cx Z W own nm code maxL ret) {R0 O nmF d : String} {ix : Nat} (hd : decode code pc = .ok (.getstatic ix, 3)) (w : (Cond.fieldLink own ix R0 nmF d).before a0 Z = true) (via : Via Z R0 O nmF d) {v : Value} (F : Sta Z h O nmF d v) (hp : pc + 3 = pc')
    (r : Run l R Z W Q h k n (mkF W.m pc' Ls (v :: st))) : Run l R Z W Q h k n (mkF W.m pc Ls st) := by
  subst hp
  exact Run.via (fun T locs X eT => getS2 X C.hx C.hZ C.ow (host := "") (Or.inl w) via eT F (g := mkF W.m pc Ls st) rfl (C.hb hd)) r
theorem getSN (C : Cx Z W own nm code maxL ret) {R0 O nmF d host : String} {ix : Nat} (hd : decode code pc = .ok (.getstatic ix, 3)) (w : (Cond.fieldLinkNest own ix R0 nmF d host).before a0 Z = true) (via : Via Z R0 O nmF d) {v : Value} (F : Sta Z h O nmF d v) (hp : pc + 3 = pc')
    (r : Run l R Z W Q h k n (mkF W.m pc' Ls (v :: st))) : Run l R Z W Q h k n (mkF W.m pc Ls st) := by
  subst hp
  exact Run.via (fun T locs X eT => getS2 X C.hx C.hZ C.ow (Or.inr w) via eT F (g := mkF W.m pc Ls st) rfl (C.hb hd)) r
theorem castY (C : Cx Z W own nm code maxL ret) {K : String} {ix : Nat} (hd : decode code pc = .ok (.checkcast ix, 3)) (w : (Cond.classLink own ix K).before a0 Z = true) {a : Addr} (F : Ins Z h a K true) (hp : pc + 3 = pc')
    (r : Run l R Z W Q h k n (mkF W.m pc' Ls (.ref a :: st))) : Run l R Z W Q h k n (mkF W.m pc Ls (.ref a :: st)) := by
  subst hp
  exact Run.via (fun T locs X eT => RoadKit.castY X C.hx C.hZ C.ow w eT F (g := mkF W.m pc Ls (.ref a :: st)) rfl rfl (C.hb hd)) r
theorem instY (C : Cx Z W own nm code maxL ret) {K : String} {ix : Nat} (hd : decode code pc = .ok (.instanceof ix, 3)) (w : (Cond.classLink own ix K).before a0 Z = true) {a : Addr} (F : Ins Z h a K true) (hp : pc + 3 = pc')
    (r : Run l R Z W Q h k n (mkF W.m pc' Ls (.int 1 :: st))) : Run l R Z W Q h k n (mkF W.m pc Ls (.ref a :: st)) := by
  subst hp
  exact Run.via (fun T locs X eT => RoadKit.instY X C.hx C.hZ C.ow w eT F (g := mkF W.m pc Ls (.ref a :: st)) rfl rfl (C.hb hd)) r
/-- an array as a list: its kind, its length, its elements -/
def Ary (Z : State) (h : Heap) (a : Addr) (ty : FieldType) (vs : List Value) : Prop := ∃ c : Cell, Arr Z h a c ty ∧ c.slots = vs.toArray ∧ vs.length < 2 ^ 31 ∧ ∀ v ∈ vs, fits ty v = true
theorem Ary.lt {a : Addr} {ty : FieldType} {vs : List Value} (F : Ary Z h a ty vs) : a < h.size := by obtain ⟨c, A, -⟩ := F; exact A.lt
theorem Ary.ext {h' : Heap} {a : Addr} {ty : FieldType} {vs : List Value} (F : Ary Z h a ty vs) (E : Ext h h') : Ary Z h' a ty vs := by obtain ⟨c, A, r⟩ := F; exact ⟨c, A.ext E, r⟩
theorem Ary.other {h' : Heap} {a b : Addr} {sl : Nat} {v : Value} {ty : FieldType} {vs : List Value} (F : Ary Z h b ty vs) (X : Wr h h' a sl v) (q : b ≠ a) : Ary Z h' b ty vs := by obtain ⟨c, A, r⟩ := F; exact ⟨c, A.other X q, r⟩
theorem Ary.keep {h' : Heap} {a : Addr} {ws : List Addr} {ty : FieldType} {vs : List Value} (F : Ary Z h a ty vs) (K : Keep h h' ws) (q : a ∉ ws) : Ary Z h' a ty vs := by obtain ⟨c, A, r⟩ := F; exact ⟨c, ⟨K.2.1 a c A.1 q, A.2⟩, r⟩
theorem Ary.set {h' : Heap} {a : Addr} {i : Nat} {v : Value} {ty : FieldType} {vs : List Value} (F : Ary Z h a ty vs) (X : Wr h h' a i v) (hv : fits ty v = true) : Ary Z h' a ty (vs.set i v) := by
  obtain ⟨c, A, e, q, f⟩ := F
  refine ⟨_, A.same X, ?_, by simpa using q, fun w hw => ?_⟩
  · show (c.slots.setIfInBounds i v) = _
    rw [e]; simp
  · rcases List.mem_or_eq_of_mem_set hw with hw | rfl
    · exact f w hw
    · exact hv
theorem Ary.inb {a : Addr} {ty : FieldType} {vs : List Value} {c : Cell} {j : Int32} (e : c.slots = vs.toArray) (h0 : ¬ j < 0) (h1 : j.toNatClampNeg < vs.length) : ¬ (j < 0 ∨ c.slots.size ≤ j.toNatClampNeg) := by
  rw [e]
  rintro (q | q)
  · exact h0 q
  · simp at q; omega
theorem Ary.arv {a : Addr} {ty : FieldType} {vs : List Value} {d : Value} (F : Ary Z h a ty vs) : ∃ kc, Arv Z h a kc ty (Int32.ofNat vs.length) vs d := by
  obtain ⟨c, A, e, q, f⟩ := F
  have hn : (Int32.ofNat vs.length).toNatClampNeg = vs.length := by
    rw [Int32.toNatClampNeg_ofNat_of_lt q]
  refine ⟨c.cls, c, A, rfl, by rw [hn, e]; simp, ?_, fun i hi => ?_, fun i hi => ?_⟩
  · rw [Int32.lt_iff_toInt_lt, Int32.toInt_ofNat_of_lt q]; simp
  · have hi' : i < vs.length := by rw [e] at hi; simpa using hi
    rw [e]; simp [List.getD_eq_getElem?_getD, hi']
  · have hi' : i < vs.length := by rw [e] at hi; simpa using hi
    have := f _ (List.getElem_mem hi')
    simpa [List.getD_eq_getElem?_getD, hi'] using this
theorem Ary.of_arv {a : Addr} {kc : ClassId} {ty : FieldType} {z : Int32} {vs : List Value} {d : Value} (F : Arv Z h a kc ty z vs d) (hz : z.toNatClampNeg = vs.length) : Ary Z h a ty vs := by
  obtain ⟨c, A, -, S, z0, H, G⟩ := F
  have hs : c.slots.size = vs.length := S.trans hz
  refine ⟨c, A, ?_, by rw [← hz]; exact (back32 z0).2, fun v hv => ?_⟩
  · apply Array.ext
    · simpa using hs
    · intro i h1 h2
      have q := H i h1
      rw [Array.getElem?_eq_getElem h1] at q
      have h3 : i < vs.length := by omega
      simpa [List.getD_eq_getElem?_getD, h3] using q
  · obtain ⟨i, hi, rfl⟩ := List.getElem_of_mem hv
    have := G i (by omega)
    simpa [List.getD_eq_getElem?_getD, hi] using this
theorem alen (C : Cx Z W own nm code maxL ret) (hd : decode code pc = .ok (.arraylength, 1)) {a : Addr} {ty : FieldType} {vs : List Value} {z : Int32} (F : Ary Z h a ty vs) (hz : Int32.ofNat vs.length = z) (hp : pc + 1 = pc')
    (r : Run l R Z W Q h k n (mkF W.m pc' Ls (.int z :: st))) : Run l R Z W Q h k n (mkF W.m pc Ls (.ref a :: st)) := by
  subst hp hz
  obtain ⟨c, A, e, -⟩ := F
  have e2 : c.slots.size.toInt32 = Int32.ofNat vs.length := by rw [e]; simp
  exact Run.one (fun T locs X eT t g => X.arraylength C.hx (by rw [eT]; exact A.1) (State.isArrayOf_alike C.hZ.alike A.2.1) (g := mkF W.m pc Ls (.ref a :: st)) rfl rfl (C.hb hd) t (by rw [e2]; exact g)) r
theorem caload (C : Cx Z W own nm code maxL ret) (hd : decode code pc = .ok (.caload, 1)) {a : Addr} {vs : List Value} {j : Int32} {v : Value} (F : Ary Z h a .char vs) (h0 : ¬ j < 0) (hv : vs[j.toNatClampNeg]? = some v) (hp : pc + 1 = pc')
    (r : Run l R Z W Q h k n (mkF W.m pc' Ls (v :: st))) : Run l R Z W Q h k n (mkF W.m pc Ls (.int j :: .ref a :: st)) := by
  subst hp
  obtain ⟨c, A, e, -⟩ := F
  have h1 : j.toNatClampNeg < vs.length := (List.getElem?_eq_some_iff.mp hv).1
  exact Run.one (fun T locs X eT t g => X.caload C.hx (by rw [eT]; exact A.1) (State.isArrayOf_alike C.hZ.alike A.2.1) A.2.2 (Ary.inb (a := a) (ty := .char) e h0 h1) (by rw [e]; simpa using hv) (g := mkF W.m pc Ls (.int j :: .ref a :: st)) rfl rfl (C.hb hd) t g) r
theorem iaload (C : Cx Z W own nm code maxL ret) (hd : decode code pc = .ok (.iaload, 1)) {a : Addr} {vs : List Value} {j : Int32} {v : Value} (F : Ary Z h a .int vs) (h0 : ¬ j < 0) (hv : vs[j.toNatClampNeg]? = some v) (hp : pc + 1 = pc')
    (r : Run l R Z W Q h k n (mkF W.m pc' Ls (v :: st))) : Run l R Z W Q h k n (mkF W.m pc Ls (.int j :: .ref a :: st)) := by
  subst hp
  obtain ⟨c, A, e, -⟩ := F
  have h1 : j.toNatClampNeg < vs.length := (List.getElem?_eq_some_iff.mp hv).1
  exact Run.one (fun T locs X eT t g => X.iaload C.hx (by rw [eT]; exact A.1) (State.isArrayOf_alike C.hZ.alike A.2.1) A.2.2 (Ary.inb (a := a) (ty := .int) e h0 h1) (by rw [e]; simpa using hv) (g := mkF W.m pc Ls (.int j :: .ref a :: st)) rfl rfl (C.hb hd) t g) r
theorem baload (C : Cx Z W own nm code maxL ret) (hd : decode code pc = .ok (.baload, 1)) {a : Addr} {vs : List Value} {j : Int32} {v : Value} (F : Ary Z h a .byte vs) (h0 : ¬ j < 0) (hv : vs[j.toNatClampNeg]? = some v) (hp : pc + 1 = pc')
    (r : Run l R Z W Q h k n (mkF W.m pc' Ls (v :: st))) : Run l R Z W Q h k n (mkF W.m pc Ls (.int j :: .ref a :: st)) := by
  subst hp
  obtain ⟨c, A, e, -⟩ := F
  have h1 : j.toNatClampNeg < vs.length := (List.getElem?_eq_some_iff.mp hv).1
  exact Run.one (fun T locs X eT t g => X.baloadBytes C.hx (by rw [eT]; exact A.1) (State.isArrayOf_alike C.hZ.alike A.2.1) A.2.2 (Ary.inb (a := a) (ty := .byte) e h0 h1) (by rw [e]; simpa using hv) (g := mkF W.m pc Ls (.int j :: .ref a :: st)) rfl rfl (C.hb hd) t g) r
theorem saload (C : Cx Z W own nm code maxL ret) (hd : decode code pc = .ok (.saload, 1)) {a : Addr} {vs : List Value} {j : Int32} {v : Value} (F : Ary Z h a .short vs) (h0 : ¬ j < 0) (hv : vs[j.toNatClampNeg]? = some v) (hp : pc + 1 = pc')
    (r : Run l R Z W Q h k n (mkF W.m pc' Ls (v :: st))) : Run l R Z W Q h k n (mkF W.m pc Ls (.int j :: .ref a :: st)) := by
  subst hp
  obtain ⟨c, A, e, -⟩ := F
  have h1 : j.toNatClampNeg < vs.length := (List.getElem?_eq_some_iff.mp hv).1
  exact Run.one (fun T locs X eT t g => X.saload C.hx (by rw [eT]; exact A.1) (State.isArrayOf_alike C.hZ.alike A.2.1) A.2.2 (Ary.inb (a := a) (ty := .short) e h0 h1) (by rw [e]; simpa using hv) (g := mkF W.m pc Ls (.int j :: .ref a :: st)) rfl rfl (C.hb hd) t g) r
theorem laload (C : Cx Z W own nm code maxL ret) (hd : decode code pc = .ok (.laload, 1)) {a : Addr} {vs : List Value} {j : Int32} {v : Value} (F : Ary Z h a .long vs) (h0 : ¬ j < 0) (hv : vs[j.toNatClampNeg]? = some v) (hp : pc + 1 = pc')
    (r : Run l R Z W Q h k n (mkF W.m pc' Ls (v :: st))) : Run l R Z W Q h k n (mkF W.m pc Ls (.int j :: .ref a :: st)) := by
  subst hp
  obtain ⟨c, A, e, -⟩ := F
  have h1 : j.toNatClampNeg < vs.length := (List.getElem?_eq_some_iff.mp hv).1
  exact Run.one (fun T locs X eT t g => X.laload C.hx (by rw [eT]; exact A.1) (State.isArrayOf_alike C.hZ.alike A.2.1) A.2.2 (Ary.inb (a := a) (ty := .long) e h0 h1) (by rw [e]; simpa using hv) (g := mkF W.m pc Ls (.int j :: .ref a :: st)) rfl rfl (C.hb hd) t g) r
theorem aaload (C : Cx Z W own nm code maxL ret) (hd : decode code pc = .ok (.aaload, 1)) {a : Addr} {ty : FieldType} {vs : List Value} {j : Int32} {v : Value} (F : Ary Z h a ty vs) (ht : ty.isReference = true) (h0 : ¬ j < 0) (hv : vs[j.toNatClampNeg]? = some v) (hp : pc + 1 = pc')
    (r : Run l R Z W Q h k n (mkF W.m pc' Ls (v :: st))) : Run l R Z W Q h k n (mkF W.m pc Ls (.int j :: .ref a :: st)) := by
  subst hp
  obtain ⟨c, A, e, -⟩ := F
  have h1 : j.toNatClampNeg < vs.length := (List.getElem?_eq_some_iff.mp hv).1
  exact Run.one (fun T locs X eT t g => X.aaload C.hx (by rw [eT]; exact A.1) (State.isArrayOf_alike C.hZ.alike A.2.1) ht A.2.2 (Ary.inb (a := a) (ty := ty) e h0 h1) (by rw [e]; simpa using hv) (g := mkF W.m pc Ls (.int j :: .ref a :: st)) rfl rfl (C.hb hd) t g) r
theorem Run.wrote {a : Addr} {sl : Nat} {v : Value} {g g' : JFrame} (ha : Z.heap.size ≤ a) (f : ∀ T locs, Std l R W T locs k n → T.heap = h → ∃ T' h', Std l R W T' (locs ++ [⟨a, sl⟩]) k n ∧ T'.heap = h' ∧ Wr h h' a sl v ∧ ∀ t, Steps W.p.tables W.e W.b (T'.setTop g') t → Steps W.p.tables W.e W.b (T.setTop g) t)
    (r : ∀ h', Wr h h' a sl v → Ext Z.heap h' → Run l R Z W Q h' k n g') : Run l R Z W Q h k n g := fun T locs X eT N O => by
  obtain ⟨T', h', X', e', w', s'⟩ := f T locs X eT
  have O' : Ext Z.heap h' := ((old_of O).wr w' ha).2
  exact Go.step s' (r h' w' O' T' _ X' e' (Fr.snoc X' N ha) O')
theorem putF (C : Cx Z W own nm code maxL ret) {R0 O nmF d K : String} {ix kk : Nat} {ty : FieldType} (hd : decode code pc = .ok (.putfield ix, 3)) (w : (Cond.fieldLink own ix R0 nmF d).before a0 Z = true) (via : Via Z R0 O nmF d) {a : Addr} {v old : Value} (F : Fld Z h a O nmF d old) (E : Exa Z h a K)
    (L : (Cond.lays K O nmF d).before a0 Z = true ∨ ((Cond.laysFinal K O nmF d).before a0 Z = true ∧ own = O ∧ nm = "<init>")) (wi : (Cond.instantiable K kk).before a0 Z = true) (hty : parseFieldDescriptor d = some ty) (hn : narrow ty v = v) (hf : fits ty v = true) (ha : Z.heap.size ≤ a) (hp : pc + 3 = pc')
    (r : ∀ h', Wr h h' a (RoadKit.slotOf Z O nmF d) v → Ext Z.heap h' → Run l R Z W Q h' k n (mkF W.m pc' Ls st)) : Run l R Z W Q h k n (mkF W.m pc Ls (v :: .ref a :: st)) := by
  subst hp
  exact Run.wrote ha (fun T locs X eT => RoadKit.putF X C.hx C.hZ C.ow (host := "") (Or.inl w) via eT F E (L.imp id fun q => ⟨q.1, q.2.1, C.nme.trans q.2.2⟩) wi hty hn hf (g := mkF W.m pc Ls (v :: .ref a :: st)) rfl rfl (C.hb hd)) r
theorem castore (C : Cx Z W own nm code maxL ret) (hd : decode code pc = .ok (.castore, 1)) {a : Addr} {vs vs' : List Value} {j x : Int32} (F : Ary Z h a .char vs) (h0 : ¬ j < 0) (h1 : j.toNatClampNeg < vs.length) (hx : nar .char x = x) (hs : vs.set j.toNatClampNeg (.int x) = vs') (ha : Z.heap.size ≤ a) (hp : pc + 1 = pc')
    (r : ∀ h', Wr h h' a j.toNatClampNeg (.int x) → Ary Z h' a .char vs' → Ext Z.heap h' → Run l R Z W Q h' k n (mkF W.m pc' Ls st)) : Run l R Z W Q h k n (mkF W.m pc Ls (.int x :: .int j :: .ref a :: st)) := by
  subst hp hs
  have F' := F
  obtain ⟨c, A, e, -⟩ := F'
  exact Run.wrote ha (fun T locs X eT => by have w0 := RoadKit.stC X C.hx C.hZ eT A (Ary.inb (a := a) (ty := .char) e h0 h1) (g := mkF W.m pc Ls (.int x :: .int j :: .ref a :: st)) rfl rfl (C.hb hd); rw [hx] at w0; exact w0) (fun h' w' O' => r h' w' (F.set w' (hx ▸ fits_nar_char x)) O')
theorem bastore (C : Cx Z W own nm code maxL ret) (hd : decode code pc = .ok (.bastore, 1)) {a : Addr} {vs vs' : List Value} {j x : Int32} (F : Ary Z h a .byte vs) (h0 : ¬ j < 0) (h1 : j.toNatClampNeg < vs.length) (hs : vs.set j.toNatClampNeg (.int (nar .byte x)) = vs') (ha : Z.heap.size ≤ a) (hp : pc + 1 = pc')
    (r : ∀ h', Wr h h' a j.toNatClampNeg (.int (nar .byte x)) → Ary Z h' a .byte vs' → Ext Z.heap h' → Run l R Z W Q h' k n (mkF W.m pc' Ls st)) : Run l R Z W Q h k n (mkF W.m pc Ls (.int x :: .int j :: .ref a :: st)) := by
  subst hp hs
  have F' := F
  obtain ⟨c, A, e, -⟩ := F'
  exact Run.wrote ha (fun T locs X eT => by have w0 := RoadKit.stB X C.hx C.hZ eT A (Ary.inb (a := a) (ty := .byte) e h0 h1) (g := mkF W.m pc Ls (.int x :: .int j :: .ref a :: st)) rfl rfl (C.hb hd); exact w0) (fun h' w' O' => r h' w' (F.set w' (fits_nar_byte x)) O')
theorem iastore (C : Cx Z W own nm code maxL ret) (hd : decode code pc = .ok (.iastore, 1)) {a : Addr} {vs vs' : List Value} {j x : Int32} (F : Ary Z h a .int vs) (h0 : ¬ j < 0) (h1 : j.toNatClampNeg < vs.length) (hs : vs.set j.toNatClampNeg (.int x) = vs') (ha : Z.heap.size ≤ a) (hp : pc + 1 = pc')
    (r : ∀ h', Wr h h' a j.toNatClampNeg (.int x) → Ary Z h' a .int vs' → Ext Z.heap h' → Run l R Z W Q h' k n (mkF W.m pc' Ls st)) : Run l R Z W Q h k n (mkF W.m pc Ls (.int x :: .int j :: .ref a :: st)) := by
  subst hp hs
  have F' := F
  obtain ⟨c, A, e, -⟩ := F'
  exact Run.wrote ha (fun T locs X eT => by have w0 := RoadKit.stI X C.hx C.hZ eT A (Ary.inb (a := a) (ty := .int) e h0 h1) (g := mkF W.m pc Ls (.int x :: .int j :: .ref a :: st)) rfl rfl (C.hb hd); exact w0) (fun h' w' O' => r h' w' (F.set w' rfl) O')
theorem aastore (C : Cx Z W own nm code maxL ret) (hd : decode code pc = .ok (.aastore, 1)) {a : Addr} {ty : FieldType} {vs vs' : List Value} {j : Int32} {v : Value} (F : Ary Z h a ty vs) (h0 : ¬ j < 0) (h1 : j.toNatClampNeg < vs.length) (ht : ty.isReference = true) (S : Sto Z h a v) (hf : fits ty v = true) (hs : vs.set j.toNatClampNeg v = vs') (ha : Z.heap.size ≤ a) (hp : pc + 1 = pc')
    (r : ∀ h', Wr h h' a j.toNatClampNeg v → Ary Z h' a ty vs' → Ext Z.heap h' → Run l R Z W Q h' k n (mkF W.m pc' Ls st)) : Run l R Z W Q h k n (mkF W.m pc Ls (v :: .int j :: .ref a :: st)) := by
  subst hp hs
  have F' := F
  obtain ⟨c, A, e, -⟩ := F'
  exact Run.wrote ha (fun T locs X eT => stR X C.hx C.hZ eT A (Ary.inb (a := a) (ty := ty) e h0 h1) ht S (g := mkF W.m pc Ls (v :: .int j :: .ref a :: st)) rfl rfl (C.hb hd)) (fun h' w' O' => r h' w' (F.set w' hf) O')
/-- what a fresh object holds -/
abbrev Fresh (Z : State) (a0 : Array Value) (h' : Heap) (a : Addr) (K : String) : Prop := ∀ {O nm d : String} {ty : FieldType}, Laid Z a0 K O nm d → parseFieldDescriptor d = some ty → Fld Z h' a O nm d (defaultValue ty)
theorem newO (C : Cx Z W own nm code maxL ret) {K : String} {ix sl k' n' : Nat} (hd : decode code pc = .ok (.new ix, 3)) (w : (Cond.classLink own ix K).before a0 Z = true) (wi : (Cond.instantiable K sl).before a0 Z = true) (wz : (Cond.initialized K).before a0 Z = true) (hc : k + 1 = k') (hl : n + sl = n') (hc' : k' ≤ R.cells) (hl' : n' ≤ R.slots) (hp : pc + 3 = pc')
    (r : ∀ a h', a = h.size → Z.heap.size ≤ a → Ext h h' → Exa Z h' a K → Fresh Z a0 h' a K → Unt h' a → Ext Z.heap h' → Run l R Z W Q h' k' n' (mkF W.m pc' Ls (.ref a :: st))) : Run l R Z W Q h k n (mkF W.m pc Ls st) := by
  subst hp hc hl
  intro T locs X eT N O
  obtain ⟨T', h', X', e', E', A', D', U', s'⟩ := RoadKit.newO X C.hx C.hZ C.ow w wi wz eT (g := mkF W.m pc Ls st) rfl (C.hb hd) hc' hl'
  have O' : Ext Z.heap h' := ((old_of O).ext E').2
  exact Go.step s' (r h.size h' rfl O.1 E' A' D' U' O' T' locs X' e' N O')
theorem newA (C : Cx Z W own nm code maxL ret) {aty : ArrayType} {ty : FieldType} {z : Int32} {k' n' cap : Nat} (hd : decode code pc = .ok (.newarray aty, 2)) (ht : newarray.typeOf aty = ty) (w : (Cond.arrayClass ty).before a0 Z = true) (hz : ¬ z < 0) (hcap : z.toNatClampNeg ≤ cap) (hb : cap * 8 ≤ 536870912) (hc : k + 1 = k') (hl : n + cap = n') (hc' : k' ≤ R.cells) (hl' : n' ≤ R.slots) (hdf : fits ty (defaultValue ty) = true) (hp : pc + 2 = pc')
    (r : ∀ a h', a = h.size → Z.heap.size ≤ a → Ext h h' → Ary Z h' a ty (List.replicate z.toNatClampNeg (defaultValue ty)) → Ext Z.heap h' → Run l R Z W Q h' k' n' (mkF W.m pc' Ls (.ref a :: st))) : Run l R Z W Q h k n (mkF W.m pc Ls (.int z :: st)) := by
  subst hp hc hl ht
  intro T locs X eT N O
  obtain ⟨T', h', cA, X', e', E', A', s'⟩ := newP X C.hx C.hZ w eT (g := mkF W.m pc Ls (.int z :: st)) rfl (C.hb hd) rfl hz hcap hb hc' hl'
  have O' : Ext Z.heap h' := ((old_of O).ext E').2
  have hz2 : z.toNatClampNeg < 2 ^ 31 := (back32 hz).2
  refine Go.step s' (r h.size h' rfl O.1 E' ⟨_, A', ?_, by simpa using hz2, fun v hv => ?_⟩ O' T' locs X' e' N O')
  · show Array.replicate _ _ = _
    simp
  · rw [(List.mem_replicate.mp hv).2]; exact hdf
theorem initO (C : Cx Z W own nm code maxL ret) {ix Wn : Nat} (hd : decode code pc = .ok (.invokespecial ix, 3)) (w1 : (Cond.methodLink own ix Lib.objectInit).before a0 Z = true) (w2 : (Cond.instanceMethod Lib.objectInit).before a0 Z = true) (w3 : (Cond.code Lib.objectInit ⟨#[0xb1]⟩ 1 none).before a0 Z = true) {a : Addr} (hsz : Ls.size = maxL) (hf : 1 ≤ R.frames) (hW : (st.map fun v => v.category).sum ≤ Wn) (hl : Wn + 12 ≤ R.locals) (hp : pc + 3 = pc')
    (r : Run l R Z W Q h k n (mkF W.m pc' Ls st)) : Run l R Z W Q h k n (mkF W.m pc Ls (.ref a :: st)) := by
  subst hp
  exact Run.via (fun T locs X eT => RoadKit.initO X C.hx C.hZ C.ow w1 w2 w3 eT (g := mkF W.m pc Ls (.ref a :: st)) rfl (hsz.trans C.ml.symm) rfl (C.hb hd) hf (W := Wn) (by show 2 * 0 + _ ≤ _; omega) hl) r
/-! ## contracts and calls -/
/-- the method y, called with these arguments at the heap h0, returns with Q -/
def Con (l : Launch) (Z : State) (y : MethodName) (bytes : ByteArray) (maxL : Nat) (ret : Option FieldType) (rm : Room) (as' : Array Value) (h0 : Heap) (Q : Post) : Prop :=
  ∀ ws, MetFree l y (head1 (Jvm.Cond.code y bytes maxL ret :: ws) rm) (fun a U => a = as' ∧ Z.Warmed39 U.vm ∧ U.heap = h0) (fun _ _ _ _ _ => True) (fun _ U o U' => ∃ v L, o = .returned v ∧ (Q v U'.heap ∧ Ext Z.heap U'.heap ∧ Fr Z.heap.size L) ∧ FrameEnd U o U' L rm.cells rm.slots)
theorem Con.intro {y : MethodName} {bytes : ByteArray} {rm : Room} {as' : Array Value} {Ls0 : Array Slot} (hy : plainFor y = true) (O : Ext Z.heap h) (he : ∀ m, entryFrame m as' maxL = mkF m 0 Ls0 [])
    (body : ∀ W : Wd, Cx Z W y.cls y.name bytes maxL ret → Run l rm Z W Q h 0 0 (mkF W.m 0 Ls0 [])) : Con l Z y bytes maxL ret rm as' h Q := by
  intro ws
  refine MetFree.of_bodySF hy hisR ?_
  intro p e s m args below meth c s₁ Bd hml0 hP hK
  obtain ⟨rfl, hZ, hh⟩ := hP
  have e0 : s₁.heap = h := by rw [← hh, Bd.state]; rfl
  have X0 : Stand p l e rm s m args below meth c s₁ [] 0 0 := Stand.of_body Bd
  have r := body (p, e, s, m, args, below, meth, c) ⟨Bd.exec, Bd.bytes, hml0, findClass_of_methodNamed Bd.named, hZ, Bd.returns, (name_of_methodNamed Bd.named Bd.method).1, Bd.notSynchronized⟩ s₁ [] X0 e0 (Fr.nil _) O
  rw [he m]
  exact r
theorem Con.mono {y : MethodName} {bytes : ByteArray} {rm : Room} {as' : Array Value} {Q' : Post} (c : Con l Z y bytes maxL ret rm as' h Q) (f : ∀ v h', Q v h' → Q' v h') : Con l Z y bytes maxL ret rm as' h Q' := by
  intro ws p e ha hc hk s m args below hf happ hP hK
  obtain ⟨n, o, h1, h2, h3, v, L, h4, ⟨h5, h6⟩, h7⟩ := c ws p e ha hc hk s m args below hf happ hP hK
  exact ⟨n, o, h1, h2, h3, v, L, h4, ⟨f _ _ h5, h6⟩, h7⟩
section Calls
variable {y : MethodName} {bytes : ByteArray} {mxL : Nat} {rt : Option FieldType} {rm : Room} {Qc : Post} {argsL : List Value} {as' : Array Value} {ix Wn k' n' kc nc : Nat} {st' : List Value}
/-- a law of the library, or a contract, as a call takes it -/
abbrev Pays (l : Launch) (R : Room) (W : Wd) (y : MethodName) (ln Wn : Nat) (as' : Array Value) (h : Heap) (kc nc : Nat) (Qv : Option Value → Heap → List Loc → Prop) : Prop :=
  Back l R W.p W.e W.b W.s W.a y ln Wn (fun P a => a = as' ∧ P.U.heap = h ∧ P.cells + kc ≤ R.cells ∧ P.slots + nc ≤ R.slots) (fun P _ v B => ∃ L, Qv v B.U.heap L ∧ B.locs = P.locs ++ L ∧ B.cells = P.cells + kc ∧ B.slots = P.slots + nc)
abbrev Clean (Z : State) (Qc : Post) (Qv : Option Value → Heap → List Loc → Prop) : Prop := ∀ v h' L, Qv v h' L → Qc v h' ∧ Ext Z.heap h' ∧ Fr Z.heap.size L
theorem Con.pays (C : Cx Z W own nm code maxL ret) {ln : Nat} (K : Con l Z y bytes mxL rt rm as' h Qc) (w4 : (Cond.code y bytes mxL rt).before a0 Z = true) (wz : (Cond.initialized y.cls).before a0 Z = true) (hf : rm.frames + 1 ≤ R.frames) (hl : Wn + (mxL + 11) + rm.locals ≤ R.locals) :
    Pays l R W y ln Wn as' h rm.cells rm.slots (fun v h' L => Qc v h' ∧ Ext Z.heap h' ∧ Fr Z.heap.size L) := backOf (W := Wn) (Q := fun v h' L => Qc v h' ∧ Ext Z.heap h' ∧ Fr Z.heap.size L) (K []) C.hZ w4 wz hf hl
theorem callS (C : Cx Z W own nm code maxL ret) (hd : decode code pc = .ok (.invokestatic ix, 3)) {Qv : Option Value → Heap → List Loc → Prop} (K : Pays l R W y 3 Wn as' h kc nc Qv) (hQ : Clean Z Qc Qv) (w1 : (Cond.methodLink own ix y).before a0 Z = true) (w2 : (Cond.static y).before a0 Z = true) (w3 : (Cond.initialized y.cls).before a0 Z = true) (w4 : (Cond.code y bytes mxL rt).before a0 Z = true) (hy : y.cls ≠ "java/lang/invoke/MethodHandle" ∧ y.cls ≠ "java/lang/invoke/VarHandle")
    (has : argsL.toArray = as') (hst : argsL.reverse ++ st = st') (hlen : ∀ sig, parseMethodDescriptor y.desc = some sig → argsL.length = sig.parameters.length) (hsz : Ls.size = maxL) (hW : (st.map fun v => v.category).sum ≤ Wn) (hk : k + kc = k') (hn : n + nc = n') (hk' : k' ≤ R.cells) (hn' : n' ≤ R.slots) (hp : pc + 3 = pc')
    (r : ∀ v h', Qc v h' → Ext Z.heap h' → Run l R Z W Q h' k' n' (mkF W.m pc' Ls (v.toList ++ st))) : Run l R Z W Q h k n (mkF W.m pc Ls st') := by
  subst hp hk hn has hst
  intro T locs X eT N O
  obtain ⟨v, vm₁, ⟨T', L', k', n'⟩, -, X', ⟨L, q0, l1, y1, z1⟩, s'⟩ := Jvm.LawKit.callS X C.hx (y := y) C.ow (mvT C.hZ w1) (mvT C.hZ w2) (mvT C.hZ w3) (mvT C.hZ w4) hy K (g := mkF W.m pc Ls (argsL.reverse ++ st)) rfl (hsz.trans C.ml.symm) (argsL := argsL) (rest := st) hlen rfl (by show 2 * 0 + _ ≤ _; omega) (C.hb hd) (fun _ _ => ⟨rfl, eT, hk', hn'⟩)
  dsimp only [Pt.U, Pt.locs, Pt.cells, Pt.slots] at X' l1 y1 z1 s' q0
  subst l1 y1 z1
  obtain ⟨q1, q2, q3⟩ := hQ _ _ _ q0
  exact Go.step s' (r v T'.heap q1 q2 T' _ X' rfl (N.app q3) q2)
theorem callI (C : Cx Z W own nm code maxL ret) (hd : decode code pc = .ok (.invokespecial ix, 3)) {a : Addr} {Qv : Option Value → Heap → List Loc → Prop} (K : Pays l R W y 3 Wn as' h kc nc Qv) (hQ : Clean Z Qc Qv) (hi : y.name = "<init>") (w1 : (Cond.methodLink own ix y).before a0 Z = true) (w2 : (Cond.instanceMethod y).before a0 Z = true) (w4 : (Cond.code y bytes mxL none).before a0 Z = true) (hy : y.cls ≠ "java/lang/invoke/MethodHandle" ∧ y.cls ≠ "java/lang/invoke/VarHandle")
    (has : (Value.ref a :: argsL).toArray = as') (hst : argsL.reverse ++ .ref a :: st = st') (hlen : ∀ sig, parseMethodDescriptor y.desc = some sig → argsL.length = sig.parameters.length) (hsz : Ls.size = maxL) (hW : (st.map fun v => v.category).sum ≤ Wn) (hk : k + kc = k') (hn : n + nc = n') (hk' : k' ≤ R.cells) (hn' : n' ≤ R.slots) (hp : pc + 3 = pc')
    (r : ∀ v h', Qc v h' → Ext Z.heap h' → Run l R Z W Q h' k' n' (mkF W.m pc' Ls (v.toList ++ st))) : Run l R Z W Q h k n (mkF W.m pc Ls st') := by
  subst hp hk hn has hst
  intro T locs X eT N O
  obtain ⟨v, vm₁, ⟨T', L', k', n'⟩, -, X', ⟨L, q0, l1, y1, z1⟩, s'⟩ := X.specialBack C.hx (y := y) hi C.ow (mvT C.hZ w1) (mvT C.hZ w2) (mvT C.hZ w4) hy K (g := mkF W.m pc Ls (argsL.reverse ++ .ref a :: st)) rfl (hsz.trans C.ml.symm) (Steps.refl _) (a := a) (argsL := argsL) (rest := st) hlen rfl (by show 2 * 0 + _ ≤ _; omega) (C.hb hd) (fun _ _ => ⟨rfl, eT, hk', hn'⟩)
  dsimp only [Pt.U, Pt.locs, Pt.cells, Pt.slots] at X' l1 y1 z1 s' q0
  subst l1 y1 z1
  obtain ⟨q1, q2, q3⟩ := hQ _ _ _ q0
  exact Go.step (fun t => s'.trans) (r v T'.heap q1 q2 T' _ X' rfl (N.app q3) q2)
theorem callV (C : Cx Z W own nm code maxL ret) (hd : decode code pc = .ok (.invokevirtual ix, 3)) {y0 : MethodName} {K0 : String} {a : Addr} {Qv : Option Value → Heap → List Loc → Prop} (K : Pays l R W y 3 Wn as' h kc nc Qv) (hQ : Clean Z Qc Qv) (E : Exa Z h a K0) (w1 : (Cond.methodLink own ix y0).before a0 Z = true) (w2 : (Cond.declares y0).before a0 Z = true) (nf : NotFace W.s y0) (w3 : (Cond.selects K0 y0 y).before a0 Z = true) (w5 : (Cond.instanceMethod y).before a0 Z = true) (hy : y0.cls ≠ "java/lang/invoke/MethodHandle" ∧ y0.cls ≠ "java/lang/invoke/VarHandle")
    (has : (Value.ref a :: argsL).toArray = as') (hst : argsL.reverse ++ .ref a :: st = st') (hlen : ∀ sig, parseMethodDescriptor y0.desc = some sig → argsL.length = sig.parameters.length) (hsz : Ls.size = maxL) (hW : (st.map fun v => v.category).sum ≤ Wn) (hk : k + kc = k') (hn : n + nc = n') (hk' : k' ≤ R.cells) (hn' : n' ≤ R.slots) (hp : pc + 3 = pc')
    (r : ∀ v h', Qc v h' → Ext Z.heap h' → Run l R Z W Q h' k' n' (mkF W.m pc' Ls (v.toList ++ st))) : Run l R Z W Q h k n (mkF W.m pc Ls st') := by
  subst hp hk hn has hst
  intro T locs X eT N O
  obtain ⟨cq, kq, qa, qb, qc⟩ := isOf C.hZ eT E
  obtain ⟨v, vm₁, ⟨T', L', k', n'⟩, -, X', ⟨L, q0, l1, y1, z1⟩, s'⟩ := X.virtualBack C.hx (y := y0) (z := y) C.ow (mvT C.hZ w1) (mvT C.hZ w2) nf (mvT C.hZ w3) (mvT C.hZ w5) hy K qa qc (g := mkF W.m pc Ls (argsL.reverse ++ .ref a :: st)) rfl (hsz.trans C.ml.symm) (Steps.refl _) (argsL := argsL) (rest := st) hlen rfl (by show 2 * 0 + _ ≤ _; omega) (C.hb hd) (fun _ _ => ⟨rfl, eT, hk', hn'⟩)
  dsimp only [Pt.U, Pt.locs, Pt.cells, Pt.slots] at X' l1 y1 z1 s' q0
  subst l1 y1 z1
  obtain ⟨q1, q2, q3⟩ := hQ _ _ _ q0
  exact Go.step (fun t => s'.trans) (r v T'.heap q1 q2 T' _ X' rfl (N.app q3) q2)
theorem callVU (C : Cx Z W own nm code maxL ret) (hd : decode code pc = .ok (.invokevirtual ix, 3)) {y0 : MethodName} {K0 owner : String} {a : Addr} {Qv : Option Value → Heap → List Loc → Prop} (K : Pays l R W y 3 Wn as' h kc nc Qv) (hQ : Clean Z Qc Qv) (E : Exa Z h a K0) (w1 : (Cond.methodLink own ix y0).before a0 Z = true) (w0 : (Cond.sameMethod y0.cls owner y0.name y0.desc).before a0 Z = true) (w2 : (Cond.declares ⟨owner, y0.name, y0.desc⟩).before a0 Z = true) (w3 : (Cond.selects K0 y0 y).before a0 Z = true) (w5 : (Cond.instanceMethod y).before a0 Z = true) (hy : owner ≠ "java/lang/invoke/MethodHandle" ∧ owner ≠ "java/lang/invoke/VarHandle")
    (has : (Value.ref a :: argsL).toArray = as') (hst : argsL.reverse ++ .ref a :: st = st') (hlen : ∀ sig, parseMethodDescriptor y0.desc = some sig → argsL.length = sig.parameters.length) (hsz : Ls.size = maxL) (hW : (st.map fun v => v.category).sum ≤ Wn) (hk : k + kc = k') (hn : n + nc = n') (hk' : k' ≤ R.cells) (hn' : n' ≤ R.slots) (hp : pc + 3 = pc')
    (r : ∀ v h', Qc v h' → Ext Z.heap h' → Run l R Z W Q h' k' n' (mkF W.m pc' Ls (v.toList ++ st))) : Run l R Z W Q h k n (mkF W.m pc Ls st') := by
  subst hp hk hn has hst
  intro T locs X eT N O
  obtain ⟨cq, kq, qa, qb, qc⟩ := isOf C.hZ eT E
  obtain ⟨v, vm₁, ⟨T', L', k', n'⟩, -, X', ⟨L, q0, l1, y1, z1⟩, s'⟩ := X.virtualBackUp C.hx (x := y0) (y := y) C.ow (mvT C.hZ w1) (mvT C.hZ w0) (mvT C.hZ w2) hy (mvT C.hZ w3) (mvT C.hZ w5) K qa qc (g := mkF W.m pc Ls (argsL.reverse ++ .ref a :: st)) rfl (hsz.trans C.ml.symm) (Steps.refl _) (argsL := argsL) (rest := st) hlen rfl (by show 2 * 0 + _ ≤ _; omega) (C.hb hd) (fun _ _ => ⟨rfl, eT, hk', hn'⟩)
  dsimp only [Pt.U, Pt.locs, Pt.cells, Pt.slots] at X' l1 y1 z1 s' q0
  subst l1 y1 z1
  obtain ⟨q1, q2, q3⟩ := hQ _ _ _ q0
  exact Go.step (fun t => s'.trans) (r v T'.heap q1 q2 T' _ X' rfl (N.app q3) q2)
theorem clean0 {Qv : Post} (O : Ext Z.heap h) : Clean Z (fun v h' => Qv v h' ∧ h' = h) (fun v h' L => (Qv v h' ∧ h' = h) ∧ L = []) := fun v h' L q => by
  obtain ⟨⟨q1, rfl⟩, rfl⟩ := q
  exact ⟨⟨q1, rfl⟩, O, Fr.nil _⟩
theorem cleanC {Qc : Post} : Clean Z Qc (fun v h' L => Qc v h' ∧ Ext Z.heap h' ∧ Fr Z.heap.size L) := fun v h' L q => q
end Calls
theorem Ext.refl (h : Heap) : Ext h h := ⟨Nat.le_refl _, fun _ _ q => q⟩
theorem Ext.trans {h1 h2 h3 : Heap} (A : Ext h1 h2) (B : Ext h2 h3) : Ext h1 h3 := ⟨Nat.le_trans A.1 B.1, fun a c q => B.2 a c (A.2 a c q)⟩
theorem Ext.wr {Z : State} {h1 h2 h3 : Heap} {a : Addr} {sl : Nat} {v : Value} (A : Ext h1 h2) (B : Wr h2 h3 a sl v) (q : h1.size ≤ a) : Ext h1 h3 := ((old_of (Z := { Z with heap := h1 }) A).wr B q).2
theorem Ext.keep1 {Z : State} {h1 h2 h3 : Heap} {a : Addr} (A : Ext h1 h2) (B : Keep h2 h3 [a]) (q : h1.size ≤ a) : Ext h1 h3 := ((old_of (Z := { Z with heap := h1 }) A).keep B (allS q all0)).2
theorem Keep.toExt {h1 h2 : Heap} (A : Keep h1 h2 []) : Ext h1 h2 := ⟨A.1, fun a c q => A.2.1 a c q nin0⟩
/-! ## returns -/
theorem Run.leave (C : Cx Z W own nm code maxL ret) {v : Option Value} {f : JFrame} (hv : ret = none → v = none) (q : Q v h) (hk : k ≤ R.cells) (hn : n ≤ R.slots)
    (s' : ∀ T locs, Std l R W T locs k n → ∀ fs, (∀ (f : JFrame) (acts : List Action), f.method = W.m → f.locked = none → f.entered = [] → (doReturn W.e (T.setTop f) acts v).1 = T.setFrames fs) → Steps W.p.tables W.e W.b (T.setTop f) (T.setFrames fs)) : Run l R Z W Q h k n f := by
  intro T locs X eT N O
  have hlk : W.t.locks = false := C.lk
  obtain ⟨fs, hr, hrun, hended, hW, hsame⟩ := X.leave (v := v) (fun hh => hv (C.rt.symm.trans hh))
  have e2 : (T.setFrames fs).heap = h := eT
  exact ⟨_, _, s' T locs X fs hr, hrun, hended, _, _, rfl, ⟨by rw [e2]; exact q, by rw [e2]; exact O, N⟩, ⟨_, rfl⟩, hW, hsame.mono hk hn⟩
theorem retV (C : Cx Z W own nm code maxL none) (hd : decode code pc = .ok (.return_, 1)) (hk : k ≤ R.cells) (hn : n ≤ R.slots) (q : Q none h) : Run l R Z W Q h k n (mkF W.m pc Ls []) :=
  Run.leave C (fun _ => rfl) q hk hn (fun T locs X fs hr => X.returnOut C.hx C.rt (C.hb hd) hr)
theorem retI (C : Cx Z W own nm code maxL (some .int)) (hd : decode code pc = .ok (.ireturn, 1)) {z : Int32} (hk : k ≤ R.cells) (hn : n ≤ R.slots) (q : Q (some (.int z)) h) : Run l R Z W Q h k n (mkF W.m pc Ls (.int z :: st)) :=
  Run.leave C (fun hh => nomatch hh) q hk hn (fun T locs X fs hr => retOut X C.hx C.rt rfl (Or.inl ⟨rfl, Or.inl rfl, z, rfl⟩) (C.hb hd) hr)
theorem retNar {ty : FieldType} (C : Cx Z W own nm code maxL (some ty)) (ht : ty = .boolean ∨ ty = .byte ∨ ty = .char ∨ ty = .short) (hd : decode code pc = .ok (.ireturn, 1)) {z z' : Int32} (hz : nar ty z = z') (hk : k ≤ R.cells) (hn : n ≤ R.slots) (q : Q (some (.int z')) h) : Run l R Z W Q h k n (mkF W.m pc Ls (.int z :: st)) := by
  subst hz
  exact Run.leave C (fun hh => nomatch hh) q hk hn (fun T locs X fs hr => retN X C.hx C.rt ht (C.hb hd) hr)
theorem retL (C : Cx Z W own nm code maxL (some .long)) (hd : decode code pc = .ok (.lreturn, 1)) {z : Int64} (hk : k ≤ R.cells) (hn : n ≤ R.slots) (q : Q (some (.long z)) h) : Run l R Z W Q h k n (mkF W.m pc Ls (.long z :: st)) :=
  Run.leave C (fun hh => nomatch hh) q hk hn (fun T locs X fs hr => retOut X C.hx C.rt rfl (Or.inr (Or.inl ⟨rfl, rfl, z, rfl⟩)) (C.hb hd) hr)
theorem retA {ty : FieldType} {v : Value} (C : Cx Z W own nm code maxL (some ty)) (ht : ty.isReference = true) (hv : v.isRef = true) (hd : decode code pc = .ok (.areturn, 1)) (hk : k ≤ R.cells) (hn : n ≤ R.slots) (q : Q (some v) h) : Run l R Z W Q h k n (mkF W.m pc Ls (v :: st)) :=
  Run.leave C (fun hh => nomatch hh) q hk hn (fun T locs X fs hr => retOut X C.hx C.rt (by rcases ref_cases hv with rfl | ⟨a, rfl⟩ <;> cases ty <;> simp [FieldType.isReference] at ht <;> rfl) (Or.inr (Or.inr (Or.inr (Or.inr ⟨rfl, ht, hv⟩)))) (C.hb hd) hr)
end Kit
end Wk

def Ws (a0 : Array Value) (Z : State) : Prop := ∀ d ∈ tables_1, d.before a0 Z = true
theorem Wk.nar_i2c {x v : Int32} (h : x.toUInt32.toUInt16.toUInt32.toInt32 = v) : nar .char v = v := by subst h; simp only [nar, UInt32.toUInt32_toInt32, UInt16.toUInt16_toUInt32]
theorem Wk.nar_i2b {x v : Int32} (h : x.toInt8.toInt32 = v) : nar .byte v = v := by
  subst h
  show x.toInt8.toInt32.toInt8.toInt32 = _
  simp
theorem Wk.catR {v : Value} (h : v.isRef = true) : v.category = 1 := by rcases ref_cases h with rfl | ⟨a, rfl⟩ <;> rfl
theorem Wk.narR {v : Value} {t : FieldType} (h : v.isRef = true) (ht : t.isReference = true) : narrow t v = v := by rcases ref_cases h with rfl | ⟨a, rfl⟩ <;> cases t <;> simp [FieldType.isReference] at ht <;> rfl
theorem Wk.fitR {v : Value} {t : FieldType} (h : v.isRef = true) (ht : t.isReference = true) : fits t v = true := by rcases ref_cases h with rfl | ⟨a, rfl⟩ <;> cases t <;> simp [FieldType.isReference] at ht <;> rfl
theorem Wk.rng255 {p v w : Int32} (h : p &&& 255 = v) (h' : v.toUInt32.toUInt16.toUInt32.toInt32 = w) : ¬ w < 0 ∧ ¬ (255 : Int32) < w := by
  subst h h'
  rw [i2c_mask, Int32.lt_iff_toInt_lt, Int32.lt_iff_toInt_lt, c_mask p 255 8 (by decide) (by decide)]
  have : (0 : Int32).toInt = 0 := by decide
  have : (255 : Int32).toInt = 255 := by decide
  omega
theorem Wk.ord {args : Array Value} {s : State} {t : Term} {a : Addr} {C n : String} {k : Int32} (ht : t.eval args s none [] s = some (.ref a)) (h : (Jvm.Cond.eq (.field t C n "I") (.int k)).value args s none s [] = some true) : Fld s s.heap a C n "I" (.int k) := by
  obtain ⟨x, y, e1, e2, -, kin⟩ := cmp_v (Or.inl h)
  cases (Term.int_eval k).symm.trans e2
  obtain ⟨z, rfl⟩ := kin
  cases gotT (Cond.eq_ints e1 e2) h
  exact Fld.start ((fld_at ht).symm.trans e1)
theorem Wk.nar_rng {c : Int32} (h : ¬ c < 0 ∧ ¬ (255 : Int32) < c) : nar .char c = c := by
  show c.toUInt32.toUInt16.toUInt32.toInt32 = c
  have h1 := c_i2c c
  obtain ⟨h2, h3⟩ := h
  rw [Int32.lt_iff_toInt_lt] at h2 h3
  have e0 : (0 : Int32).toInt = 0 := by decide
  have e1 : (255 : Int32).toInt = 255 := by decide
  exact Int32.toInt_inj.mp (by omega)
theorem Wk.mask31 {f v : Int32} (h : f &&& 2147483647 = v) : 0 ≤ v.toInt := by
  subst h
  rw [c_mask f 2147483647 31 (by decide) (by decide)]
  omega
theorem Wk.modr {v d w : Int32} (h0 : 0 ≤ v.toInt) (hd : 0 < d.toInt) (h : v % d = w) : 0 ≤ w.toInt ∧ w.toInt < d.toInt := by
  subst h
  have q := (c_iremV v d).1 h0 hd
  exact ⟨q.1, q.2.1⟩
theorem Wk.addI {x y v : Int32} (h : x + y = v) : (v.toInt - (x.toInt + y.toInt)) % 4294967296 = 0 := h ▸ c_iadd x y
theorem Wk.subI {x y v : Int32} (h : x - y = v) : (v.toInt - (x.toInt - y.toInt)) % 4294967296 = 0 := h ▸ c_isub x y
theorem Wk.mulI {x y v : Int32} (h : x * y = v) : (v.toInt - (x.toInt * y.toInt)) % 4294967296 = 0 := h ▸ c_imul x y
theorem Wk.eqI {x y : Int32} (h : x.toInt = y.toInt) : x = y := Int32.toInt_inj.mp h
theorem Wk.ltI {x y : Int32} : x < y ↔ x.toInt < y.toInt := Int32.lt_iff_toInt_lt
theorem Wk.nn {x : Int32} (h : 0 ≤ x.toInt) : ¬ x < 0 := by
  have e0 : (0 : Int32).toInt = 0 := by decide
  rw [Wk.ltI]; omega
theorem Wk.clamp {x : Int32} (h : 0 ≤ x.toInt) : (x.toNatClampNeg : Int) = x.toInt := (nat_of (Wk.nn h)).symm
theorem Wk.ofNat {x : Int32} (h : 0 ≤ x.toInt) : x = Int32.ofNat x.toNatClampNeg := ((back32 (Wk.nn h)).1).symm
theorem Wk.getd {cs : List Int32} {i : Nat} (h : i < cs.length) : (cs.map Value.int)[i]? = some (.int (cs.getD i 0)) := by simp [List.getD_eq_getElem?_getD, h]
abbrev StN : String := "java/lang/String"
abbrev PcN : String := "jdk/internal/util/Preconditions"
/-- the named sets of the JDK's statics, at the start -/
def Sets (Z : State) : Prop := ∃ (z : Int32) (fm : Value), Sta Z Z.heap StN "COMPACT_STRINGS" "Z" (.int z) ∧ ¬ z = 0 ∧ Sta Z Z.heap PcN "SIOOBE_FORMATTER" "Ljava/util/function/BiFunction;" fm ∧ fm.isRef = true
theorem w0 {a0 : Array Value} {Z : State} (hw : Ws a0 Z) : (Jvm.Cond.classLink "com/example/consentry/consentry/server/ExchangeWithBodyPinLaw" (7 : Nat) "java/lang/String").before a0 Z = true := hw _ (List.mem_of_getElem? (i := 0) rfl)
theorem w1 {a0 : Array Value} {Z : State} (hw : Ws a0 Z) : (Jvm.Cond.instantiable "java/lang/String" (4 : Nat)).before a0 Z = true := hw _ (List.mem_of_getElem? (i := 1) rfl)
theorem w2 {a0 : Array Value} {Z : State} (hw : Ws a0 Z) : (Jvm.Cond.initialized "java/lang/String").before a0 Z = true := hw _ (List.mem_of_getElem? (i := 2) rfl)
theorem w3 {a0 : Array Value} {Z : State} (hw : Ws a0 Z) : (Jvm.Cond.arrayClass Jvm.ClassFile.FieldType.char).before a0 Z = true := hw _ (List.mem_of_getElem? (i := 3) rfl)
theorem w4 {a0 : Array Value} {Z : State} (hw : Ws a0 Z) : (Jvm.Cond.methodLink "com/example/consentry/consentry/server/ExchangeWithBodyPinLaw" (9 : Nat) ({ cls := "java/lang/String", name := "<init>", desc := "([C)V" } : Jvm.MethodName)).before a0 Z = true := hw _ (List.mem_of_getElem? (i := 4) rfl)
theorem w5 {a0 : Array Value} {Z : State} (hw : Ws a0 Z) : (Jvm.Cond.instanceMethod ({ cls := "java/lang/String", name := "<init>", desc := "([C)V" } : Jvm.MethodName)).before a0 Z = true := hw _ (List.mem_of_getElem? (i := 5) rfl)
theorem w6 {a0 : Array Value} {Z : State} (hw : Ws a0 Z) : (Jvm.Cond.code ({ cls := "java/lang/String", name := "<init>", desc := "([C)V" } : Jvm.MethodName) jdk_42_method_3_code (2 : Nat) (Option.none : Option Jvm.ClassFile.FieldType)).before a0 Z = true := hw _ (List.mem_of_getElem? (i := 6) rfl)
theorem w12 {a0 : Array Value} {Z : State} (hw : Ws a0 Z) : (Jvm.Cond.instanceMethod ({ cls := "java/lang/Object", name := "<init>", desc := "()V" } : Jvm.MethodName)).before a0 Z = true := hw _ (List.mem_of_getElem? (i := 12) rfl)
theorem w13 {a0 : Array Value} {Z : State} (hw : Ws a0 Z) : (Jvm.Cond.code ({ cls := "java/lang/Object", name := "<init>", desc := "()V" } : Jvm.MethodName) object_method_1_code (1 : Nat) (Option.none : Option Jvm.ClassFile.FieldType)).before a0 Z = true := hw _ (List.mem_of_getElem? (i := 13) rfl)
theorem w19 {a0 : Array Value} {Z : State} (hw : Ws a0 Z) : (Jvm.Cond.arrayClass Jvm.ClassFile.FieldType.byte).before a0 Z = true := hw _ (List.mem_of_getElem? (i := 19) rfl)
theorem w27 {a0 : Array Value} {Z : State} (hw : Ws a0 Z) : (Jvm.Cond.laysFinal "java/lang/String" "java/lang/String" "coder" "B").before a0 Z = true := hw _ (List.mem_of_getElem? (i := 27) rfl)
theorem w29 {a0 : Array Value} {Z : State} (hw : Ws a0 Z) : (Jvm.Cond.laysFinal "java/lang/String" "java/lang/String" "value" "[B").before a0 Z = true := hw _ (List.mem_of_getElem? (i := 29) rfl)
theorem w30 {a0 : Array Value} {Z : State} (hw : Ws a0 Z) : (Jvm.Cond.classLink "com/example/consentry/consentry/server/ExchangeWithBodyPinLaw" (12 : Nat) "com/example/consentry/consentry/server/Exchange").before a0 Z = true := hw _ (List.mem_of_getElem? (i := 30) rfl)
theorem w31 {a0 : Array Value} {Z : State} (hw : Ws a0 Z) : (Jvm.Cond.instantiable "com/example/consentry/consentry/server/Exchange" (6 : Nat)).before a0 Z = true := hw _ (List.mem_of_getElem? (i := 31) rfl)
theorem w32 {a0 : Array Value} {Z : State} (hw : Ws a0 Z) : (Jvm.Cond.initialized "com/example/consentry/consentry/server/Exchange").before a0 Z = true := hw _ (List.mem_of_getElem? (i := 32) rfl)
theorem w33 {a0 : Array Value} {Z : State} (hw : Ws a0 Z) : (Jvm.Cond.methodLink "com/example/consentry/consentry/server/ExchangeWithBodyPinLaw" (14 : Nat) ({ cls := "com/example/consentry/consentry/server/Exchange", name := "<init>", desc := "(Ljava/lang/String;Ljava/lang/String;Ljava/lang/String;Ljava/util/Map;[BZ)V" } : Jvm.MethodName)).before a0 Z = true := hw _ (List.mem_of_getElem? (i := 33) rfl)
theorem w34 {a0 : Array Value} {Z : State} (hw : Ws a0 Z) : (Jvm.Cond.instanceMethod ({ cls := "com/example/consentry/consentry/server/Exchange", name := "<init>", desc := "(Ljava/lang/String;Ljava/lang/String;Ljava/lang/String;Ljava/util/Map;[BZ)V" } : Jvm.MethodName)).before a0 Z = true := hw _ (List.mem_of_getElem? (i := 34) rfl)
theorem w35 {a0 : Array Value} {Z : State} (hw : Ws a0 Z) : (Jvm.Cond.code ({ cls := "com/example/consentry/consentry/server/Exchange", name := "<init>", desc := "(Ljava/lang/String;Ljava/lang/String;Ljava/lang/String;Ljava/util/Map;[BZ)V" } : Jvm.MethodName) prog_60_method_1_code (7 : Nat) (Option.none : Option Jvm.ClassFile.FieldType)).before a0 Z = true := hw _ (List.mem_of_getElem? (i := 35) rfl)
theorem w36 {a0 : Array Value} {Z : State} (hw : Ws a0 Z) : (Jvm.Cond.methodLink "com/example/consentry/consentry/server/Exchange" (1 : Nat) ({ cls := "java/lang/Object", name := "<init>", desc := "()V" } : Jvm.MethodName)).before a0 Z = true := hw _ (List.mem_of_getElem? (i := 36) rfl)
theorem w37 {a0 : Array Value} {Z : State} (hw : Ws a0 Z) : (Jvm.Cond.fieldLink "com/example/consentry/consentry/server/Exchange" (7 : Nat) "com/example/consentry/consentry/server/Exchange" "method" "Ljava/lang/String;").before a0 Z = true := hw _ (List.mem_of_getElem? (i := 37) rfl)
theorem w38 {a0 : Array Value} {Z : State} (hw : Ws a0 Z) : (Jvm.Cond.laysFinal "com/example/consentry/consentry/server/Exchange" "com/example/consentry/consentry/server/Exchange" "method" "Ljava/lang/String;").before a0 Z = true := hw _ (List.mem_of_getElem? (i := 38) rfl)
theorem w39 {a0 : Array Value} {Z : State} (hw : Ws a0 Z) : (Jvm.Cond.fieldLink "com/example/consentry/consentry/server/Exchange" (13 : Nat) "com/example/consentry/consentry/server/Exchange" "rawPath" "Ljava/lang/String;").before a0 Z = true := hw _ (List.mem_of_getElem? (i := 39) rfl)
theorem w40 {a0 : Array Value} {Z : State} (hw : Ws a0 Z) : (Jvm.Cond.laysFinal "com/example/consentry/consentry/server/Exchange" "com/example/consentry/consentry/server/Exchange" "rawPath" "Ljava/lang/String;").before a0 Z = true := hw _ (List.mem_of_getElem? (i := 40) rfl)
theorem w41 {a0 : Array Value} {Z : State} (hw : Ws a0 Z) : (Jvm.Cond.fieldLink "com/example/consentry/consentry/server/Exchange" (16 : Nat) "com/example/consentry/consentry/server/Exchange" "rawQuery" "Ljava/lang/String;").before a0 Z = true := hw _ (List.mem_of_getElem? (i := 41) rfl)
theorem w42 {a0 : Array Value} {Z : State} (hw : Ws a0 Z) : (Jvm.Cond.laysFinal "com/example/consentry/consentry/server/Exchange" "com/example/consentry/consentry/server/Exchange" "rawQuery" "Ljava/lang/String;").before a0 Z = true := hw _ (List.mem_of_getElem? (i := 42) rfl)
theorem w43 {a0 : Array Value} {Z : State} (hw : Ws a0 Z) : (Jvm.Cond.fieldLink "com/example/consentry/consentry/server/Exchange" (19 : Nat) "com/example/consentry/consentry/server/Exchange" "fields" "Ljava/util/Map;").before a0 Z = true := hw _ (List.mem_of_getElem? (i := 43) rfl)
theorem w44 {a0 : Array Value} {Z : State} (hw : Ws a0 Z) : (Jvm.Cond.laysFinal "com/example/consentry/consentry/server/Exchange" "com/example/consentry/consentry/server/Exchange" "fields" "Ljava/util/Map;").before a0 Z = true := hw _ (List.mem_of_getElem? (i := 44) rfl)
theorem w45 {a0 : Array Value} {Z : State} (hw : Ws a0 Z) : (Jvm.Cond.fieldLink "com/example/consentry/consentry/server/Exchange" (23 : Nat) "com/example/consentry/consentry/server/Exchange" "body" "[B").before a0 Z = true := hw _ (List.mem_of_getElem? (i := 45) rfl)
theorem w46 {a0 : Array Value} {Z : State} (hw : Ws a0 Z) : (Jvm.Cond.laysFinal "com/example/consentry/consentry/server/Exchange" "com/example/consentry/consentry/server/Exchange" "body" "[B").before a0 Z = true := hw _ (List.mem_of_getElem? (i := 46) rfl)
theorem w47 {a0 : Array Value} {Z : State} (hw : Ws a0 Z) : (Jvm.Cond.fieldLink "com/example/consentry/consentry/server/Exchange" (27 : Nat) "com/example/consentry/consentry/server/Exchange" "bodyCut" "Z").before a0 Z = true := hw _ (List.mem_of_getElem? (i := 47) rfl)
theorem w48 {a0 : Array Value} {Z : State} (hw : Ws a0 Z) : (Jvm.Cond.laysFinal "com/example/consentry/consentry/server/Exchange" "com/example/consentry/consentry/server/Exchange" "bodyCut" "Z").before a0 Z = true := hw _ (List.mem_of_getElem? (i := 48) rfl)
theorem w49 {a0 : Array Value} {Z : State} (hw : Ws a0 Z) : (Jvm.Cond.methodLink "com/example/consentry/consentry/server/ExchangeWithBodyPinLaw" (17 : Nat) ({ cls := "com/example/consentry/consentry/server/Exchange", name := "withBody", desc := "([BZ)Lcom/example/consentry/consentry/server/Exchange;" } : Jvm.MethodName)).before a0 Z = true := hw _ (List.mem_of_getElem? (i := 49) rfl)
theorem w50 {a0 : Array Value} {Z : State} (hw : Ws a0 Z) : (Jvm.Cond.declares ({ cls := "com/example/consentry/consentry/server/Exchange", name := "withBody", desc := "([BZ)Lcom/example/consentry/consentry/server/Exchange;" } : Jvm.MethodName)).before a0 Z = true := hw _ (List.mem_of_getElem? (i := 50) rfl)
theorem w51 {a0 : Array Value} {Z : State} (hw : Ws a0 Z) : (Jvm.Cond.instanceMethod ({ cls := "com/example/consentry/consentry/server/Exchange", name := "withBody", desc := "([BZ)Lcom/example/consentry/consentry/server/Exchange;" } : Jvm.MethodName)).before a0 Z = true := hw _ (List.mem_of_getElem? (i := 51) rfl)
theorem w52 {a0 : Array Value} {Z : State} (hw : Ws a0 Z) : (Jvm.Cond.selects "com/example/consentry/consentry/server/Exchange" ({ cls := "com/example/consentry/consentry/server/Exchange", name := "withBody", desc := "([BZ)Lcom/example/consentry/consentry/server/Exchange;" } : Jvm.MethodName) ({ cls := "com/example/consentry/consentry/server/Exchange", name := "withBody", desc := "([BZ)Lcom/example/consentry/consentry/server/Exchange;" } : Jvm.MethodName)).before a0 Z = true := hw _ (List.mem_of_getElem? (i := 52) rfl)
theorem w53 {a0 : Array Value} {Z : State} (hw : Ws a0 Z) : (Jvm.Cond.code ({ cls := "com/example/consentry/consentry/server/Exchange", name := "withBody", desc := "([BZ)Lcom/example/consentry/consentry/server/Exchange;" } : Jvm.MethodName) prog_60_method_2_code (3 : Nat) (Option.some (Jvm.ClassFile.FieldType.object "com/example/consentry/consentry/server/Exchange"))).before a0 Z = true := hw _ (List.mem_of_getElem? (i := 53) rfl)
theorem w54 {a0 : Array Value} {Z : State} (hw : Ws a0 Z) : (Jvm.Cond.classLink "com/example/consentry/consentry/server/Exchange" (8 : Nat) "com/example/consentry/consentry/server/Exchange").before a0 Z = true := hw _ (List.mem_of_getElem? (i := 54) rfl)
theorem w55 {a0 : Array Value} {Z : State} (hw : Ws a0 Z) : (Jvm.Cond.methodLink "com/example/consentry/consentry/server/Exchange" (31 : Nat) ({ cls := "com/example/consentry/consentry/server/Exchange", name := "<init>", desc := "(Ljava/lang/String;Ljava/lang/String;Ljava/lang/String;Ljava/util/Map;[BZ)V" } : Jvm.MethodName)).before a0 Z = true := hw _ (List.mem_of_getElem? (i := 55) rfl)
theorem w56 {a0 : Array Value} {Z : State} (hw : Ws a0 Z) : (Jvm.Cond.methodLink "com/example/consentry/consentry/server/ExchangeWithBodyPinLaw" (21 : Nat) ({ cls := "com/example/consentry/consentry/server/Exchange", name := "method", desc := "()Ljava/lang/String;" } : Jvm.MethodName)).before a0 Z = true := hw _ (List.mem_of_getElem? (i := 56) rfl)
theorem w57 {a0 : Array Value} {Z : State} (hw : Ws a0 Z) : (Jvm.Cond.declares ({ cls := "com/example/consentry/consentry/server/Exchange", name := "method", desc := "()Ljava/lang/String;" } : Jvm.MethodName)).before a0 Z = true := hw _ (List.mem_of_getElem? (i := 57) rfl)
theorem w58 {a0 : Array Value} {Z : State} (hw : Ws a0 Z) : (Jvm.Cond.instanceMethod ({ cls := "com/example/consentry/consentry/server/Exchange", name := "method", desc := "()Ljava/lang/String;" } : Jvm.MethodName)).before a0 Z = true := hw _ (List.mem_of_getElem? (i := 58) rfl)
theorem w59 {a0 : Array Value} {Z : State} (hw : Ws a0 Z) : (Jvm.Cond.selects "com/example/consentry/consentry/server/Exchange" ({ cls := "com/example/consentry/consentry/server/Exchange", name := "method", desc := "()Ljava/lang/String;" } : Jvm.MethodName) ({ cls := "com/example/consentry/consentry/server/Exchange", name := "method", desc := "()Ljava/lang/String;" } : Jvm.MethodName)).before a0 Z = true := hw _ (List.mem_of_getElem? (i := 59) rfl)
theorem w60 {a0 : Array Value} {Z : State} (hw : Ws a0 Z) : (Jvm.Cond.code ({ cls := "com/example/consentry/consentry/server/Exchange", name := "method", desc := "()Ljava/lang/String;" } : Jvm.MethodName) prog_60_method_3_code (1 : Nat) (Option.some (Jvm.ClassFile.FieldType.object "java/lang/String"))).before a0 Z = true := hw _ (List.mem_of_getElem? (i := 60) rfl)
theorem w61 {a0 : Array Value} {Z : State} (hw : Ws a0 Z) : (Jvm.Cond.methodLink "com/example/consentry/consentry/server/ExchangeWithBodyPinLaw" (25 : Nat) ({ cls := "java/lang/String", name := "equals", desc := "(Ljava/lang/Object;)Z" } : Jvm.MethodName)).before a0 Z = true := hw _ (List.mem_of_getElem? (i := 61) rfl)
theorem w62 {a0 : Array Value} {Z : State} (hw : Ws a0 Z) : (Jvm.Cond.declares ({ cls := "java/lang/String", name := "equals", desc := "(Ljava/lang/Object;)Z" } : Jvm.MethodName)).before a0 Z = true := hw _ (List.mem_of_getElem? (i := 62) rfl)
theorem w63 {a0 : Array Value} {Z : State} (hw : Ws a0 Z) : (Jvm.Cond.instanceMethod ({ cls := "java/lang/String", name := "equals", desc := "(Ljava/lang/Object;)Z" } : Jvm.MethodName)).before a0 Z = true := hw _ (List.mem_of_getElem? (i := 63) rfl)
theorem w64 {a0 : Array Value} {Z : State} (hw : Ws a0 Z) : (Jvm.Cond.selects "java/lang/String" ({ cls := "java/lang/String", name := "equals", desc := "(Ljava/lang/Object;)Z" } : Jvm.MethodName) ({ cls := "java/lang/String", name := "equals", desc := "(Ljava/lang/Object;)Z" } : Jvm.MethodName)).before a0 Z = true := hw _ (List.mem_of_getElem? (i := 64) rfl)
theorem w65 {a0 : Array Value} {Z : State} (hw : Ws a0 Z) : (Jvm.Cond.code ({ cls := "java/lang/String", name := "equals", desc := "(Ljava/lang/Object;)Z" } : Jvm.MethodName) jdk_42_method_66_code (3 : Nat) (Option.some Jvm.ClassFile.FieldType.boolean)).before a0 Z = true := hw _ (List.mem_of_getElem? (i := 65) rfl)
theorem w66 {a0 : Array Value} {Z : State} (hw : Ws a0 Z) : (Jvm.Cond.methodLink "com/example/consentry/consentry/server/ExchangeWithBodyPinLaw" (29 : Nat) ({ cls := "com/example/consentry/consentry/server/Exchange", name := "rawPath", desc := "()Ljava/lang/String;" } : Jvm.MethodName)).before a0 Z = true := hw _ (List.mem_of_getElem? (i := 66) rfl)
theorem w67 {a0 : Array Value} {Z : State} (hw : Ws a0 Z) : (Jvm.Cond.declares ({ cls := "com/example/consentry/consentry/server/Exchange", name := "rawPath", desc := "()Ljava/lang/String;" } : Jvm.MethodName)).before a0 Z = true := hw _ (List.mem_of_getElem? (i := 67) rfl)
theorem w68 {a0 : Array Value} {Z : State} (hw : Ws a0 Z) : (Jvm.Cond.instanceMethod ({ cls := "com/example/consentry/consentry/server/Exchange", name := "rawPath", desc := "()Ljava/lang/String;" } : Jvm.MethodName)).before a0 Z = true := hw _ (List.mem_of_getElem? (i := 68) rfl)
theorem w69 {a0 : Array Value} {Z : State} (hw : Ws a0 Z) : (Jvm.Cond.selects "com/example/consentry/consentry/server/Exchange" ({ cls := "com/example/consentry/consentry/server/Exchange", name := "rawPath", desc := "()Ljava/lang/String;" } : Jvm.MethodName) ({ cls := "com/example/consentry/consentry/server/Exchange", name := "rawPath", desc := "()Ljava/lang/String;" } : Jvm.MethodName)).before a0 Z = true := hw _ (List.mem_of_getElem? (i := 69) rfl)
theorem w70 {a0 : Array Value} {Z : State} (hw : Ws a0 Z) : (Jvm.Cond.code ({ cls := "com/example/consentry/consentry/server/Exchange", name := "rawPath", desc := "()Ljava/lang/String;" } : Jvm.MethodName) prog_60_method_4_code (1 : Nat) (Option.some (Jvm.ClassFile.FieldType.object "java/lang/String"))).before a0 Z = true := hw _ (List.mem_of_getElem? (i := 70) rfl)
theorem w71 {a0 : Array Value} {Z : State} (hw : Ws a0 Z) : (Jvm.Cond.methodLink "com/example/consentry/consentry/server/ExchangeWithBodyPinLaw" (32 : Nat) ({ cls := "com/example/consentry/consentry/server/Exchange", name := "rawQuery", desc := "()Ljava/lang/String;" } : Jvm.MethodName)).before a0 Z = true := hw _ (List.mem_of_getElem? (i := 71) rfl)
theorem w72 {a0 : Array Value} {Z : State} (hw : Ws a0 Z) : (Jvm.Cond.declares ({ cls := "com/example/consentry/consentry/server/Exchange", name := "rawQuery", desc := "()Ljava/lang/String;" } : Jvm.MethodName)).before a0 Z = true := hw _ (List.mem_of_getElem? (i := 72) rfl)
theorem w73 {a0 : Array Value} {Z : State} (hw : Ws a0 Z) : (Jvm.Cond.instanceMethod ({ cls := "com/example/consentry/consentry/server/Exchange", name := "rawQuery", desc := "()Ljava/lang/String;" } : Jvm.MethodName)).before a0 Z = true := hw _ (List.mem_of_getElem? (i := 73) rfl)
theorem w74 {a0 : Array Value} {Z : State} (hw : Ws a0 Z) : (Jvm.Cond.selects "com/example/consentry/consentry/server/Exchange" ({ cls := "com/example/consentry/consentry/server/Exchange", name := "rawQuery", desc := "()Ljava/lang/String;" } : Jvm.MethodName) ({ cls := "com/example/consentry/consentry/server/Exchange", name := "rawQuery", desc := "()Ljava/lang/String;" } : Jvm.MethodName)).before a0 Z = true := hw _ (List.mem_of_getElem? (i := 74) rfl)
theorem w75 {a0 : Array Value} {Z : State} (hw : Ws a0 Z) : (Jvm.Cond.code ({ cls := "com/example/consentry/consentry/server/Exchange", name := "rawQuery", desc := "()Ljava/lang/String;" } : Jvm.MethodName) prog_60_method_5_code (1 : Nat) (Option.some (Jvm.ClassFile.FieldType.object "java/lang/String"))).before a0 Z = true := hw _ (List.mem_of_getElem? (i := 75) rfl)
theorem w76 {a0 : Array Value} {Z : State} (hw : Ws a0 Z) : (Jvm.Cond.methodLink "com/example/consentry/consentry/server/ExchangeWithBodyPinLaw" (35 : Nat) ({ cls := "com/example/consentry/consentry/server/Exchange", name := "body", desc := "()[B" } : Jvm.MethodName)).before a0 Z = true := hw _ (List.mem_of_getElem? (i := 76) rfl)
theorem w77 {a0 : Array Value} {Z : State} (hw : Ws a0 Z) : (Jvm.Cond.declares ({ cls := "com/example/consentry/consentry/server/Exchange", name := "body", desc := "()[B" } : Jvm.MethodName)).before a0 Z = true := hw _ (List.mem_of_getElem? (i := 77) rfl)
theorem w78 {a0 : Array Value} {Z : State} (hw : Ws a0 Z) : (Jvm.Cond.instanceMethod ({ cls := "com/example/consentry/consentry/server/Exchange", name := "body", desc := "()[B" } : Jvm.MethodName)).before a0 Z = true := hw _ (List.mem_of_getElem? (i := 78) rfl)
theorem w79 {a0 : Array Value} {Z : State} (hw : Ws a0 Z) : (Jvm.Cond.selects "com/example/consentry/consentry/server/Exchange" ({ cls := "com/example/consentry/consentry/server/Exchange", name := "body", desc := "()[B" } : Jvm.MethodName) ({ cls := "com/example/consentry/consentry/server/Exchange", name := "body", desc := "()[B" } : Jvm.MethodName)).before a0 Z = true := hw _ (List.mem_of_getElem? (i := 79) rfl)
theorem w80 {a0 : Array Value} {Z : State} (hw : Ws a0 Z) : (Jvm.Cond.code ({ cls := "com/example/consentry/consentry/server/Exchange", name := "body", desc := "()[B" } : Jvm.MethodName) prog_60_method_8_code (1 : Nat) (Option.some (Jvm.ClassFile.FieldType.array Jvm.ClassFile.FieldType.byte))).before a0 Z = true := hw _ (List.mem_of_getElem? (i := 80) rfl)
theorem w81 {a0 : Array Value} {Z : State} (hw : Ws a0 Z) : (Jvm.Cond.methodLink "com/example/consentry/consentry/server/ExchangeWithBodyPinLaw" (39 : Nat) ({ cls := "com/example/consentry/consentry/server/ExchangeWithBodyPinLaw", name := "sameBytes", desc := "([B[B)Z" } : Jvm.MethodName)).before a0 Z = true := hw _ (List.mem_of_getElem? (i := 81) rfl)
theorem w82 {a0 : Array Value} {Z : State} (hw : Ws a0 Z) : (Jvm.Cond.static ({ cls := "com/example/consentry/consentry/server/ExchangeWithBodyPinLaw", name := "sameBytes", desc := "([B[B)Z" } : Jvm.MethodName)).before a0 Z = true := hw _ (List.mem_of_getElem? (i := 82) rfl)
theorem w83 {a0 : Array Value} {Z : State} (hw : Ws a0 Z) : (Jvm.Cond.initialized "com/example/consentry/consentry/server/ExchangeWithBodyPinLaw").before a0 Z = true := hw _ (List.mem_of_getElem? (i := 83) rfl)
theorem w84 {a0 : Array Value} {Z : State} (hw : Ws a0 Z) : (Jvm.Cond.code ({ cls := "com/example/consentry/consentry/server/ExchangeWithBodyPinLaw", name := "sameBytes", desc := "([B[B)Z" } : Jvm.MethodName) method_2_code (2 : Nat) (Option.some Jvm.ClassFile.FieldType.boolean)).before a0 Z = true := hw _ (List.mem_of_getElem? (i := 84) rfl)
theorem w85 {a0 : Array Value} {Z : State} (hw : Ws a0 Z) : (Jvm.Cond.methodLink "com/example/consentry/consentry/server/ExchangeWithBodyPinLaw" (45 : Nat) ({ cls := "com/example/consentry/consentry/server/Exchange", name := "bodyCut", desc := "()Z" } : Jvm.MethodName)).before a0 Z = true := hw _ (List.mem_of_getElem? (i := 85) rfl)
theorem w86 {a0 : Array Value} {Z : State} (hw : Ws a0 Z) : (Jvm.Cond.declares ({ cls := "com/example/consentry/consentry/server/Exchange", name := "bodyCut", desc := "()Z" } : Jvm.MethodName)).before a0 Z = true := hw _ (List.mem_of_getElem? (i := 86) rfl)
theorem w87 {a0 : Array Value} {Z : State} (hw : Ws a0 Z) : (Jvm.Cond.instanceMethod ({ cls := "com/example/consentry/consentry/server/Exchange", name := "bodyCut", desc := "()Z" } : Jvm.MethodName)).before a0 Z = true := hw _ (List.mem_of_getElem? (i := 87) rfl)
theorem w88 {a0 : Array Value} {Z : State} (hw : Ws a0 Z) : (Jvm.Cond.selects "com/example/consentry/consentry/server/Exchange" ({ cls := "com/example/consentry/consentry/server/Exchange", name := "bodyCut", desc := "()Z" } : Jvm.MethodName) ({ cls := "com/example/consentry/consentry/server/Exchange", name := "bodyCut", desc := "()Z" } : Jvm.MethodName)).before a0 Z = true := hw _ (List.mem_of_getElem? (i := 88) rfl)
theorem w89 {a0 : Array Value} {Z : State} (hw : Ws a0 Z) : (Jvm.Cond.code ({ cls := "com/example/consentry/consentry/server/Exchange", name := "bodyCut", desc := "()Z" } : Jvm.MethodName) prog_60_method_9_code (1 : Nat) (Option.some Jvm.ClassFile.FieldType.boolean)).before a0 Z = true := hw _ (List.mem_of_getElem? (i := 89) rfl)
theorem d_prog_60m1_0 : decode prog_60_method_1_code 0 = .ok (.aload_n 0, 1) := by decide +kernel
theorem d_prog_60m1_1 : decode prog_60_method_1_code 1 = .ok (.invokespecial 1, 3) := by decide +kernel
theorem d_prog_60m1_4 : decode prog_60_method_1_code 4 = .ok (.aload_n 0, 1) := by decide +kernel
theorem d_prog_60m1_5 : decode prog_60_method_1_code 5 = .ok (.aload_n 1, 1) := by decide +kernel
theorem d_prog_60m1_6 : decode prog_60_method_1_code 6 = .ok (.putfield 7, 3) := by decide +kernel
theorem d_prog_60m1_9 : decode prog_60_method_1_code 9 = .ok (.aload_n 0, 1) := by decide +kernel
theorem d_prog_60m1_10 : decode prog_60_method_1_code 10 = .ok (.aload_n 2, 1) := by decide +kernel
theorem d_prog_60m1_11 : decode prog_60_method_1_code 11 = .ok (.putfield 13, 3) := by decide +kernel
theorem d_prog_60m1_14 : decode prog_60_method_1_code 14 = .ok (.aload_n 0, 1) := by decide +kernel
theorem d_prog_60m1_15 : decode prog_60_method_1_code 15 = .ok (.aload_n 3, 1) := by decide +kernel
theorem d_prog_60m1_16 : decode prog_60_method_1_code 16 = .ok (.putfield 16, 3) := by decide +kernel
theorem d_prog_60m1_19 : decode prog_60_method_1_code 19 = .ok (.aload_n 0, 1) := by decide +kernel
theorem d_prog_60m1_20 : decode prog_60_method_1_code 20 = .ok (.aload 4, 2) := by decide +kernel
theorem d_prog_60m1_22 : decode prog_60_method_1_code 22 = .ok (.putfield 19, 3) := by decide +kernel
theorem d_prog_60m1_25 : decode prog_60_method_1_code 25 = .ok (.aload_n 0, 1) := by decide +kernel
theorem d_prog_60m1_26 : decode prog_60_method_1_code 26 = .ok (.aload 5, 2) := by decide +kernel
theorem d_prog_60m1_28 : decode prog_60_method_1_code 28 = .ok (.putfield 23, 3) := by decide +kernel
theorem d_prog_60m1_31 : decode prog_60_method_1_code 31 = .ok (.aload_n 0, 1) := by decide +kernel
theorem d_prog_60m1_32 : decode prog_60_method_1_code 32 = .ok (.iload 6, 2) := by decide +kernel
theorem d_prog_60m1_34 : decode prog_60_method_1_code 34 = .ok (.putfield 27, 3) := by decide +kernel
theorem d_prog_60m1_37 : decode prog_60_method_1_code 37 = .ok (.return_, 1) := by decide +kernel
theorem d_prog_60m2_0 : decode prog_60_method_2_code 0 = .ok (.new 8, 3) := by decide +kernel
theorem d_prog_60m2_3 : decode prog_60_method_2_code 3 = .ok (.dup, 1) := by decide +kernel
theorem d_prog_60m2_4 : decode prog_60_method_2_code 4 = .ok (.aload_n 0, 1) := by decide +kernel
theorem d_prog_60m2_5 : decode prog_60_method_2_code 5 = .ok (.getfield 7, 3) := by decide +kernel
theorem d_prog_60m2_8 : decode prog_60_method_2_code 8 = .ok (.aload_n 0, 1) := by decide +kernel
theorem d_prog_60m2_9 : decode prog_60_method_2_code 9 = .ok (.getfield 13, 3) := by decide +kernel
theorem d_prog_60m2_12 : decode prog_60_method_2_code 12 = .ok (.aload_n 0, 1) := by decide +kernel
theorem d_prog_60m2_13 : decode prog_60_method_2_code 13 = .ok (.getfield 16, 3) := by decide +kernel
theorem d_prog_60m2_16 : decode prog_60_method_2_code 16 = .ok (.aload_n 0, 1) := by decide +kernel
theorem d_prog_60m2_17 : decode prog_60_method_2_code 17 = .ok (.getfield 19, 3) := by decide +kernel
theorem d_prog_60m2_20 : decode prog_60_method_2_code 20 = .ok (.aload_n 1, 1) := by decide +kernel
theorem d_prog_60m2_21 : decode prog_60_method_2_code 21 = .ok (.iload_n 2, 1) := by decide +kernel
theorem d_prog_60m2_22 : decode prog_60_method_2_code 22 = .ok (.invokespecial 31, 3) := by decide +kernel
theorem d_prog_60m2_25 : decode prog_60_method_2_code 25 = .ok (.areturn, 1) := by decide +kernel
theorem d_prog_60m3_0 : decode prog_60_method_3_code 0 = .ok (.aload_n 0, 1) := by decide +kernel
theorem d_prog_60m3_1 : decode prog_60_method_3_code 1 = .ok (.getfield 7, 3) := by decide +kernel
theorem d_prog_60m3_4 : decode prog_60_method_3_code 4 = .ok (.areturn, 1) := by decide +kernel
theorem d_prog_60m4_0 : decode prog_60_method_4_code 0 = .ok (.aload_n 0, 1) := by decide +kernel
theorem d_prog_60m4_1 : decode prog_60_method_4_code 1 = .ok (.getfield 13, 3) := by decide +kernel
theorem d_prog_60m4_4 : decode prog_60_method_4_code 4 = .ok (.areturn, 1) := by decide +kernel
theorem d_prog_60m5_0 : decode prog_60_method_5_code 0 = .ok (.aload_n 0, 1) := by decide +kernel
theorem d_prog_60m5_1 : decode prog_60_method_5_code 1 = .ok (.getfield 16, 3) := by decide +kernel
theorem d_prog_60m5_4 : decode prog_60_method_5_code 4 = .ok (.areturn, 1) := by decide +kernel
theorem d_prog_60m8_0 : decode prog_60_method_8_code 0 = .ok (.aload_n 0, 1) := by decide +kernel
theorem d_prog_60m8_1 : decode prog_60_method_8_code 1 = .ok (.getfield 23, 3) := by decide +kernel
theorem d_prog_60m8_4 : decode prog_60_method_8_code 4 = .ok (.areturn, 1) := by decide +kernel
theorem d_prog_60m9_0 : decode prog_60_method_9_code 0 = .ok (.aload_n 0, 1) := by decide +kernel
theorem d_prog_60m9_1 : decode prog_60_method_9_code 1 = .ok (.getfield 27, 3) := by decide +kernel
theorem d_prog_60m9_4 : decode prog_60_method_9_code 4 = .ok (.ireturn, 1) := by decide +kernel
theorem d_jdk_42m66_0 : decode jdk_42_method_66_code 0 = .ok (.aload_n 0, 1) := by decide +kernel
theorem d_jdk_42m66_1 : decode jdk_42_method_66_code 1 = .ok (.aload_n 1, 1) := by decide +kernel
theorem d_jdk_42m66_2 : decode jdk_42_method_66_code 2 = .ok (.if_acmp .ne 5, 3) := by decide +kernel
theorem d_jdk_42m66_5 : decode jdk_42_method_66_code 5 = .ok (.iconst 1, 1) := by decide +kernel
theorem d_jdk_42m66_6 : decode jdk_42_method_66_code 6 = .ok (.ireturn, 1) := by decide +kernel
theorem d_method_2_0 : decode method_2_code 0 = .ok (.aload_n 0, 1) := by decide +kernel
theorem d_method_2_1 : decode method_2_code 1 = .ok (.ifnonnull 5, 3) := by decide +kernel
theorem d_method_2_6 : decode method_2_code 6 = .ok (.aload_n 0, 1) := by decide +kernel
theorem d_method_2_7 : decode method_2_code 7 = .ok (.arraylength, 1) := by decide +kernel
theorem d_method_2_8 : decode method_2_code 8 = .ok (.aload_n 1, 1) := by decide +kernel
theorem d_method_2_9 : decode method_2_code 9 = .ok (.arraylength, 1) := by decide +kernel
theorem d_method_2_10 : decode method_2_code 10 = .ok (.if_icmp .eq 5, 3) := by decide +kernel
theorem d_method_2_15 : decode method_2_code 15 = .ok (.aload_n 1, 1) := by decide +kernel
theorem d_method_2_16 : decode method_2_code 16 = .ok (.arraylength, 1) := by decide +kernel
theorem d_method_2_17 : decode method_2_code 17 = .ok (.ifCond .ne 5, 3) := by decide +kernel
theorem d_method_2_20 : decode method_2_code 20 = .ok (.iconst 1, 1) := by decide +kernel
theorem d_method_2_21 : decode method_2_code 21 = .ok (.ireturn, 1) := by decide +kernel
theorem d_method_2_22 : decode method_2_code 22 = .ok (.aload_n 0, 1) := by decide +kernel
theorem d_method_2_23 : decode method_2_code 23 = .ok (.iconst 0, 1) := by decide +kernel
theorem d_method_2_24 : decode method_2_code 24 = .ok (.baload, 1) := by decide +kernel
theorem d_method_2_25 : decode method_2_code 25 = .ok (.aload_n 1, 1) := by decide +kernel
theorem d_method_2_26 : decode method_2_code 26 = .ok (.iconst 0, 1) := by decide +kernel
theorem d_method_2_27 : decode method_2_code 27 = .ok (.baload, 1) := by decide +kernel
theorem d_method_2_28 : decode method_2_code 28 = .ok (.if_icmp .ne 16, 3) := by decide +kernel
theorem d_method_2_31 : decode method_2_code 31 = .ok (.aload_n 0, 1) := by decide +kernel
theorem d_method_2_32 : decode method_2_code 32 = .ok (.iconst 1, 1) := by decide +kernel
theorem d_method_2_33 : decode method_2_code 33 = .ok (.baload, 1) := by decide +kernel
theorem d_method_2_34 : decode method_2_code 34 = .ok (.aload_n 1, 1) := by decide +kernel
theorem d_method_2_35 : decode method_2_code 35 = .ok (.iconst 1, 1) := by decide +kernel
theorem d_method_2_36 : decode method_2_code 36 = .ok (.baload, 1) := by decide +kernel
theorem d_method_2_37 : decode method_2_code 37 = .ok (.if_icmp .ne 7, 3) := by decide +kernel
theorem d_method_2_40 : decode method_2_code 40 = .ok (.iconst 1, 1) := by decide +kernel
theorem d_method_2_41 : decode method_2_code 41 = .ok (.goto 4, 3) := by decide +kernel
theorem d_method_2_45 : decode method_2_code 45 = .ok (.ireturn, 1) := by decide +kernel
theorem pd0 : parseMethodDescriptor "(Ljava/lang/String;Ljava/lang/String;Ljava/lang/String;Ljava/util/Map;[BZ)V" = some ⟨[(.object "java/lang/String"), (.object "java/lang/String"), (.object "java/lang/String"), (.object "java/util/Map"), (.array .byte), .boolean], none⟩ := by decide +kernel
theorem pd1 : parseMethodDescriptor "([C)V" = some ⟨[(.array .char)], none⟩ := by decide +kernel
theorem pd2 : parseMethodDescriptor "([BZ)Lcom/example/consentry/consentry/server/Exchange;" = some ⟨[(.array .byte), .boolean], some (.object "com/example/consentry/consentry/server/Exchange")⟩ := by decide +kernel
theorem pd3 : parseMethodDescriptor "()Ljava/lang/String;" = some ⟨[], some (.object "java/lang/String")⟩ := by decide +kernel
theorem pd4 : parseMethodDescriptor "(Ljava/lang/Object;)Z" = some ⟨[(.object "java/lang/Object")], some .boolean⟩ := by decide +kernel
theorem pd5 : parseMethodDescriptor "()[B" = some ⟨[], some (.array .byte)⟩ := by decide +kernel
theorem pd6 : parseMethodDescriptor "([B[B)Z" = some ⟨[(.array .byte), (.array .byte)], some .boolean⟩ := by decide +kernel
theorem pd7 : parseMethodDescriptor "()Z" = some ⟨[], some .boolean⟩ := by decide +kernel
theorem pn0 : plainName "com/example/consentry/consentry/server/Exchange" = true := by first | (simp [plainName, overriddenIn]; done) | decide +kernel
theorem pn1 : plainName "java/lang/String" = true := by first | (simp [plainName, overriddenIn]; done) | decide +kernel
theorem pn2 : plainName "com/example/consentry/consentry/server/ExchangeWithBodyPinLaw" = true := by first | (simp [plainName, overriddenIn]; done) | decide +kernel
theorem ef0 (m : MethodId) (x0 : Addr) (x1 : Addr) (x2 : Addr) (x3 : Value) (hx3 : x3.isRef = true) (x5 : Addr) (x6 : Int32) : entryFrame m #[(.ref x0), (.ref x1), (.ref x2), x3, .null, (.ref x5), (.int x6)] 7 = mkF m 0 #[.val (.ref x0), .val (.ref x1), .val (.ref x2), .val x3, .val .null, .val (.ref x5), .val (.int x6)] [] := by rcases ref_cases hx3 with rfl | ⟨_, rfl⟩ <;> (first | (simp [entryFrame, mkF, argsToLocals, Value.category]; done) | rfl)
theorem ef1 (m : MethodId) (x0 : Addr) (x1 : Addr) (x2 : Int32) : entryFrame m #[(.ref x0), (.ref x1), (.int x2)] 3 = mkF m 0 #[.val (.ref x0), .val (.ref x1), .val (.int x2)] [] := by (first | (simp [entryFrame, mkF, argsToLocals, Value.category]; done) | rfl)
theorem ef2 (m : MethodId) (x0 : Addr) : entryFrame m #[(.ref x0)] 1 = mkF m 0 #[.val (.ref x0)] [] := by (first | (simp [entryFrame, mkF, argsToLocals, Value.category]; done) | rfl)
theorem ef3 (m : MethodId) (x0 : Addr) : entryFrame m #[(.ref x0)] 1 = mkF m 0 #[.val (.ref x0)] [] := by (first | (simp [entryFrame, mkF, argsToLocals, Value.category]; done) | rfl)
theorem ef4 (m : MethodId) (x0 : Addr) : entryFrame m #[(.ref x0)] 1 = mkF m 0 #[.val (.ref x0)] [] := by (first | (simp [entryFrame, mkF, argsToLocals, Value.category]; done) | rfl)
theorem ef5 (m : MethodId) (x0 : Addr) : entryFrame m #[(.ref x0)] 1 = mkF m 0 #[.val (.ref x0)] [] := by (first | (simp [entryFrame, mkF, argsToLocals, Value.category]; done) | rfl)
theorem ef6 (m : MethodId) (x0 : Addr) : entryFrame m #[(.ref x0)] 1 = mkF m 0 #[.val (.ref x0)] [] := by (first | (simp [entryFrame, mkF, argsToLocals, Value.category]; done) | rfl)
theorem ef7 (m : MethodId) (x0 : Addr) (x1 : Addr) : entryFrame m #[(.ref x0), (.ref x1)] 3 = mkF m 0 #[.val (.ref x0), .val (.ref x1), .unset] [] := by (first | (simp [entryFrame, mkF, argsToLocals, Value.category]; done) | rfl)
theorem ef8 (m : MethodId) (x0 : Addr) (x1 : Addr) : entryFrame m #[(.ref x0), (.ref x1)] 2 = mkF m 0 #[.val (.ref x0), .val (.ref x1)] [] := by (first | (simp [entryFrame, mkF, argsToLocals, Value.category]; done) | rfl)
theorem ef9 (m : MethodId) (x0 : Addr) (x1 : Addr) : entryFrame m #[(.ref x0), (.ref x1)] 2 = mkF m 0 #[.val (.ref x0), .val (.ref x1)] [] := by (first | (simp [entryFrame, mkF, argsToLocals, Value.category]; done) | rfl)
theorem ef10 (m : MethodId) (x0 : Int32) (x1 : Int32) (x2 : Int32) (x3 : Int32) (x4 : Int32) : entryFrame m #[(.int x0), (.int x1), (.int x2), (.int x3), (.int x4)] maxLocals = mkF m 0 #[.val (.int x0), .val (.int x1), .val (.int x2), .val (.int x3), .val (.int x4), .unset, .unset, .unset, .unset, .unset, .unset, .unset, .unset, .unset, .unset, .unset, .unset, .unset, .unset, .unset, .unset, .unset, .unset, .unset] [] := by (first | (simp [entryFrame, mkF, argsToLocals, Value.category, maxLocals]; done) | rfl)
/-- the String at x spells cs (Latin-1, at most 4,000 signs) -/
def Str (Z : State) (h : Heap) (x : Addr) (cs : List Int32) : Prop := Exa Z h x StN ∧ Fld Z h x StN "coder" "B" (.int 0) ∧ (∃ t, Fld Z h x StN "value" "[B" (.ref t) ∧ Wk.Ary Z h t .byte ((cs.map fun c => c.toInt8.toInt32).map Value.int)) ∧ (∀ c ∈ cs, ¬ c < 0 ∧ ¬ (255 : Int32) < c) ∧ cs.length ≤ 4000
theorem Str.ext {Z : State} {h h' : Heap} {x : Addr} {cs : List Int32} (F : Str Z h x cs) (E : Ext h h') : Str Z h' x cs := by
  obtain ⟨a, b, ⟨t, c, d⟩, r⟩ := F
  exact ⟨a.ext E, b.ext E, ⟨t, c.ext E, d.ext E⟩, r⟩
theorem Str.exa {Z : State} {h : Heap} {x : Addr} {cs : List Int32} (F : Str Z h x cs) : Exa Z h x StN := F.1
theorem Str.lt {Z : State} {h : Heap} {x : Addr} {cs : List Int32} (F : Str Z h x cs) : x < h.size := F.1.lt
theorem strNew {l : Launch} {R : Room} {Z : State} {W : Wk.Wd} {a0 : Array Value} {own nm : String} {code : ByteArray} {maxL : Nat} {ret : Option FieldType} (C : Wk.Cx Z W own nm code maxL ret) (hw : Ws a0 Z) (hs : Sets Z) {h : Heap} (O : Ext Z.heap h) {x b : Addr} {cs : List Int32} {n Wn : Nat} {v0 c0 : Value}
    (hx0 : Z.heap.size ≤ x) (E : Exa Z h x StN) (V : Fld Z h x StN "value" "[B" v0) (Cd : Fld Z h x StN "coder" "B" c0) (K : Wk.Ary Z h b .char (cs.map Value.int)) (hn : cs.length = n) (l0 : 0 < n) (l2 : n ≤ 4000) (hp : ∀ c ∈ cs, ¬ c < 0 ∧ ¬ (255 : Int32) < c) (hfr : 4 ≤ R.frames) (hlo : Wn + 65 ≤ R.locals) :
    Wk.Pays l R W (⟨"java/lang/String", "<init>", "([C)V"⟩ : MethodName) 3 Wn #[.ref x, .ref b] h 1 n (StrChars.Road.QV Z x (Int32.ofNat n) (cs.map fun c => c.toInt8.toInt32) h Z.heap.size) := by
  obtain ⟨z, fm, S1, hz, -, -⟩ := hs
  obtain ⟨kc, A⟩ := K.arv (d := .int 0)
  rw [List.length_map, hn] at A
  have hws : ∀ d ∈ StrChars.Road.words, d.before a0 Z = true := fun d hd => hw d ((by decide +kernel : ∀ d ∈ StrChars.Road.words, d ∈ tables_1) d hd)
  exact StrChars.Road.backV (W := Wn) C.hZ hws (kI := 4) (w1 hw) (cs := cs) hx0 O.1 E V Cd A (S1.ext O) hz hn rfl l0 l2 hp rfl hfr hlo
theorem strNewC {Z : State} {h : Heap} {x : Addr} {cs : List Int32} {n : Nat} (O : Ext Z.heap h) (hx0 : Z.heap.size ≤ x) (hn : cs.length = n) (l2 : n ≤ 4000) (hp : ∀ c ∈ cs, ¬ c < 0 ∧ ¬ (255 : Int32) < c) :
    Wk.Clean Z (fun v h' => v = none ∧ Keep h h' [x] ∧ Str Z h' x cs) (StrChars.Road.QV Z x (Int32.ofNat n) (cs.map fun c => c.toInt8.toInt32) h Z.heap.size) := by
  rintro v h' L ⟨rfl, N, K, E, Cd, t, kb, -, -, -, V, A⟩
  refine ⟨⟨rfl, K, E, Cd, ⟨t, V, Wk.Ary.of_arv A ?_⟩, hp, by omega⟩, Wk.Ext.keep1 (Z := Z) O K hx0, N⟩
  rw [Int32.toNatClampNeg_ofNat_of_lt (by omega)]; simp [hn]
theorem pureC {Z : State} {h : Heap} {P : Option Value → Prop} (O : Ext Z.heap h) : Wk.Clean Z (fun v h' => P v ∧ h' = h) (fun v h' L => P v ∧ L = [] ∧ h' = h) := by
  rintro v h' L ⟨q, rfl, rfl⟩
  exact ⟨⟨q, rfl⟩, O, Fr.nil _⟩
set_option maxRecDepth 65536 in
set_option maxHeartbeats 40000000 in
theorem own_init (l : Launch) {Z : State} {a0 : Array Value} (hw : Ws a0 Z) {h0 : Heap} (O0 : Ext Z.heap h0) (a1 a2 a3 a5 : Addr) (vq : Value) (b : Int32) (hq : vq.isRef = true) (g1 : Z.heap.size ≤ a1) (hb : b = 0 ∨ b = 1) (E1 : Exa Z h0 a1 "com/example/consentry/consentry/server/Exchange") (F_method : Fld Z h0 a1 "com/example/consentry/consentry/server/Exchange" "method" "Ljava/lang/String;" .null) (F_rawPath : Fld Z h0 a1 "com/example/consentry/consentry/server/Exchange" "rawPath" "Ljava/lang/String;" .null) (F_rawQuery : Fld Z h0 a1 "com/example/consentry/consentry/server/Exchange" "rawQuery" "Ljava/lang/String;" .null) (F_fields : Fld Z h0 a1 "com/example/consentry/consentry/server/Exchange" "fields" "Ljava/util/Map;" .null) (F_body : Fld Z h0 a1 "com/example/consentry/consentry/server/Exchange" "body" "[B" .null) (F_bodyCut : Fld Z h0 a1 "com/example/consentry/consentry/server/Exchange" "bodyCut" "Z" (.int (0 : Int32))) :
    Wk.Con l Z (⟨"com/example/consentry/consentry/server/Exchange", "<init>", "(Ljava/lang/String;Ljava/lang/String;Ljava/lang/String;Ljava/util/Map;[BZ)V"⟩ : MethodName) prog_60_method_1_code 7 none ({ frames := 1, cells := 0, slots := 0, locals := 12 } : Room) #[(.ref a1), (.ref a2), (.ref a3), vq, .null, (.ref a5), (.int b)] h0 (fun v h' => v = none ∧ Keep h0 h' [a1] ∧ Exa Z h' a1 "com/example/consentry/consentry/server/Exchange" ∧ Fld Z h' a1 "com/example/consentry/consentry/server/Exchange" "method" "Ljava/lang/String;" (.ref a2) ∧ Fld Z h' a1 "com/example/consentry/consentry/server/Exchange" "rawPath" "Ljava/lang/String;" (.ref a3) ∧ Fld Z h' a1 "com/example/consentry/consentry/server/Exchange" "rawQuery" "Ljava/lang/String;" vq ∧ Fld Z h' a1 "com/example/consentry/consentry/server/Exchange" "fields" "Ljava/util/Map;" .null ∧ Fld Z h' a1 "com/example/consentry/consentry/server/Exchange" "body" "[B" (.ref a5) ∧ Fld Z h' a1 "com/example/consentry/consentry/server/Exchange" "bodyCut" "Z" (.int b)) := by
  refine Wk.Con.intro (plainFor_of_name pn0) O0 (fun m => ef0 m a1 a2 a3 vq hq a5 b) ?_
  intro W C
  replace C : Wk.Cx Z W "com/example/consentry/consentry/server/Exchange" "<init>" prog_60_method_1_code 7 none := C
  refine Wk.aloadN (pc' := 1) C d_prog_60m1_0 rfl rfl rfl ?_
  refine Wk.initO (pc' := 4) C d_prog_60m1_1 (Wn := 0) (w36 hw) (w12 hw) (w13 hw) rfl (by decide) (Nat.le_of_eq rfl) (by decide) rfl ?_
  refine Wk.aloadN (pc' := 5) C d_prog_60m1_4 rfl rfl rfl ?_
  refine Wk.aloadN (pc' := 6) C d_prog_60m1_5 rfl rfl rfl ?_
  refine Wk.putF (pc' := 9) C d_prog_60m1_6 (w37 hw) Via.refl F_method E1 (Or.inr ⟨(w38 hw), rfl, rfl⟩) (w31 hw) (ty := (.object "java/lang/String")) (by decide) rfl rfl g1 rfl ?_
  intro h11 W11 O11
  have F12 := F_method.same W11
  refine Wk.aloadN (pc' := 10) C d_prog_60m1_9 rfl rfl rfl ?_
  refine Wk.aloadN (pc' := 11) C d_prog_60m1_10 rfl rfl rfl ?_
  refine Wk.putF (pc' := 14) C d_prog_60m1_11 (w39 hw) Via.refl (F_rawPath.other W11 (Or.inr (slot_ne (Or.inr (w40 hw)) (Or.inr (w38 hw)) (by decide) (t := (.object "java/lang/String")) (t' := (.object "java/lang/String")) (by decide) (by decide)))) (E1.wr W11) (Or.inr ⟨(w40 hw), rfl, rfl⟩) (w31 hw) (ty := (.object "java/lang/String")) (by decide) rfl rfl g1 rfl ?_
  intro h13 W13 O13
  have F14 := (F_rawPath.other W11 (Or.inr (slot_ne (Or.inr (w40 hw)) (Or.inr (w38 hw)) (by decide) (t := (.object "java/lang/String")) (t' := (.object "java/lang/String")) (by decide) (by decide)))).same W13
  refine Wk.aloadN (pc' := 15) C d_prog_60m1_14 rfl rfl rfl ?_
  refine Wk.aloadN (pc' := 16) C d_prog_60m1_15 rfl hq rfl ?_
  refine Wk.putF (pc' := 19) C d_prog_60m1_16 (w41 hw) Via.refl ((F_rawQuery.other W11 (Or.inr (slot_ne (Or.inr (w42 hw)) (Or.inr (w38 hw)) (by decide) (t := (.object "java/lang/String")) (t' := (.object "java/lang/String")) (by decide) (by decide)))).other W13 (Or.inr (slot_ne (Or.inr (w42 hw)) (Or.inr (w40 hw)) (by decide) (t := (.object "java/lang/String")) (t' := (.object "java/lang/String")) (by decide) (by decide)))) ((E1.wr W11).wr W13) (Or.inr ⟨(w42 hw), rfl, rfl⟩) (w31 hw) (ty := (.object "java/lang/String")) (by decide) (Wk.narR hq rfl) (Wk.fitR hq rfl) g1 rfl ?_
  intro h15 W15 O15
  have F16 := ((F_rawQuery.other W11 (Or.inr (slot_ne (Or.inr (w42 hw)) (Or.inr (w38 hw)) (by decide) (t := (.object "java/lang/String")) (t' := (.object "java/lang/String")) (by decide) (by decide)))).other W13 (Or.inr (slot_ne (Or.inr (w42 hw)) (Or.inr (w40 hw)) (by decide) (t := (.object "java/lang/String")) (t' := (.object "java/lang/String")) (by decide) (by decide)))).same W15
  refine Wk.aloadN (pc' := 20) C d_prog_60m1_19 rfl rfl rfl ?_
  refine Wk.aload (pc' := 22) C d_prog_60m1_20 rfl rfl rfl ?_
  refine Wk.putF (pc' := 25) C d_prog_60m1_22 (w43 hw) Via.refl (((F_fields.other W11 (Or.inr (slot_ne (Or.inr (w44 hw)) (Or.inr (w38 hw)) (by decide) (t := (.object "java/util/Map")) (t' := (.object "java/lang/String")) (by decide) (by decide)))).other W13 (Or.inr (slot_ne (Or.inr (w44 hw)) (Or.inr (w40 hw)) (by decide) (t := (.object "java/util/Map")) (t' := (.object "java/lang/String")) (by decide) (by decide)))).other W15 (Or.inr (slot_ne (Or.inr (w44 hw)) (Or.inr (w42 hw)) (by decide) (t := (.object "java/util/Map")) (t' := (.object "java/lang/String")) (by decide) (by decide)))) (((E1.wr W11).wr W13).wr W15) (Or.inr ⟨(w44 hw), rfl, rfl⟩) (w31 hw) (ty := (.object "java/util/Map")) (by decide) rfl rfl g1 rfl ?_
  intro h17 W17 O17
  have F18 := (((F_fields.other W11 (Or.inr (slot_ne (Or.inr (w44 hw)) (Or.inr (w38 hw)) (by decide) (t := (.object "java/util/Map")) (t' := (.object "java/lang/String")) (by decide) (by decide)))).other W13 (Or.inr (slot_ne (Or.inr (w44 hw)) (Or.inr (w40 hw)) (by decide) (t := (.object "java/util/Map")) (t' := (.object "java/lang/String")) (by decide) (by decide)))).other W15 (Or.inr (slot_ne (Or.inr (w44 hw)) (Or.inr (w42 hw)) (by decide) (t := (.object "java/util/Map")) (t' := (.object "java/lang/String")) (by decide) (by decide)))).same W17
  refine Wk.aloadN (pc' := 26) C d_prog_60m1_25 rfl rfl rfl ?_
  refine Wk.aload (pc' := 28) C d_prog_60m1_26 rfl rfl rfl ?_
  refine Wk.putF (pc' := 31) C d_prog_60m1_28 (w45 hw) Via.refl ((((F_body.other W11 (Or.inr (slot_ne (Or.inr (w46 hw)) (Or.inr (w38 hw)) (by decide) (t := (.array .byte)) (t' := (.object "java/lang/String")) (by decide) (by decide)))).other W13 (Or.inr (slot_ne (Or.inr (w46 hw)) (Or.inr (w40 hw)) (by decide) (t := (.array .byte)) (t' := (.object "java/lang/String")) (by decide) (by decide)))).other W15 (Or.inr (slot_ne (Or.inr (w46 hw)) (Or.inr (w42 hw)) (by decide) (t := (.array .byte)) (t' := (.object "java/lang/String")) (by decide) (by decide)))).other W17 (Or.inr (slot_ne (Or.inr (w46 hw)) (Or.inr (w44 hw)) (by decide) (t := (.array .byte)) (t' := (.object "java/util/Map")) (by decide) (by decide)))) ((((E1.wr W11).wr W13).wr W15).wr W17) (Or.inr ⟨(w46 hw), rfl, rfl⟩) (w31 hw) (ty := (.array .byte)) (by decide) rfl rfl g1 rfl ?_
  intro h19 W19 O19
  have F20 := ((((F_body.other W11 (Or.inr (slot_ne (Or.inr (w46 hw)) (Or.inr (w38 hw)) (by decide) (t := (.array .byte)) (t' := (.object "java/lang/String")) (by decide) (by decide)))).other W13 (Or.inr (slot_ne (Or.inr (w46 hw)) (Or.inr (w40 hw)) (by decide) (t := (.array .byte)) (t' := (.object "java/lang/String")) (by decide) (by decide)))).other W15 (Or.inr (slot_ne (Or.inr (w46 hw)) (Or.inr (w42 hw)) (by decide) (t := (.array .byte)) (t' := (.object "java/lang/String")) (by decide) (by decide)))).other W17 (Or.inr (slot_ne (Or.inr (w46 hw)) (Or.inr (w44 hw)) (by decide) (t := (.array .byte)) (t' := (.object "java/util/Map")) (by decide) (by decide)))).same W19
  refine Wk.aloadN (pc' := 32) C d_prog_60m1_31 rfl rfl rfl ?_
  refine Wk.iload (pc' := 34) C d_prog_60m1_32 rfl rfl ?_
  refine Wk.putF (pc' := 37) C d_prog_60m1_34 (w47 hw) Via.refl (((((F_bodyCut.other W11 (Or.inr (slot_ne (Or.inr (w48 hw)) (Or.inr (w38 hw)) (by decide) (t := .boolean) (t' := (.object "java/lang/String")) (by decide) (by decide)))).other W13 (Or.inr (slot_ne (Or.inr (w48 hw)) (Or.inr (w40 hw)) (by decide) (t := .boolean) (t' := (.object "java/lang/String")) (by decide) (by decide)))).other W15 (Or.inr (slot_ne (Or.inr (w48 hw)) (Or.inr (w42 hw)) (by decide) (t := .boolean) (t' := (.object "java/lang/String")) (by decide) (by decide)))).other W17 (Or.inr (slot_ne (Or.inr (w48 hw)) (Or.inr (w44 hw)) (by decide) (t := .boolean) (t' := (.object "java/util/Map")) (by decide) (by decide)))).other W19 (Or.inr (slot_ne (Or.inr (w48 hw)) (Or.inr (w46 hw)) (by decide) (t := .boolean) (t' := (.array .byte)) (by decide) (by decide)))) (((((E1.wr W11).wr W13).wr W15).wr W17).wr W19) (Or.inr ⟨(w48 hw), rfl, rfl⟩) (w31 hw) (ty := .boolean) (by decide) (by rcases hb with rfl | rfl <;> rfl) (by rcases hb with rfl | rfl <;> rfl) g1 rfl ?_
  intro h21 W21 O21
  have F22 := (((((F_bodyCut.other W11 (Or.inr (slot_ne (Or.inr (w48 hw)) (Or.inr (w38 hw)) (by decide) (t := .boolean) (t' := (.object "java/lang/String")) (by decide) (by decide)))).other W13 (Or.inr (slot_ne (Or.inr (w48 hw)) (Or.inr (w40 hw)) (by decide) (t := .boolean) (t' := (.object "java/lang/String")) (by decide) (by decide)))).other W15 (Or.inr (slot_ne (Or.inr (w48 hw)) (Or.inr (w42 hw)) (by decide) (t := .boolean) (t' := (.object "java/lang/String")) (by decide) (by decide)))).other W17 (Or.inr (slot_ne (Or.inr (w48 hw)) (Or.inr (w44 hw)) (by decide) (t := .boolean) (t' := (.object "java/util/Map")) (by decide) (by decide)))).other W19 (Or.inr (slot_ne (Or.inr (w48 hw)) (Or.inr (w46 hw)) (by decide) (t := .boolean) (t' := (.array .byte)) (by decide) (by decide)))).same W21
  exact Wk.retV C d_prog_60m1_37 (by decide) (by decide) ⟨rfl, (((((((Keep.refl _ _).wr W11 (Or.inl (List.mem_singleton.mpr rfl))).wr W13 (Or.inl (List.mem_singleton.mpr rfl))).wr W15 (Or.inl (List.mem_singleton.mpr rfl))).wr W17 (Or.inl (List.mem_singleton.mpr rfl))).wr W19 (Or.inl (List.mem_singleton.mpr rfl))).wr W21 (Or.inl (List.mem_singleton.mpr rfl))), ((((((E1.wr W11).wr W13).wr W15).wr W17).wr W19).wr W21), (((((F12.other W13 (Or.inr (slot_ne (Or.inr (w38 hw)) (Or.inr (w40 hw)) (by decide) (t := (.object "java/lang/String")) (t' := (.object "java/lang/String")) (by decide) (by decide)))).other W15 (Or.inr (slot_ne (Or.inr (w38 hw)) (Or.inr (w42 hw)) (by decide) (t := (.object "java/lang/String")) (t' := (.object "java/lang/String")) (by decide) (by decide)))).other W17 (Or.inr (slot_ne (Or.inr (w38 hw)) (Or.inr (w44 hw)) (by decide) (t := (.object "java/lang/String")) (t' := (.object "java/util/Map")) (by decide) (by decide)))).other W19 (Or.inr (slot_ne (Or.inr (w38 hw)) (Or.inr (w46 hw)) (by decide) (t := (.object "java/lang/String")) (t' := (.array .byte)) (by decide) (by decide)))).other W21 (Or.inr (slot_ne (Or.inr (w38 hw)) (Or.inr (w48 hw)) (by decide) (t := (.object "java/lang/String")) (t' := .boolean) (by decide) (by decide)))), ((((F14.other W15 (Or.inr (slot_ne (Or.inr (w40 hw)) (Or.inr (w42 hw)) (by decide) (t := (.object "java/lang/String")) (t' := (.object "java/lang/String")) (by decide) (by decide)))).other W17 (Or.inr (slot_ne (Or.inr (w40 hw)) (Or.inr (w44 hw)) (by decide) (t := (.object "java/lang/String")) (t' := (.object "java/util/Map")) (by decide) (by decide)))).other W19 (Or.inr (slot_ne (Or.inr (w40 hw)) (Or.inr (w46 hw)) (by decide) (t := (.object "java/lang/String")) (t' := (.array .byte)) (by decide) (by decide)))).other W21 (Or.inr (slot_ne (Or.inr (w40 hw)) (Or.inr (w48 hw)) (by decide) (t := (.object "java/lang/String")) (t' := .boolean) (by decide) (by decide)))), (((F16.other W17 (Or.inr (slot_ne (Or.inr (w42 hw)) (Or.inr (w44 hw)) (by decide) (t := (.object "java/lang/String")) (t' := (.object "java/util/Map")) (by decide) (by decide)))).other W19 (Or.inr (slot_ne (Or.inr (w42 hw)) (Or.inr (w46 hw)) (by decide) (t := (.object "java/lang/String")) (t' := (.array .byte)) (by decide) (by decide)))).other W21 (Or.inr (slot_ne (Or.inr (w42 hw)) (Or.inr (w48 hw)) (by decide) (t := (.object "java/lang/String")) (t' := .boolean) (by decide) (by decide)))), ((F18.other W19 (Or.inr (slot_ne (Or.inr (w44 hw)) (Or.inr (w46 hw)) (by decide) (t := (.object "java/util/Map")) (t' := (.array .byte)) (by decide) (by decide)))).other W21 (Or.inr (slot_ne (Or.inr (w44 hw)) (Or.inr (w48 hw)) (by decide) (t := (.object "java/util/Map")) (t' := .boolean) (by decide) (by decide)))), (F20.other W21 (Or.inr (slot_ne (Or.inr (w46 hw)) (Or.inr (w48 hw)) (by decide) (t := (.array .byte)) (t' := .boolean) (by decide) (by decide)))), F22⟩
set_option maxRecDepth 65536 in
set_option maxHeartbeats 40000000 in
theorem own_with (l : Launch) {Z : State} {a0 : Array Value} (hw : Ws a0 Z) {h0 : Heap} (O0 : Ext Z.heap h0) (a1 a2 a3 a5 : Addr) (vq : Value) (b : Int32) (hq : vq.isRef = true) (hb : b = 0 ∨ b = 1) (F_method : Fld Z h0 a1 "com/example/consentry/consentry/server/Exchange" "method" "Ljava/lang/String;" (.ref a2)) (F_rawPath : Fld Z h0 a1 "com/example/consentry/consentry/server/Exchange" "rawPath" "Ljava/lang/String;" (.ref a3)) (F_rawQuery : Fld Z h0 a1 "com/example/consentry/consentry/server/Exchange" "rawQuery" "Ljava/lang/String;" vq) (F_fields : Fld Z h0 a1 "com/example/consentry/consentry/server/Exchange" "fields" "Ljava/util/Map;" .null) :
    Wk.Con l Z (⟨"com/example/consentry/consentry/server/Exchange", "withBody", "([BZ)Lcom/example/consentry/consentry/server/Exchange;"⟩ : MethodName) prog_60_method_2_code 3 (some (.object "com/example/consentry/consentry/server/Exchange")) ({ frames := 2, cells := 1, slots := 6, locals := 38 } : Room) #[(.ref a1), (.ref a5), (.int b)] h0 (fun v h' => ∃ a' : Addr, v = some (.ref a') ∧ a' = h0.size ∧ Ext h0 h' ∧ Exa Z h' a' "com/example/consentry/consentry/server/Exchange" ∧ Fld Z h' a' "com/example/consentry/consentry/server/Exchange" "method" "Ljava/lang/String;" (.ref a2) ∧ Fld Z h' a' "com/example/consentry/consentry/server/Exchange" "rawPath" "Ljava/lang/String;" (.ref a3) ∧ Fld Z h' a' "com/example/consentry/consentry/server/Exchange" "rawQuery" "Ljava/lang/String;" vq ∧ Fld Z h' a' "com/example/consentry/consentry/server/Exchange" "fields" "Ljava/util/Map;" .null ∧ Fld Z h' a' "com/example/consentry/consentry/server/Exchange" "body" "[B" (.ref a5) ∧ Fld Z h' a' "com/example/consentry/consentry/server/Exchange" "bodyCut" "Z" (.int b)) := by
  refine Wk.Con.intro (plainFor_of_name pn0) O0 (fun m => ef1 m a1 a5 b) ?_
  intro W C
  replace C : Wk.Cx Z W "com/example/consentry/consentry/server/Exchange" "withBody" prog_60_method_2_code 3 (some (.object "com/example/consentry/consentry/server/Exchange")) := C
  refine Wk.newO (pc' := 3) C d_prog_60m2_0 (w54 hw) (w31 hw) (w32 hw) (k' := 1) rfl (n' := 6) rfl (by decide) (by decide) rfl ?_
  intro a11 h12 ga11 za11 E12 Aa11 Da11 Ua11 O12
  have F13 : Fld Z h12 a11 "com/example/consentry/consentry/server/Exchange" "method" "Ljava/lang/String;" .null := Da11 (Or.inr (w38 hw)) (ty := (.object "java/lang/String")) (by decide)
  have F14 : Fld Z h12 a11 "com/example/consentry/consentry/server/Exchange" "rawPath" "Ljava/lang/String;" .null := Da11 (Or.inr (w40 hw)) (ty := (.object "java/lang/String")) (by decide)
  have F15 : Fld Z h12 a11 "com/example/consentry/consentry/server/Exchange" "rawQuery" "Ljava/lang/String;" .null := Da11 (Or.inr (w42 hw)) (ty := (.object "java/lang/String")) (by decide)
  have F16 : Fld Z h12 a11 "com/example/consentry/consentry/server/Exchange" "fields" "Ljava/util/Map;" .null := Da11 (Or.inr (w44 hw)) (ty := (.object "java/util/Map")) (by decide)
  have F17 : Fld Z h12 a11 "com/example/consentry/consentry/server/Exchange" "body" "[B" .null := Da11 (Or.inr (w46 hw)) (ty := (.array .byte)) (by decide)
  have F18 : Fld Z h12 a11 "com/example/consentry/consentry/server/Exchange" "bodyCut" "Z" (.int (0 : Int32)) := Da11 (Or.inr (w48 hw)) (ty := .boolean) (by decide)
  refine Wk.dup (pc' := 4) C d_prog_60m2_3 rfl rfl ?_
  refine Wk.aloadN (pc' := 5) C d_prog_60m2_4 rfl rfl rfl ?_
  refine Wk.getF (pc' := 8) C d_prog_60m2_5 (w37 hw) Via.refl (F_method.ext E12) rfl ?_
  refine Wk.aloadN (pc' := 9) C d_prog_60m2_8 rfl rfl rfl ?_
  refine Wk.getF (pc' := 12) C d_prog_60m2_9 (w39 hw) Via.refl (F_rawPath.ext E12) rfl ?_
  refine Wk.aloadN (pc' := 13) C d_prog_60m2_12 rfl rfl rfl ?_
  refine Wk.getF (pc' := 16) C d_prog_60m2_13 (w41 hw) Via.refl (F_rawQuery.ext E12) rfl ?_
  refine Wk.aloadN (pc' := 17) C d_prog_60m2_16 rfl rfl rfl ?_
  refine Wk.getF (pc' := 20) C d_prog_60m2_17 (w43 hw) Via.refl (F_fields.ext E12) rfl ?_
  refine Wk.aloadN (pc' := 21) C d_prog_60m2_20 rfl rfl rfl ?_
  refine Wk.iloadN (pc' := 22) C d_prog_60m2_21 rfl rfl ?_
  refine Wk.callI (pc' := 25) C d_prog_60m2_22 (a := a11) (Wk.Con.pays C (Wn := 1) (own_init l hw O12 a11 a2 a3 a5 vq b hq za11 hb Aa11 F13 F14 F15 F16 F17 F18) (w35 hw) (w32 hw) (by decide) (by decide)) Wk.cleanC rfl (w55 hw) (w34 hw) (w35 hw) (by decide) (argsL := [(.ref a2), (.ref a3), vq, .null, (.ref a5), (.int b)]) (st := [(.ref a11)]) rfl rfl (lenOf pd0 rfl) rfl (Nat.le_of_eq rfl) (k' := 1) rfl (n' := 6) rfl (by decide) (by decide) rfl ?_
  intro r19 h20 Q20 O20
  obtain ⟨rfl, Kh20, Ah20, h20_method, h20_rawPath, h20_rawQuery, h20_fields, h20_body, h20_bodyCut⟩ := Q20
  have X21 : Ext h0 h20 := Wk.Ext.keep1 (Z := Z) E12 Kh20 (Nat.le_of_eq ga11.symm)
  exact Wk.retA C rfl rfl d_prog_60m2_25 (by decide) (by decide) ⟨_, rfl, ga11, X21, Ah20, h20_method, h20_rawPath, h20_rawQuery, h20_fields, h20_body, h20_bodyCut⟩
set_option maxRecDepth 65536 in
set_option maxHeartbeats 40000000 in
theorem own_get_method (l : Launch) {Z : State} {a0 : Array Value} (hw : Ws a0 Z) {h0 : Heap} (O0 : Ext Z.heap h0) (a1 : Addr) (vv : Value) (hv : vv.isRef = true) (F1 : Fld Z h0 a1 "com/example/consentry/consentry/server/Exchange" "method" "Ljava/lang/String;" vv) :
    Wk.Con l Z (⟨"com/example/consentry/consentry/server/Exchange", "method", "()Ljava/lang/String;"⟩ : MethodName) prog_60_method_3_code 1 (some (.object "java/lang/String")) ({ frames := 0, cells := 0, slots := 0, locals := 0 } : Room) #[(.ref a1)] h0 (fun v h' => v = some vv ∧ h' = h0) := by
  refine Wk.Con.intro (plainFor_of_name pn0) O0 (fun m => ef2 m a1) ?_
  intro W C
  replace C : Wk.Cx Z W "com/example/consentry/consentry/server/Exchange" "method" prog_60_method_3_code 1 (some (.object "java/lang/String")) := C
  refine Wk.aloadN (pc' := 1) C d_prog_60m3_0 rfl rfl rfl ?_
  refine Wk.getF (pc' := 4) C d_prog_60m3_1 (w37 hw) Via.refl F1 rfl ?_
  exact Wk.retA C rfl hv d_prog_60m3_4 (by decide) (by decide) ⟨rfl, rfl⟩
set_option maxRecDepth 65536 in
set_option maxHeartbeats 40000000 in
theorem own_get_rawPath (l : Launch) {Z : State} {a0 : Array Value} (hw : Ws a0 Z) {h0 : Heap} (O0 : Ext Z.heap h0) (a1 : Addr) (vv : Value) (hv : vv.isRef = true) (F1 : Fld Z h0 a1 "com/example/consentry/consentry/server/Exchange" "rawPath" "Ljava/lang/String;" vv) :
    Wk.Con l Z (⟨"com/example/consentry/consentry/server/Exchange", "rawPath", "()Ljava/lang/String;"⟩ : MethodName) prog_60_method_4_code 1 (some (.object "java/lang/String")) ({ frames := 0, cells := 0, slots := 0, locals := 0 } : Room) #[(.ref a1)] h0 (fun v h' => v = some vv ∧ h' = h0) := by
  refine Wk.Con.intro (plainFor_of_name pn0) O0 (fun m => ef3 m a1) ?_
  intro W C
  replace C : Wk.Cx Z W "com/example/consentry/consentry/server/Exchange" "rawPath" prog_60_method_4_code 1 (some (.object "java/lang/String")) := C
  refine Wk.aloadN (pc' := 1) C d_prog_60m4_0 rfl rfl rfl ?_
  refine Wk.getF (pc' := 4) C d_prog_60m4_1 (w39 hw) Via.refl F1 rfl ?_
  exact Wk.retA C rfl hv d_prog_60m4_4 (by decide) (by decide) ⟨rfl, rfl⟩
set_option maxRecDepth 65536 in
set_option maxHeartbeats 40000000 in
theorem own_get_rawQuery (l : Launch) {Z : State} {a0 : Array Value} (hw : Ws a0 Z) {h0 : Heap} (O0 : Ext Z.heap h0) (a1 : Addr) (vv : Value) (hv : vv.isRef = true) (F1 : Fld Z h0 a1 "com/example/consentry/consentry/server/Exchange" "rawQuery" "Ljava/lang/String;" vv) :
    Wk.Con l Z (⟨"com/example/consentry/consentry/server/Exchange", "rawQuery", "()Ljava/lang/String;"⟩ : MethodName) prog_60_method_5_code 1 (some (.object "java/lang/String")) ({ frames := 0, cells := 0, slots := 0, locals := 0 } : Room) #[(.ref a1)] h0 (fun v h' => v = some vv ∧ h' = h0) := by
  refine Wk.Con.intro (plainFor_of_name pn0) O0 (fun m => ef4 m a1) ?_
  intro W C
  replace C : Wk.Cx Z W "com/example/consentry/consentry/server/Exchange" "rawQuery" prog_60_method_5_code 1 (some (.object "java/lang/String")) := C
  refine Wk.aloadN (pc' := 1) C d_prog_60m5_0 rfl rfl rfl ?_
  refine Wk.getF (pc' := 4) C d_prog_60m5_1 (w41 hw) Via.refl F1 rfl ?_
  exact Wk.retA C rfl hv d_prog_60m5_4 (by decide) (by decide) ⟨rfl, rfl⟩
set_option maxRecDepth 65536 in
set_option maxHeartbeats 40000000 in
theorem own_get_body (l : Launch) {Z : State} {a0 : Array Value} (hw : Ws a0 Z) {h0 : Heap} (O0 : Ext Z.heap h0) (a1 : Addr) (vv : Value) (hv : vv.isRef = true) (F1 : Fld Z h0 a1 "com/example/consentry/consentry/server/Exchange" "body" "[B" vv) :
    Wk.Con l Z (⟨"com/example/consentry/consentry/server/Exchange", "body", "()[B"⟩ : MethodName) prog_60_method_8_code 1 (some (.array .byte)) ({ frames := 0, cells := 0, slots := 0, locals := 0 } : Room) #[(.ref a1)] h0 (fun v h' => v = some vv ∧ h' = h0) := by
  refine Wk.Con.intro (plainFor_of_name pn0) O0 (fun m => ef5 m a1) ?_
  intro W C
  replace C : Wk.Cx Z W "com/example/consentry/consentry/server/Exchange" "body" prog_60_method_8_code 1 (some (.array .byte)) := C
  refine Wk.aloadN (pc' := 1) C d_prog_60m8_0 rfl rfl rfl ?_
  refine Wk.getF (pc' := 4) C d_prog_60m8_1 (w45 hw) Via.refl F1 rfl ?_
  exact Wk.retA C rfl hv d_prog_60m8_4 (by decide) (by decide) ⟨rfl, rfl⟩
set_option maxRecDepth 65536 in
set_option maxHeartbeats 40000000 in
theorem own_get_bodyCut (l : Launch) {Z : State} {a0 : Array Value} (hw : Ws a0 Z) {h0 : Heap} (O0 : Ext Z.heap h0) (a1 : Addr) (b : Int32) (hb : b = 0 ∨ b = 1) (F1 : Fld Z h0 a1 "com/example/consentry/consentry/server/Exchange" "bodyCut" "Z" (.int b)) :
    Wk.Con l Z (⟨"com/example/consentry/consentry/server/Exchange", "bodyCut", "()Z"⟩ : MethodName) prog_60_method_9_code 1 (some .boolean) ({ frames := 0, cells := 0, slots := 0, locals := 0 } : Room) #[(.ref a1)] h0 (fun v h' => v = some (.int b) ∧ h' = h0) := by
  refine Wk.Con.intro (plainFor_of_name pn0) O0 (fun m => ef6 m a1) ?_
  intro W C
  replace C : Wk.Cx Z W "com/example/consentry/consentry/server/Exchange" "bodyCut" prog_60_method_9_code 1 (some .boolean) := C
  refine Wk.aloadN (pc' := 1) C d_prog_60m9_0 rfl rfl rfl ?_
  refine Wk.getF (pc' := 4) C d_prog_60m9_1 (w47 hw) Via.refl F1 rfl ?_
  exact Wk.retNar C (ty := .boolean) (by simp) d_prog_60m9_4 (z' := b) (by rcases hb with rfl | rfl <;> rfl) (by decide) (by decide) ⟨rfl, rfl⟩
set_option maxRecDepth 65536 in
set_option maxHeartbeats 40000000 in
theorem own_eq (l : Launch) {Z : State} {a0 : Array Value} (hw : Ws a0 Z) {h0 : Heap} (O0 : Ext Z.heap h0) (a1 : Addr)  :
    Wk.Con l Z (⟨"java/lang/String", "equals", "(Ljava/lang/Object;)Z"⟩ : MethodName) jdk_42_method_66_code 3 (some .boolean) ({ frames := 0, cells := 0, slots := 0, locals := 0 } : Room) #[(.ref a1), (.ref a1)] h0 (fun v h' => v = some (.int 1) ∧ h' = h0) := by
  refine Wk.Con.intro (plainFor_of_name pn1) O0 (fun m => ef7 m a1 a1) ?_
  intro W C
  replace C : Wk.Cx Z W "java/lang/String" "equals" jdk_42_method_66_code 3 (some .boolean) := C
  refine Wk.aloadN (pc' := 1) C d_jdk_42m66_0 rfl rfl rfl ?_
  refine Wk.aloadN (pc' := 2) C d_jdk_42m66_1 rfl rfl rfl ?_
  refine Wk.acmp_ne C d_jdk_42m66_2 rfl rfl (by decide) (pcT := 7) (by decide) (pc' := 5) rfl (fun q => absurd rfl q) (fun q11 => ?_)
  refine Wk.iconst (pc' := 6) C d_jdk_42m66_5 (v := (1 : Int32)) rfl rfl ?_
  exact Wk.retNar C (ty := .boolean) (by simp) d_jdk_42m66_6 rfl (by decide) (by decide) ⟨rfl, rfl⟩
set_option maxRecDepth 65536 in
set_option maxHeartbeats 40000000 in
theorem own_same0 (l : Launch) {Z : State} {a0 : Array Value} (hw : Ws a0 Z) {h0 : Heap} (O0 : Ext Z.heap h0) (a1 a2 : Addr) (V1 : Wk.Ary Z h0 a1 .byte []) (V2 : Wk.Ary Z h0 a2 .byte []) :
    Wk.Con l Z (⟨"com/example/consentry/consentry/server/ExchangeWithBodyPinLaw", "sameBytes", "([B[B)Z"⟩ : MethodName) method_2_code 2 (some .boolean) ({ frames := 0, cells := 0, slots := 0, locals := 0 } : Room) #[(.ref a1), (.ref a2)] h0 (fun v h' => v = some (.int 1) ∧ h' = h0) := by
  refine Wk.Con.intro (plainFor_of_name pn2) O0 (fun m => ef8 m a1 a2) ?_
  intro W C
  replace C : Wk.Cx Z W "com/example/consentry/consentry/server/ExchangeWithBodyPinLaw" "sameBytes" method_2_code 2 (some .boolean) := C
  refine Wk.aloadN (pc' := 1) C d_method_2_0 rfl rfl rfl ?_
  refine Wk.ifnonnullY C d_method_2_1 (by decide) (pc' := 6) (by decide) ?_
  refine Wk.aloadN (pc' := 7) C d_method_2_6 rfl rfl rfl ?_
  refine Wk.alen (pc' := 8) C d_method_2_7 V1 (z := (0 : Int32)) rfl rfl ?_
  refine Wk.aloadN (pc' := 9) C d_method_2_8 rfl rfl rfl ?_
  refine Wk.alen (pc' := 10) C d_method_2_9 V2 (z := (0 : Int32)) rfl rfl ?_
  refine Wk.icmp_eq C d_method_2_10 (by decide) (pcT := 15) (by decide) (pc' := 13) rfl (fun q11 => ?_) (fun q => absurd q (by decide))
  refine Wk.aloadN (pc' := 16) C d_method_2_15 rfl rfl rfl ?_
  refine Wk.alen (pc' := 17) C d_method_2_16 V2 (z := (0 : Int32)) rfl rfl ?_
  refine Wk.if_ne C d_method_2_17 (by decide) (pcT := 22) (by decide) (pc' := 20) rfl (fun q => absurd q (by decide)) (fun q12 => ?_)
  refine Wk.iconst (pc' := 21) C d_method_2_20 (v := (1 : Int32)) rfl rfl ?_
  exact Wk.retNar C (ty := .boolean) (by simp) d_method_2_21 rfl (by decide) (by decide) ⟨rfl, rfl⟩
set_option maxRecDepth 65536 in
set_option maxHeartbeats 40000000 in
theorem own_same2 (l : Launch) {Z : State} {a0 : Array Value} (hw : Ws a0 Z) {h0 : Heap} (O0 : Ext Z.heap h0) (a1 a2 : Addr) (u0 u1 : Int32) (V1 : Wk.Ary Z h0 a1 .byte [(.int u0), (.int u1)]) (V2 : Wk.Ary Z h0 a2 .byte [(.int u0), (.int u1)]) :
    Wk.Con l Z (⟨"com/example/consentry/consentry/server/ExchangeWithBodyPinLaw", "sameBytes", "([B[B)Z"⟩ : MethodName) method_2_code 2 (some .boolean) ({ frames := 0, cells := 0, slots := 0, locals := 0 } : Room) #[(.ref a1), (.ref a2)] h0 (fun v h' => v = some (.int 1) ∧ h' = h0) := by
  refine Wk.Con.intro (plainFor_of_name pn2) O0 (fun m => ef9 m a1 a2) ?_
  intro W C
  replace C : Wk.Cx Z W "com/example/consentry/consentry/server/ExchangeWithBodyPinLaw" "sameBytes" method_2_code 2 (some .boolean) := C
  refine Wk.aloadN (pc' := 1) C d_method_2_0 rfl rfl rfl ?_
  refine Wk.ifnonnullY C d_method_2_1 (by decide) (pc' := 6) (by decide) ?_
  refine Wk.aloadN (pc' := 7) C d_method_2_6 rfl rfl rfl ?_
  refine Wk.alen (pc' := 8) C d_method_2_7 V1 (z := (2 : Int32)) rfl rfl ?_
  refine Wk.aloadN (pc' := 9) C d_method_2_8 rfl rfl rfl ?_
  refine Wk.alen (pc' := 10) C d_method_2_9 V2 (z := (2 : Int32)) rfl rfl ?_
  refine Wk.icmp_eq C d_method_2_10 (by decide) (pcT := 15) (by decide) (pc' := 13) rfl (fun q11 => ?_) (fun q => absurd q (by decide))
  refine Wk.aloadN (pc' := 16) C d_method_2_15 rfl rfl rfl ?_
  refine Wk.alen (pc' := 17) C d_method_2_16 V2 (z := (2 : Int32)) rfl rfl ?_
  refine Wk.if_ne C d_method_2_17 (by decide) (pcT := 22) (by decide) (pc' := 20) rfl (fun q12 => ?_) (fun q => absurd q (by decide))
  refine Wk.aloadN (pc' := 23) C d_method_2_22 rfl rfl rfl ?_
  refine Wk.iconst (pc' := 24) C d_method_2_23 (v := (0 : Int32)) rfl rfl ?_
  refine Wk.baload (pc' := 25) C d_method_2_24 V1 (by decide) (v := (.int u0)) rfl rfl ?_
  refine Wk.aloadN (pc' := 26) C d_method_2_25 rfl rfl rfl ?_
  refine Wk.iconst (pc' := 27) C d_method_2_26 (v := (0 : Int32)) rfl rfl ?_
  refine Wk.baload (pc' := 28) C d_method_2_27 V2 (by decide) (v := (.int u0)) rfl rfl ?_
  refine Wk.icmp_ne C d_method_2_28 (by decide) (pcT := 44) (by decide) (pc' := 31) rfl (fun q => absurd rfl q) (fun q13 => ?_)
  refine Wk.aloadN (pc' := 32) C d_method_2_31 rfl rfl rfl ?_
  refine Wk.iconst (pc' := 33) C d_method_2_32 (v := (1 : Int32)) rfl rfl ?_
  refine Wk.baload (pc' := 34) C d_method_2_33 V1 (by decide) (v := (.int u1)) rfl rfl ?_
  refine Wk.aloadN (pc' := 35) C d_method_2_34 rfl rfl rfl ?_
  refine Wk.iconst (pc' := 36) C d_method_2_35 (v := (1 : Int32)) rfl rfl ?_
  refine Wk.baload (pc' := 37) C d_method_2_36 V2 (by decide) (v := (.int u1)) rfl rfl ?_
  refine Wk.icmp_ne C d_method_2_37 (by decide) (pcT := 44) (by decide) (pc' := 40) rfl (fun q => absurd rfl q) (fun q14 => ?_)
  refine Wk.iconst (pc' := 41) C d_method_2_40 (v := (1 : Int32)) rfl rfl ?_
  refine Wk.goto C d_method_2_41 (by decide) (pc' := 45) (by decide) ?_
  exact Wk.retNar C (ty := .boolean) (by simp) d_method_2_45 rfl (by decide) (by decide) ⟨rfl, rfl⟩
set_option maxRecDepth 65536 in
set_option maxHeartbeats 80000000 in
theorem own_law (l : Launch) {Z : State} {a0 : Array Value} (hw : Ws a0 Z) (p0 p1 p2 p3 p4 : Int32) (hs : Sets Z)  :
    Wk.Con l Z x code maxLocals ret room_1 #[(.int p0), (.int p1), (.int p2), (.int p3), (.int p4)] Z.heap (fun v _ => v = some (.int 1)) := by
  refine Wk.Con.intro (plainFor_of_name pn2) (Wk.Ext.refl _) (fun m => ef10 m p0 p1 p2 p3 p4) ?_
  intro W C
  replace C : Wk.Cx Z W "com/example/consentry/consentry/server/ExchangeWithBodyPinLaw" "law" code 24 (some .boolean) := C
  have O0 : Ext Z.heap Z.heap := Wk.Ext.refl _
  have J12 : ∀ b1 : Int32, (b1 = 0 ∨ b1 = 1) → Wk.Run l room_1 Z W (fun v _ => v = some (.int 1)) Z.heap 0 0 (mkF W.m 12 #[.val (.int p0), .val (.int p1), .val (.int p2), .val (.int p3), .val (.int p4), .unset, .unset, .unset, .unset, .unset, .unset, .unset, .unset, .unset, .unset, .unset, .unset, .unset, .unset, .unset, .unset, .unset, .unset, .unset] [(.int b1)]) := by
    intro b1 hb1
    refine Wk.istore (pc' := 14) C at_12 (Ls' := #[.val (.int p0), .val (.int p1), .val (.int p2), .val (.int p3), .val (.int p4), .val (.int b1), .unset, .unset, .unset, .unset, .unset, .unset, .unset, .unset, .unset, .unset, .unset, .unset, .unset, .unset, .unset, .unset, .unset, .unset]) rfl rfl ?_
    have J26 : ∀ b2 : Int32, (b2 = 0 ∨ b2 = 1) → Wk.Run l room_1 Z W (fun v _ => v = some (.int 1)) Z.heap 0 0 (mkF W.m 26 #[.val (.int p0), .val (.int p1), .val (.int p2), .val (.int p3), .val (.int p4), .val (.int b1), .unset, .unset, .unset, .unset, .unset, .unset, .unset, .unset, .unset, .unset, .unset, .unset, .unset, .unset, .unset, .unset, .unset, .unset] [(.int b2)]) := by
      intro b2 hb2
      refine Wk.istore (pc' := 28) C at_26 (Ls' := #[.val (.int p0), .val (.int p1), .val (.int p2), .val (.int p3), .val (.int p4), .val (.int b1), .val (.int b2), .unset, .unset, .unset, .unset, .unset, .unset, .unset, .unset, .unset, .unset, .unset, .unset, .unset, .unset, .unset, .unset, .unset]) rfl rfl ?_
      have J40 : ∀ b3 : Int32, (b3 = 0 ∨ b3 = 1) → Wk.Run l room_1 Z W (fun v _ => v = some (.int 1)) Z.heap 0 0 (mkF W.m 40 #[.val (.int p0), .val (.int p1), .val (.int p2), .val (.int p3), .val (.int p4), .val (.int b1), .val (.int b2), .unset, .unset, .unset, .unset, .unset, .unset, .unset, .unset, .unset, .unset, .unset, .unset, .unset, .unset, .unset, .unset, .unset] [(.int b3)]) := by
        intro b3 hb3
        refine Wk.istore (pc' := 42) C at_40 (Ls' := #[.val (.int p0), .val (.int p1), .val (.int p2), .val (.int p3), .val (.int p4), .val (.int b1), .val (.int b2), .val (.int b3), .unset, .unset, .unset, .unset, .unset, .unset, .unset, .unset, .unset, .unset, .unset, .unset, .unset, .unset, .unset, .unset]) rfl rfl ?_
        have J55 : ∀ b4 : Int32, (b4 = 0 ∨ b4 = 1) → Wk.Run l room_1 Z W (fun v _ => v = some (.int 1)) Z.heap 0 0 (mkF W.m 55 #[.val (.int p0), .val (.int p1), .val (.int p2), .val (.int p3), .val (.int p4), .val (.int b1), .val (.int b2), .val (.int b3), .unset, .unset, .unset, .unset, .unset, .unset, .unset, .unset, .unset, .unset, .unset, .unset, .unset, .unset, .unset, .unset] [(.int b4)]) := by
          intro b4 hb4
          refine Wk.istore (pc' := 57) C at_55 (Ls' := #[.val (.int p0), .val (.int p1), .val (.int p2), .val (.int p3), .val (.int p4), .val (.int b1), .val (.int b2), .val (.int b3), .val (.int b4), .unset, .unset, .unset, .unset, .unset, .unset, .unset, .unset, .unset, .unset, .unset, .unset, .unset, .unset, .unset]) rfl rfl ?_
          refine Wk.newO (pc' := 60) C at_57 (w0 hw) (w1 hw) (w2 hw) (k' := 1) rfl (n' := 4) rfl (by decide) (by decide) rfl ?_
          intro a11 h12 ga11 za11 E12 Aa11 Da11 Ua11 O12
          have F13 : Fld Z h12 a11 "java/lang/String" "coder" "B" (.int (0 : Int32)) := Da11 (Or.inr (w27 hw)) (ty := .byte) (by decide)
          have F14 : Fld Z h12 a11 "java/lang/String" "value" "[B" .null := Da11 (Or.inr (w29 hw)) (ty := (.array .byte)) (by decide)
          refine Wk.dup (pc' := 61) C at_60 rfl rfl ?_
          refine Wk.iconst (pc' := 62) C at_61 (v := (2 : Int32)) rfl rfl ?_
          refine Wk.newA (pc' := 64) C at_62 (ty := .char) rfl (w3 hw) (by decide) (cap := 2) (by decide) (by decide) (k' := 2) rfl (n' := 6) rfl (by decide) (by decide) rfl rfl ?_
          intro a15 h16 ga15 za15 E16 Va15 O16
          have V17 : Wk.Ary Z h16 a15 .char [(.int (0 : Int32)), (.int (0 : Int32))] := Va15
          refine Wk.dup (pc' := 65) C at_64 rfl rfl ?_
          refine Wk.iconst (pc' := 66) C at_65 (v := (0 : Int32)) rfl rfl ?_
          refine Wk.iloadN (pc' := 67) C at_66 rfl rfl ?_
          refine Wk.sipush (pc' := 70) C at_67 (v := (255 : Int32)) rfl rfl ?_
          obtain ⟨v18, hv18⟩ : ∃ z : Int32, p0 &&& (255 : Int32) = z := ⟨_, rfl⟩
          refine Wk.iand (pc' := 71) C at_70 hv18 rfl ?_
          obtain ⟨v19, hv19⟩ : ∃ z : Int32, v18.toUInt32.toUInt16.toUInt32.toInt32 = z := ⟨_, rfl⟩
          refine Wk.i2c (pc' := 72) C at_71 hv19 rfl ?_
          refine Wk.castore (pc' := 73) C at_72 V17 (by decide) (show _ < _ from Nat.le_of_ble_eq_true rfl) (Wk.nar_i2c hv19) (vs' := [(.int v19), (.int (0 : Int32))]) rfl za15 rfl ?_
          intro h20 W20 V20 O20
          refine Wk.dup (pc' := 74) C at_73 rfl rfl ?_
          refine Wk.iconst (pc' := 75) C at_74 (v := (1 : Int32)) rfl rfl ?_
          refine Wk.iloadN (pc' := 76) C at_75 rfl rfl ?_
          refine Wk.bipush (pc' := 78) C at_76 (v := (8 : Int32)) rfl rfl ?_
          obtain ⟨v21, hv21⟩ : ∃ z : Int32, (p0.toUInt32 >>> ((8 : Int32) &&& 31).toUInt32).toInt32 = z := ⟨_, rfl⟩
          refine Wk.iushr (pc' := 79) C at_78 hv21 rfl ?_
          refine Wk.sipush (pc' := 82) C at_79 (v := (255 : Int32)) rfl rfl ?_
          obtain ⟨v22, hv22⟩ : ∃ z : Int32, v21 &&& (255 : Int32) = z := ⟨_, rfl⟩
          refine Wk.iand (pc' := 83) C at_82 hv22 rfl ?_
          obtain ⟨v23, hv23⟩ : ∃ z : Int32, v22.toUInt32.toUInt16.toUInt32.toInt32 = z := ⟨_, rfl⟩
          refine Wk.i2c (pc' := 84) C at_83 hv23 rfl ?_
          refine Wk.castore (pc' := 85) C at_84 V20 (by decide) (show _ < _ from Nat.le_of_ble_eq_true rfl) (Wk.nar_i2c hv23) (vs' := [(.int v19), (.int v23)]) rfl za15 rfl ?_
          intro h24 W24 V24 O24
          have hp25 : ∀ c ∈ ([v19, v23] : List Int32), ¬ c < 0 ∧ ¬ (255 : Int32) < c := (List.forall_mem_cons.mpr ⟨(Wk.rng255 hv18 hv19), (List.forall_mem_cons.mpr ⟨(Wk.rng255 hv22 hv23), (fun _ h => nomatch h)⟩)⟩)
          have X26 : Ext h12 h20 := Wk.Ext.wr (Z := Z) E16 W20 (Nat.le_of_eq ga15.symm)
          have X27 : Ext h12 h24 := Wk.Ext.wr (Z := Z) X26 W24 (Nat.le_of_eq ga15.symm)
          refine Wk.callI (pc' := 88) C at_85 (a := a11) (strNew C hw hs O24 (cs := [v19, v23]) (n := 2) (Wn := 1) za11 (Aa11.ext X27) (F14.ext X27) (F13.ext X27) V24 rfl (by decide) (by decide) hp25 (by decide) (by decide)) (strNewC (n := 2) O24 za11 rfl (by decide) hp25) rfl (w4 hw) (w5 hw) (w6 hw) (by decide) (argsL := [(.ref a15)]) (st := [(.ref a11)]) rfl rfl (lenOf pd1 rfl) rfl (Nat.le_of_eq rfl) (k' := 3) rfl (n' := 8) rfl (by decide) (by decide) rfl ?_
          intro r28 h29 Q29 O29
          obtain ⟨rfl, Kh29, Sh29⟩ := Q29
          refine Wk.astore (pc' := 90) C at_88 rfl (Ls' := #[.val (.int p0), .val (.int p1), .val (.int p2), .val (.int p3), .val (.int p4), .val (.int b1), .val (.int b2), .val (.int b3), .val (.int b4), .val (.ref a11), .unset, .unset, .unset, .unset, .unset, .unset, .unset, .unset, .unset, .unset, .unset, .unset, .unset, .unset]) rfl rfl ?_
          refine Wk.newO (pc' := 93) C at_90 (w0 hw) (w1 hw) (w2 hw) (k' := 4) rfl (n' := 12) rfl (by decide) (by decide) rfl ?_
          intro a30 h31 ga30 za30 E31 Aa30 Da30 Ua30 O31
          have F32 : Fld Z h31 a30 "java/lang/String" "coder" "B" (.int (0 : Int32)) := Da30 (Or.inr (w27 hw)) (ty := .byte) (by decide)
          have F33 : Fld Z h31 a30 "java/lang/String" "value" "[B" .null := Da30 (Or.inr (w29 hw)) (ty := (.array .byte)) (by decide)
          refine Wk.dup (pc' := 94) C at_93 rfl rfl ?_
          refine Wk.iconst (pc' := 95) C at_94 (v := (2 : Int32)) rfl rfl ?_
          refine Wk.newA (pc' := 97) C at_95 (ty := .char) rfl (w3 hw) (by decide) (cap := 2) (by decide) (by decide) (k' := 5) rfl (n' := 14) rfl (by decide) (by decide) rfl rfl ?_
          intro a34 h35 ga34 za34 E35 Va34 O35
          have V36 : Wk.Ary Z h35 a34 .char [(.int (0 : Int32)), (.int (0 : Int32))] := Va34
          refine Wk.dup (pc' := 98) C at_97 rfl rfl ?_
          refine Wk.iconst (pc' := 99) C at_98 (v := (0 : Int32)) rfl rfl ?_
          refine Wk.iloadN (pc' := 100) C at_99 rfl rfl ?_
          refine Wk.sipush (pc' := 103) C at_100 (v := (255 : Int32)) rfl rfl ?_
          obtain ⟨v37, hv37⟩ : ∃ z : Int32, p1 &&& (255 : Int32) = z := ⟨_, rfl⟩
          refine Wk.iand (pc' := 104) C at_103 hv37 rfl ?_
          obtain ⟨v38, hv38⟩ : ∃ z : Int32, v37.toUInt32.toUInt16.toUInt32.toInt32 = z := ⟨_, rfl⟩
          refine Wk.i2c (pc' := 105) C at_104 hv38 rfl ?_
          refine Wk.castore (pc' := 106) C at_105 V36 (by decide) (show _ < _ from Nat.le_of_ble_eq_true rfl) (Wk.nar_i2c hv38) (vs' := [(.int v38), (.int (0 : Int32))]) rfl za34 rfl ?_
          intro h39 W39 V39 O39
          refine Wk.dup (pc' := 107) C at_106 rfl rfl ?_
          refine Wk.iconst (pc' := 108) C at_107 (v := (1 : Int32)) rfl rfl ?_
          refine Wk.iloadN (pc' := 109) C at_108 rfl rfl ?_
          refine Wk.bipush (pc' := 111) C at_109 (v := (8 : Int32)) rfl rfl ?_
          obtain ⟨v40, hv40⟩ : ∃ z : Int32, (p1.toUInt32 >>> ((8 : Int32) &&& 31).toUInt32).toInt32 = z := ⟨_, rfl⟩
          refine Wk.iushr (pc' := 112) C at_111 hv40 rfl ?_
          refine Wk.sipush (pc' := 115) C at_112 (v := (255 : Int32)) rfl rfl ?_
          obtain ⟨v41, hv41⟩ : ∃ z : Int32, v40 &&& (255 : Int32) = z := ⟨_, rfl⟩
          refine Wk.iand (pc' := 116) C at_115 hv41 rfl ?_
          obtain ⟨v42, hv42⟩ : ∃ z : Int32, v41.toUInt32.toUInt16.toUInt32.toInt32 = z := ⟨_, rfl⟩
          refine Wk.i2c (pc' := 117) C at_116 hv42 rfl ?_
          refine Wk.castore (pc' := 118) C at_117 V39 (by decide) (show _ < _ from Nat.le_of_ble_eq_true rfl) (Wk.nar_i2c hv42) (vs' := [(.int v38), (.int v42)]) rfl za34 rfl ?_
          intro h43 W43 V43 O43
          have hp44 : ∀ c ∈ ([v38, v42] : List Int32), ¬ c < 0 ∧ ¬ (255 : Int32) < c := (List.forall_mem_cons.mpr ⟨(Wk.rng255 hv37 hv38), (List.forall_mem_cons.mpr ⟨(Wk.rng255 hv41 hv42), (fun _ h => nomatch h)⟩)⟩)
          have X45 : Ext h31 h39 := Wk.Ext.wr (Z := Z) E35 W39 (Nat.le_of_eq ga34.symm)
          have X46 : Ext h31 h43 := Wk.Ext.wr (Z := Z) X45 W43 (Nat.le_of_eq ga34.symm)
          refine Wk.callI (pc' := 121) C at_118 (a := a30) (strNew C hw hs O43 (cs := [v38, v42]) (n := 2) (Wn := 1) za30 (Aa30.ext X46) (F33.ext X46) (F32.ext X46) V43 rfl (by decide) (by decide) hp44 (by decide) (by decide)) (strNewC (n := 2) O43 za30 rfl (by decide) hp44) rfl (w4 hw) (w5 hw) (w6 hw) (by decide) (argsL := [(.ref a34)]) (st := [(.ref a30)]) rfl rfl (lenOf pd1 rfl) rfl (Nat.le_of_eq rfl) (k' := 6) rfl (n' := 16) rfl (by decide) (by decide) rfl ?_
          intro r47 h48 Q48 O48
          obtain ⟨rfl, Kh48, Sh48⟩ := Q48
          refine Wk.astore (pc' := 123) C at_121 rfl (Ls' := #[.val (.int p0), .val (.int p1), .val (.int p2), .val (.int p3), .val (.int p4), .val (.int b1), .val (.int b2), .val (.int b3), .val (.int b4), .val (.ref a11), .val (.ref a30), .unset, .unset, .unset, .unset, .unset, .unset, .unset, .unset, .unset, .unset, .unset, .unset, .unset]) rfl rfl ?_
          refine Wk.iload (pc' := 125) C at_123 rfl rfl ?_
          refine Wk.if_eq C at_125 (by decide) (pcT := 132) (by decide) (pc' := 128) rfl (fun q49 => ?_) (fun q49 => ?_)
          · -- pc 125: taken
            refine Wk.newO (pc' := 135) C at_132 (w0 hw) (w1 hw) (w2 hw) (k' := 7) rfl (n' := 20) rfl (by decide) (by decide) rfl ?_
            intro a50 h51 ga50 za50 E51 Aa50 Da50 Ua50 O51
            have F52 : Fld Z h51 a50 "java/lang/String" "coder" "B" (.int (0 : Int32)) := Da50 (Or.inr (w27 hw)) (ty := .byte) (by decide)
            have F53 : Fld Z h51 a50 "java/lang/String" "value" "[B" .null := Da50 (Or.inr (w29 hw)) (ty := (.array .byte)) (by decide)
            refine Wk.dup (pc' := 136) C at_135 rfl rfl ?_
            refine Wk.iconst (pc' := 137) C at_136 (v := (1 : Int32)) rfl rfl ?_
            refine Wk.newA (pc' := 139) C at_137 (ty := .char) rfl (w3 hw) (by decide) (cap := 1) (by decide) (by decide) (k' := 8) rfl (n' := 21) rfl (by decide) (by decide) rfl rfl ?_
            intro a54 h55 ga54 za54 E55 Va54 O55
            have V56 : Wk.Ary Z h55 a54 .char [(.int (0 : Int32))] := Va54
            refine Wk.dup (pc' := 140) C at_139 rfl rfl ?_
            refine Wk.iconst (pc' := 141) C at_140 (v := (0 : Int32)) rfl rfl ?_
            refine Wk.iloadN (pc' := 142) C at_141 rfl rfl ?_
            refine Wk.sipush (pc' := 145) C at_142 (v := (255 : Int32)) rfl rfl ?_
            obtain ⟨v57, hv57⟩ : ∃ z : Int32, p2 &&& (255 : Int32) = z := ⟨_, rfl⟩
            refine Wk.iand (pc' := 146) C at_145 hv57 rfl ?_
            obtain ⟨v58, hv58⟩ : ∃ z : Int32, v57.toUInt32.toUInt16.toUInt32.toInt32 = z := ⟨_, rfl⟩
            refine Wk.i2c (pc' := 147) C at_146 hv58 rfl ?_
            refine Wk.castore (pc' := 148) C at_147 V56 (by decide) (show _ < _ from Nat.le_of_ble_eq_true rfl) (Wk.nar_i2c hv58) (vs' := [(.int v58)]) rfl za54 rfl ?_
            intro h59 W59 V59 O59
            have hp60 : ∀ c ∈ ([v58] : List Int32), ¬ c < 0 ∧ ¬ (255 : Int32) < c := (List.forall_mem_cons.mpr ⟨(Wk.rng255 hv57 hv58), (fun _ h => nomatch h)⟩)
            have X61 : Ext h51 h59 := Wk.Ext.wr (Z := Z) E55 W59 (Nat.le_of_eq ga54.symm)
            refine Wk.callI (pc' := 151) C at_148 (a := a50) (strNew C hw hs O59 (cs := [v58]) (n := 1) (Wn := 1) za50 (Aa50.ext X61) (F53.ext X61) (F52.ext X61) V59 rfl (by decide) (by decide) hp60 (by decide) (by decide)) (strNewC (n := 1) O59 za50 rfl (by decide) hp60) rfl (w4 hw) (w5 hw) (w6 hw) (by decide) (argsL := [(.ref a54)]) (st := [(.ref a50)]) rfl rfl (lenOf pd1 rfl) rfl (Nat.le_of_eq rfl) (k' := 9) rfl (n' := 22) rfl (by decide) (by decide) rfl ?_
            intro r62 h63 Q63 O63
            obtain ⟨rfl, Kh63, Sh63⟩ := Q63
            refine Wk.astore (pc' := 153) C at_151 rfl (Ls' := #[.val (.int p0), .val (.int p1), .val (.int p2), .val (.int p3), .val (.int p4), .val (.int b1), .val (.int b2), .val (.int b3), .val (.int b4), .val (.ref a11), .val (.ref a30), .val (.ref a50), .unset, .unset, .unset, .unset, .unset, .unset, .unset, .unset, .unset, .unset, .unset, .unset]) rfl rfl ?_
            refine Wk.iconst (pc' := 154) C at_153 (v := (2 : Int32)) rfl rfl ?_
            refine Wk.newA (pc' := 156) C at_154 (ty := .byte) rfl (w19 hw) (by decide) (cap := 2) (by decide) (by decide) (k' := 10) rfl (n' := 24) rfl (by decide) (by decide) rfl rfl ?_
            intro a64 h65 ga64 za64 E65 Va64 O65
            have V66 : Wk.Ary Z h65 a64 .byte [(.int (0 : Int32)), (.int (0 : Int32))] := Va64
            refine Wk.dup (pc' := 157) C at_156 rfl rfl ?_
            refine Wk.iconst (pc' := 158) C at_157 (v := (0 : Int32)) rfl rfl ?_
            refine Wk.iloadN (pc' := 159) C at_158 rfl rfl ?_
            refine Wk.bipush (pc' := 161) C at_159 (v := (16 : Int32)) rfl rfl ?_
            obtain ⟨v67, hv67⟩ : ∃ z : Int32, (p3.toUInt32 >>> ((16 : Int32) &&& 31).toUInt32).toInt32 = z := ⟨_, rfl⟩
            refine Wk.iushr (pc' := 162) C at_161 hv67 rfl ?_
            obtain ⟨v68, hv68⟩ : ∃ z : Int32, v67.toInt8.toInt32 = z := ⟨_, rfl⟩
            refine Wk.i2b (pc' := 163) C at_162 hv68 rfl ?_
            refine Wk.bastore (pc' := 164) C at_163 V66 (by decide) (show _ < _ from Nat.le_of_ble_eq_true rfl) (vs' := [(.int v68), (.int (0 : Int32))]) (by rw [Wk.nar_i2b hv68]; rfl) za64 rfl ?_
            intro h69 W69 V69 O69
            refine Wk.dup (pc' := 165) C at_164 rfl rfl ?_
            refine Wk.iconst (pc' := 166) C at_165 (v := (1 : Int32)) rfl rfl ?_
            refine Wk.iloadN (pc' := 167) C at_166 rfl rfl ?_
            refine Wk.bipush (pc' := 169) C at_167 (v := (24 : Int32)) rfl rfl ?_
            obtain ⟨v70, hv70⟩ : ∃ z : Int32, (p3.toUInt32 >>> ((24 : Int32) &&& 31).toUInt32).toInt32 = z := ⟨_, rfl⟩
            refine Wk.iushr (pc' := 170) C at_169 hv70 rfl ?_
            obtain ⟨v71, hv71⟩ : ∃ z : Int32, v70.toInt8.toInt32 = z := ⟨_, rfl⟩
            refine Wk.i2b (pc' := 171) C at_170 hv71 rfl ?_
            refine Wk.bastore (pc' := 172) C at_171 V69 (by decide) (show _ < _ from Nat.le_of_ble_eq_true rfl) (vs' := [(.int v68), (.int v71)]) (by rw [Wk.nar_i2b hv71]; rfl) za64 rfl ?_
            intro h72 W72 V72 O72
            refine Wk.astore (pc' := 174) C at_172 rfl (Ls' := #[.val (.int p0), .val (.int p1), .val (.int p2), .val (.int p3), .val (.int p4), .val (.int b1), .val (.int b2), .val (.int b3), .val (.int b4), .val (.ref a11), .val (.ref a30), .val (.ref a50), .val (.ref a64), .unset, .unset, .unset, .unset, .unset, .unset, .unset, .unset, .unset, .unset, .unset]) rfl rfl ?_
            refine Wk.iconst (pc' := 175) C at_174 (v := (2 : Int32)) rfl rfl ?_
            refine Wk.newA (pc' := 177) C at_175 (ty := .byte) rfl (w19 hw) (by decide) (cap := 2) (by decide) (by decide) (k' := 11) rfl (n' := 26) rfl (by decide) (by decide) rfl rfl ?_
            intro a73 h74 ga73 za73 E74 Va73 O74
            have V75 : Wk.Ary Z h74 a73 .byte [(.int (0 : Int32)), (.int (0 : Int32))] := Va73
            refine Wk.dup (pc' := 178) C at_177 rfl rfl ?_
            refine Wk.iconst (pc' := 179) C at_178 (v := (0 : Int32)) rfl rfl ?_
            refine Wk.iloadN (pc' := 180) C at_179 rfl rfl ?_
            refine Wk.bipush (pc' := 182) C at_180 (v := (16 : Int32)) rfl rfl ?_
            refine Wk.iushr (pc' := 183) C at_182 hv67 rfl ?_
            refine Wk.i2b (pc' := 184) C at_183 hv68 rfl ?_
            refine Wk.bastore (pc' := 185) C at_184 V75 (by decide) (show _ < _ from Nat.le_of_ble_eq_true rfl) (vs' := [(.int v68), (.int (0 : Int32))]) (by rw [Wk.nar_i2b hv68]; rfl) za73 rfl ?_
            intro h76 W76 V76 O76
            refine Wk.dup (pc' := 186) C at_185 rfl rfl ?_
            refine Wk.iconst (pc' := 187) C at_186 (v := (1 : Int32)) rfl rfl ?_
            refine Wk.iloadN (pc' := 188) C at_187 rfl rfl ?_
            refine Wk.bipush (pc' := 190) C at_188 (v := (24 : Int32)) rfl rfl ?_
            refine Wk.iushr (pc' := 191) C at_190 hv70 rfl ?_
            refine Wk.i2b (pc' := 192) C at_191 hv71 rfl ?_
            refine Wk.bastore (pc' := 193) C at_192 V76 (by decide) (show _ < _ from Nat.le_of_ble_eq_true rfl) (vs' := [(.int v68), (.int v71)]) (by rw [Wk.nar_i2b hv71]; rfl) za73 rfl ?_
            intro h77 W77 V77 O77
            refine Wk.astore (pc' := 195) C at_193 rfl (Ls' := #[.val (.int p0), .val (.int p1), .val (.int p2), .val (.int p3), .val (.int p4), .val (.int b1), .val (.int b2), .val (.int b3), .val (.int b4), .val (.ref a11), .val (.ref a30), .val (.ref a50), .val (.ref a64), .val (.ref a73), .unset, .unset, .unset, .unset, .unset, .unset, .unset, .unset, .unset, .unset]) rfl rfl ?_
            refine Wk.iload (pc' := 197) C at_195 rfl rfl ?_
            refine Wk.if_eq C at_197 (by decide) (pcT := 206) (by decide) (pc' := 200) rfl (fun q78 => ?_) (fun q78 => ?_)
            · -- pc 197: taken
              refine Wk.iconst (pc' := 207) C at_206 (v := (2 : Int32)) rfl rfl ?_
              refine Wk.newA (pc' := 209) C at_207 (ty := .byte) rfl (w19 hw) (by decide) (cap := 2) (by decide) (by decide) (k' := 12) rfl (n' := 28) rfl (by decide) (by decide) rfl rfl ?_
              intro a79 h80 ga79 za79 E80 Va79 O80
              have V81 : Wk.Ary Z h80 a79 .byte [(.int (0 : Int32)), (.int (0 : Int32))] := Va79
              refine Wk.dup (pc' := 210) C at_209 rfl rfl ?_
              refine Wk.iconst (pc' := 211) C at_210 (v := (0 : Int32)) rfl rfl ?_
              refine Wk.iloadN (pc' := 212) C at_211 rfl rfl ?_
              obtain ⟨v82, hv82⟩ : ∃ z : Int32, p3.toInt8.toInt32 = z := ⟨_, rfl⟩
              refine Wk.i2b (pc' := 213) C at_212 hv82 rfl ?_
              refine Wk.bastore (pc' := 214) C at_213 V81 (by decide) (show _ < _ from Nat.le_of_ble_eq_true rfl) (vs' := [(.int v82), (.int (0 : Int32))]) (by rw [Wk.nar_i2b hv82]; rfl) za79 rfl ?_
              intro h83 W83 V83 O83
              refine Wk.dup (pc' := 215) C at_214 rfl rfl ?_
              refine Wk.iconst (pc' := 216) C at_215 (v := (1 : Int32)) rfl rfl ?_
              refine Wk.iloadN (pc' := 217) C at_216 rfl rfl ?_
              refine Wk.bipush (pc' := 219) C at_217 (v := (8 : Int32)) rfl rfl ?_
              obtain ⟨v84, hv84⟩ : ∃ z : Int32, (p3.toUInt32 >>> ((8 : Int32) &&& 31).toUInt32).toInt32 = z := ⟨_, rfl⟩
              refine Wk.iushr (pc' := 220) C at_219 hv84 rfl ?_
              obtain ⟨v85, hv85⟩ : ∃ z : Int32, v84.toInt8.toInt32 = z := ⟨_, rfl⟩
              refine Wk.i2b (pc' := 221) C at_220 hv85 rfl ?_
              refine Wk.bastore (pc' := 222) C at_221 V83 (by decide) (show _ < _ from Nat.le_of_ble_eq_true rfl) (vs' := [(.int v82), (.int v85)]) (by rw [Wk.nar_i2b hv85]; rfl) za79 rfl ?_
              intro h86 W86 V86 O86
              refine Wk.astore (pc' := 224) C at_222 rfl (Ls' := #[.val (.int p0), .val (.int p1), .val (.int p2), .val (.int p3), .val (.int p4), .val (.int b1), .val (.int b2), .val (.int b3), .val (.int b4), .val (.ref a11), .val (.ref a30), .val (.ref a50), .val (.ref a64), .val (.ref a73), .val (.ref a79), .unset, .unset, .unset, .unset, .unset, .unset, .unset, .unset, .unset]) rfl rfl ?_
              refine Wk.iload (pc' := 226) C at_224 rfl rfl ?_
              refine Wk.if_eq C at_226 (by decide) (pcT := 235) (by decide) (pc' := 229) rfl (fun q87 => ?_) (fun q => absurd q78 q)
              refine Wk.iconst (pc' := 236) C at_235 (v := (2 : Int32)) rfl rfl ?_
              refine Wk.newA (pc' := 238) C at_236 (ty := .byte) rfl (w19 hw) (by decide) (cap := 2) (by decide) (by decide) (k' := 13) rfl (n' := 30) rfl (by decide) (by decide) rfl rfl ?_
              intro a88 h89 ga88 za88 E89 Va88 O89
              have V90 : Wk.Ary Z h89 a88 .byte [(.int (0 : Int32)), (.int (0 : Int32))] := Va88
              refine Wk.dup (pc' := 239) C at_238 rfl rfl ?_
              refine Wk.iconst (pc' := 240) C at_239 (v := (0 : Int32)) rfl rfl ?_
              refine Wk.iloadN (pc' := 241) C at_240 rfl rfl ?_
              refine Wk.i2b (pc' := 242) C at_241 hv82 rfl ?_
              refine Wk.bastore (pc' := 243) C at_242 V90 (by decide) (show _ < _ from Nat.le_of_ble_eq_true rfl) (vs' := [(.int v82), (.int (0 : Int32))]) (by rw [Wk.nar_i2b hv82]; rfl) za88 rfl ?_
              intro h91 W91 V91 O91
              refine Wk.dup (pc' := 244) C at_243 rfl rfl ?_
              refine Wk.iconst (pc' := 245) C at_244 (v := (1 : Int32)) rfl rfl ?_
              refine Wk.iloadN (pc' := 246) C at_245 rfl rfl ?_
              refine Wk.bipush (pc' := 248) C at_246 (v := (8 : Int32)) rfl rfl ?_
              refine Wk.iushr (pc' := 249) C at_248 hv84 rfl ?_
              refine Wk.i2b (pc' := 250) C at_249 hv85 rfl ?_
              refine Wk.bastore (pc' := 251) C at_250 V91 (by decide) (show _ < _ from Nat.le_of_ble_eq_true rfl) (vs' := [(.int v82), (.int v85)]) (by rw [Wk.nar_i2b hv85]; rfl) za88 rfl ?_
              intro h92 W92 V92 O92
              refine Wk.astore (pc' := 253) C at_251 rfl (Ls' := #[.val (.int p0), .val (.int p1), .val (.int p2), .val (.int p3), .val (.int p4), .val (.int b1), .val (.int b2), .val (.int b3), .val (.int b4), .val (.ref a11), .val (.ref a30), .val (.ref a50), .val (.ref a64), .val (.ref a73), .val (.ref a79), .val (.ref a88), .unset, .unset, .unset, .unset, .unset, .unset, .unset, .unset]) rfl rfl ?_
              refine Wk.newO (pc' := 256) C at_253 (w30 hw) (w31 hw) (w32 hw) (k' := 14) rfl (n' := 36) rfl (by decide) (by decide) rfl ?_
              intro a93 h94 ga93 za93 E94 Aa93 Da93 Ua93 O94
              have F95 : Fld Z h94 a93 "com/example/consentry/consentry/server/Exchange" "method" "Ljava/lang/String;" .null := Da93 (Or.inr (w38 hw)) (ty := (.object "java/lang/String")) (by decide)
              have F96 : Fld Z h94 a93 "com/example/consentry/consentry/server/Exchange" "rawPath" "Ljava/lang/String;" .null := Da93 (Or.inr (w40 hw)) (ty := (.object "java/lang/String")) (by decide)
              have F97 : Fld Z h94 a93 "com/example/consentry/consentry/server/Exchange" "rawQuery" "Ljava/lang/String;" .null := Da93 (Or.inr (w42 hw)) (ty := (.object "java/lang/String")) (by decide)
              have F98 : Fld Z h94 a93 "com/example/consentry/consentry/server/Exchange" "fields" "Ljava/util/Map;" .null := Da93 (Or.inr (w44 hw)) (ty := (.object "java/util/Map")) (by decide)
              have F99 : Fld Z h94 a93 "com/example/consentry/consentry/server/Exchange" "body" "[B" .null := Da93 (Or.inr (w46 hw)) (ty := (.array .byte)) (by decide)
              have F100 : Fld Z h94 a93 "com/example/consentry/consentry/server/Exchange" "bodyCut" "Z" (.int (0 : Int32)) := Da93 (Or.inr (w48 hw)) (ty := .boolean) (by decide)
              refine Wk.dup (pc' := 257) C at_256 rfl rfl ?_
              refine Wk.aload (pc' := 259) C at_257 rfl rfl rfl ?_
              refine Wk.aload (pc' := 261) C at_259 rfl rfl rfl ?_
              refine Wk.aload (pc' := 263) C at_261 rfl rfl rfl ?_
              refine Wk.aconstNull (pc' := 264) C at_263 rfl ?_
              refine Wk.aload (pc' := 266) C at_264 rfl rfl rfl ?_
              refine Wk.iload (pc' := 268) C at_266 rfl rfl ?_
              refine Wk.callI (pc' := 271) C at_268 (a := a93) (Wk.Con.pays C (Wn := 1) (own_init l hw O94 a93 a11 a30 a64 (.ref a50) b1 rfl za93 hb1 Aa93 F95 F96 F97 F98 F99 F100) (w35 hw) (w32 hw) (by decide) (by decide)) Wk.cleanC rfl (w33 hw) (w34 hw) (w35 hw) (by decide) (argsL := [(.ref a11), (.ref a30), (.ref a50), .null, (.ref a64), (.int b1)]) (st := [(.ref a93)]) rfl rfl (lenOf pd0 rfl) rfl (Nat.le_of_eq rfl) (k' := 14) rfl (n' := 36) rfl (by decide) (by decide) rfl ?_
              intro r101 h102 Q102 O102
              obtain ⟨rfl, Kh102, Ah102, h102_method, h102_rawPath, h102_rawQuery, h102_fields, h102_body, h102_bodyCut⟩ := Q102
              refine Wk.astore (pc' := 273) C at_271 rfl (Ls' := #[.val (.int p0), .val (.int p1), .val (.int p2), .val (.int p3), .val (.int p4), .val (.int b1), .val (.int b2), .val (.int b3), .val (.int b4), .val (.ref a11), .val (.ref a30), .val (.ref a50), .val (.ref a64), .val (.ref a73), .val (.ref a79), .val (.ref a88), .val (.ref a93), .unset, .unset, .unset, .unset, .unset, .unset, .unset]) rfl rfl ?_
              refine Wk.aload (pc' := 275) C at_273 rfl rfl rfl ?_
              refine Wk.aload (pc' := 277) C at_275 rfl rfl rfl ?_
              refine Wk.iload (pc' := 279) C at_277 rfl rfl ?_
              refine Wk.callV (pc' := 282) C at_279 (a := a93) (Wk.Con.pays C (Wn := 0) (own_with l hw O102 a93 a11 a30 a79 (.ref a50) b2 rfl hb2 h102_method h102_rawPath h102_rawQuery h102_fields) (w53 hw) (w32 hw) (by decide) (by decide)) Wk.cleanC Ah102 (w49 hw) (w50 hw) (notFace_of_selects (args := #[]) (mvT C.hZ (w52 hw))) (w52 hw) (w51 hw) (by decide) (argsL := [(.ref a79), (.int b2)]) (st := []) rfl rfl (lenOf pd2 rfl) rfl (Nat.le_of_eq rfl) (k' := 15) rfl (n' := 42) rfl (by decide) (by decide) rfl ?_
              intro r103 h104 Q104 O104
              obtain ⟨a105, rfl, ga105, Eh104, Ah104, h104_method, h104_rawPath, h104_rawQuery, h104_fields, h104_body, h104_bodyCut⟩ := Q104
              refine Wk.astore (pc' := 284) C at_282 rfl (Ls' := #[.val (.int p0), .val (.int p1), .val (.int p2), .val (.int p3), .val (.int p4), .val (.int b1), .val (.int b2), .val (.int b3), .val (.int b4), .val (.ref a11), .val (.ref a30), .val (.ref a50), .val (.ref a64), .val (.ref a73), .val (.ref a79), .val (.ref a88), .val (.ref a93), .val (.ref a105), .unset, .unset, .unset, .unset, .unset, .unset]) rfl rfl ?_
              refine Wk.aload (pc' := 286) C at_284 rfl rfl rfl ?_
              refine Wk.aload (pc' := 288) C at_286 rfl rfl rfl ?_
              refine Wk.callV (pc' := 291) C at_288 (a := a105) (Wk.Con.pays C (Wn := 1) (own_get_method l hw O104 a105 (.ref a11) rfl h104_method) (w60 hw) (w32 hw) (by decide) (by decide)) Wk.cleanC Ah104 (w56 hw) (w57 hw) (notFace_of_selects (args := #[]) (mvT C.hZ (w59 hw))) (w59 hw) (w58 hw) (by decide) (argsL := []) (st := [(.ref a11)]) rfl rfl (lenOf pd3 rfl) rfl (Nat.le_of_eq rfl) (k' := 15) rfl (n' := 42) rfl (by decide) (by decide) rfl ?_
              intro r106 h107 Q107 O107
              obtain ⟨rfl, e108⟩ := Q107
              obtain rfl := e108.symm
              have X111 : Ext h29 h35 := Wk.Ext.trans E31 E35
              have X112 : Ext h29 h39 := Wk.Ext.wr (Z := Z) X111 W39 (Nat.le_trans E31.1 (Nat.le_of_eq ga34.symm))
              have X113 : Ext h29 h43 := Wk.Ext.wr (Z := Z) X112 W43 (Nat.le_trans E31.1 (Nat.le_of_eq ga34.symm))
              have X114 : Ext h29 h48 := Wk.Ext.keep1 (Z := Z) X113 Kh48 (Nat.le_of_eq ga30.symm)
              have X115 : Ext h29 h51 := Wk.Ext.trans X114 E51
              have X116 : Ext h29 h55 := Wk.Ext.trans X115 E55
              have X117 : Ext h29 h59 := Wk.Ext.wr (Z := Z) X116 W59 (Nat.le_trans X115.1 (Nat.le_of_eq ga54.symm))
              have X118 : Ext h29 h63 := Wk.Ext.keep1 (Z := Z) X117 Kh63 (Nat.le_trans X114.1 (Nat.le_of_eq ga50.symm))
              have X119 : Ext h29 h65 := Wk.Ext.trans X118 E65
              have X120 : Ext h29 h69 := Wk.Ext.wr (Z := Z) X119 W69 (Nat.le_trans X118.1 (Nat.le_of_eq ga64.symm))
              have X121 : Ext h29 h72 := Wk.Ext.wr (Z := Z) X120 W72 (Nat.le_trans X118.1 (Nat.le_of_eq ga64.symm))
              have X122 : Ext h29 h74 := Wk.Ext.trans X121 E74
              have X123 : Ext h29 h76 := Wk.Ext.wr (Z := Z) X122 W76 (Nat.le_trans X121.1 (Nat.le_of_eq ga73.symm))
              have X124 : Ext h29 h77 := Wk.Ext.wr (Z := Z) X123 W77 (Nat.le_trans X121.1 (Nat.le_of_eq ga73.symm))
              have X125 : Ext h29 h80 := Wk.Ext.trans X124 E80
              have X126 : Ext h29 h83 := Wk.Ext.wr (Z := Z) X125 W83 (Nat.le_trans X124.1 (Nat.le_of_eq ga79.symm))
              have X127 : Ext h29 h86 := Wk.Ext.wr (Z := Z) X126 W86 (Nat.le_trans X124.1 (Nat.le_of_eq ga79.symm))
              have X128 : Ext h29 h89 := Wk.Ext.trans X127 E89
              have X129 : Ext h29 h91 := Wk.Ext.wr (Z := Z) X128 W91 (Nat.le_trans X127.1 (Nat.le_of_eq ga88.symm))
              have X130 : Ext h29 h92 := Wk.Ext.wr (Z := Z) X129 W92 (Nat.le_trans X127.1 (Nat.le_of_eq ga88.symm))
              have X131 : Ext h29 h94 := Wk.Ext.trans X130 E94
              have X132 : Ext h29 h102 := Wk.Ext.keep1 (Z := Z) X131 Kh102 (Nat.le_trans X130.1 (Nat.le_of_eq ga93.symm))
              have X133 : Ext h29 h104 := Wk.Ext.trans X132 Eh104
              refine Wk.callV (pc' := 294) C at_291 (a := a11) (Wk.Con.pays C (Wn := 0) (own_eq l hw O104 a11) (w65 hw) (w2 hw) (by decide) (by decide)) Wk.cleanC (Sh29.exa.ext X133) (w61 hw) (w62 hw) (notFace_of_selects (args := #[]) (mvT C.hZ (w64 hw))) (w64 hw) (w63 hw) (by decide) (argsL := [(.ref a11)]) (st := []) rfl rfl (lenOf pd4 rfl) rfl (Nat.le_of_eq rfl) (k' := 15) rfl (n' := 42) rfl (by decide) (by decide) rfl ?_
              intro r109 h110 Q110 O110
              obtain ⟨rfl, e134⟩ := Q110
              obtain rfl := e134.symm
              refine Wk.if_eq C at_294 (by decide) (pcT := 314) (by decide) (pc' := 297) rfl (fun q => absurd q (by decide)) (fun q135 => ?_)
              refine Wk.aload (pc' := 299) C at_297 rfl rfl rfl ?_
              refine Wk.aload (pc' := 301) C at_299 rfl rfl rfl ?_
              refine Wk.callV (pc' := 304) C at_301 (a := a105) (Wk.Con.pays C (Wn := 1) (own_get_rawPath l hw O104 a105 (.ref a30) rfl h104_rawPath) (w70 hw) (w32 hw) (by decide) (by decide)) Wk.cleanC Ah104 (w66 hw) (w67 hw) (notFace_of_selects (args := #[]) (mvT C.hZ (w69 hw))) (w69 hw) (w68 hw) (by decide) (argsL := []) (st := [(.ref a30)]) rfl rfl (lenOf pd3 rfl) rfl (Nat.le_of_eq rfl) (k' := 15) rfl (n' := 42) rfl (by decide) (by decide) rfl ?_
              intro r136 h137 Q137 O137
              obtain ⟨rfl, e138⟩ := Q137
              obtain rfl := e138.symm
              have X141 : Ext h48 h55 := Wk.Ext.trans E51 E55
              have X142 : Ext h48 h59 := Wk.Ext.wr (Z := Z) X141 W59 (Nat.le_trans E51.1 (Nat.le_of_eq ga54.symm))
              have X143 : Ext h48 h63 := Wk.Ext.keep1 (Z := Z) X142 Kh63 (Nat.le_of_eq ga50.symm)
              have X144 : Ext h48 h65 := Wk.Ext.trans X143 E65
              have X145 : Ext h48 h69 := Wk.Ext.wr (Z := Z) X144 W69 (Nat.le_trans X143.1 (Nat.le_of_eq ga64.symm))
              have X146 : Ext h48 h72 := Wk.Ext.wr (Z := Z) X145 W72 (Nat.le_trans X143.1 (Nat.le_of_eq ga64.symm))
              have X147 : Ext h48 h74 := Wk.Ext.trans X146 E74
              have X148 : Ext h48 h76 := Wk.Ext.wr (Z := Z) X147 W76 (Nat.le_trans X146.1 (Nat.le_of_eq ga73.symm))
              have X149 : Ext h48 h77 := Wk.Ext.wr (Z := Z) X148 W77 (Nat.le_trans X146.1 (Nat.le_of_eq ga73.symm))
              have X150 : Ext h48 h80 := Wk.Ext.trans X149 E80
              have X151 : Ext h48 h83 := Wk.Ext.wr (Z := Z) X150 W83 (Nat.le_trans X149.1 (Nat.le_of_eq ga79.symm))
              have X152 : Ext h48 h86 := Wk.Ext.wr (Z := Z) X151 W86 (Nat.le_trans X149.1 (Nat.le_of_eq ga79.symm))
              have X153 : Ext h48 h89 := Wk.Ext.trans X152 E89
              have X154 : Ext h48 h91 := Wk.Ext.wr (Z := Z) X153 W91 (Nat.le_trans X152.1 (Nat.le_of_eq ga88.symm))
              have X155 : Ext h48 h92 := Wk.Ext.wr (Z := Z) X154 W92 (Nat.le_trans X152.1 (Nat.le_of_eq ga88.symm))
              have X156 : Ext h48 h94 := Wk.Ext.trans X155 E94
              have X157 : Ext h48 h102 := Wk.Ext.keep1 (Z := Z) X156 Kh102 (Nat.le_trans X155.1 (Nat.le_of_eq ga93.symm))
              have X158 : Ext h48 h104 := Wk.Ext.trans X157 Eh104
              refine Wk.callV (pc' := 307) C at_304 (a := a30) (Wk.Con.pays C (Wn := 0) (own_eq l hw O104 a30) (w65 hw) (w2 hw) (by decide) (by decide)) Wk.cleanC (Sh48.exa.ext X158) (w61 hw) (w62 hw) (notFace_of_selects (args := #[]) (mvT C.hZ (w64 hw))) (w64 hw) (w63 hw) (by decide) (argsL := [(.ref a30)]) (st := []) rfl rfl (lenOf pd4 rfl) rfl (Nat.le_of_eq rfl) (k' := 15) rfl (n' := 42) rfl (by decide) (by decide) rfl ?_
              intro r139 h140 Q140 O140
              obtain ⟨rfl, e159⟩ := Q140
              obtain rfl := e159.symm
              refine Wk.if_eq C at_307 (by decide) (pcT := 314) (by decide) (pc' := 310) rfl (fun q => absurd q (by decide)) (fun q160 => ?_)
              refine Wk.iconst (pc' := 311) C at_310 (v := (1 : Int32)) rfl rfl ?_
              refine Wk.goto C at_311 (by decide) (pc' := 315) (by decide) ?_
              refine Wk.istore (pc' := 317) C at_315 (Ls' := #[.val (.int p0), .val (.int p1), .val (.int p2), .val (.int p3), .val (.int p4), .val (.int b1), .val (.int b2), .val (.int b3), .val (.int b4), .val (.ref a11), .val (.ref a30), .val (.ref a50), .val (.ref a64), .val (.ref a73), .val (.ref a79), .val (.ref a88), .val (.ref a93), .val (.ref a105), .val (.int (1 : Int32)), .unset, .unset, .unset, .unset, .unset]) rfl rfl ?_
              refine Wk.aload (pc' := 319) C at_317 rfl rfl rfl ?_
              refine Wk.callV (pc' := 322) C at_319 (a := a105) (Wk.Con.pays C (Wn := 0) (own_get_rawQuery l hw O104 a105 (.ref a50) rfl h104_rawQuery) (w75 hw) (w32 hw) (by decide) (by decide)) Wk.cleanC Ah104 (w71 hw) (w72 hw) (notFace_of_selects (args := #[]) (mvT C.hZ (w74 hw))) (w74 hw) (w73 hw) (by decide) (argsL := []) (st := []) rfl rfl (lenOf pd3 rfl) rfl (Nat.le_of_eq rfl) (k' := 15) rfl (n' := 42) rfl (by decide) (by decide) rfl ?_
              intro r161 h162 Q162 O162
              obtain ⟨rfl, e163⟩ := Q162
              obtain rfl := e163.symm
              refine Wk.astore (pc' := 324) C at_322 rfl (Ls' := #[.val (.int p0), .val (.int p1), .val (.int p2), .val (.int p3), .val (.int p4), .val (.int b1), .val (.int b2), .val (.int b3), .val (.int b4), .val (.ref a11), .val (.ref a30), .val (.ref a50), .val (.ref a64), .val (.ref a73), .val (.ref a79), .val (.ref a88), .val (.ref a93), .val (.ref a105), .val (.int (1 : Int32)), .val (.ref a50), .unset, .unset, .unset, .unset]) rfl rfl ?_
              refine Wk.iload (pc' := 326) C at_324 rfl rfl ?_
              refine Wk.if_eq C at_326 (by decide) (pcT := 342) (by decide) (pc' := 329) rfl (fun q164 => ?_) (fun q => absurd q49 q)
              refine Wk.aload (pc' := 344) C at_342 rfl rfl rfl ?_
              refine Wk.aload (pc' := 346) C at_344 rfl rfl rfl ?_
              have X167 : Ext h63 h69 := Wk.Ext.wr (Z := Z) E65 W69 (Nat.le_of_eq ga64.symm)
              have X168 : Ext h63 h72 := Wk.Ext.wr (Z := Z) X167 W72 (Nat.le_of_eq ga64.symm)
              have X169 : Ext h63 h74 := Wk.Ext.trans X168 E74
              have X170 : Ext h63 h76 := Wk.Ext.wr (Z := Z) X169 W76 (Nat.le_trans X168.1 (Nat.le_of_eq ga73.symm))
              have X171 : Ext h63 h77 := Wk.Ext.wr (Z := Z) X170 W77 (Nat.le_trans X168.1 (Nat.le_of_eq ga73.symm))
              have X172 : Ext h63 h80 := Wk.Ext.trans X171 E80
              have X173 : Ext h63 h83 := Wk.Ext.wr (Z := Z) X172 W83 (Nat.le_trans X171.1 (Nat.le_of_eq ga79.symm))
              have X174 : Ext h63 h86 := Wk.Ext.wr (Z := Z) X173 W86 (Nat.le_trans X171.1 (Nat.le_of_eq ga79.symm))
              have X175 : Ext h63 h89 := Wk.Ext.trans X174 E89
              have X176 : Ext h63 h91 := Wk.Ext.wr (Z := Z) X175 W91 (Nat.le_trans X174.1 (Nat.le_of_eq ga88.symm))
              have X177 : Ext h63 h92 := Wk.Ext.wr (Z := Z) X176 W92 (Nat.le_trans X174.1 (Nat.le_of_eq ga88.symm))
              have X178 : Ext h63 h94 := Wk.Ext.trans X177 E94
              have X179 : Ext h63 h102 := Wk.Ext.keep1 (Z := Z) X178 Kh102 (Nat.le_trans X177.1 (Nat.le_of_eq ga93.symm))
              have X180 : Ext h63 h104 := Wk.Ext.trans X179 Eh104
              refine Wk.callV (pc' := 349) C at_346 (a := a50) (Wk.Con.pays C (Wn := 0) (own_eq l hw O104 a50) (w65 hw) (w2 hw) (by decide) (by decide)) Wk.cleanC (Sh63.exa.ext X180) (w61 hw) (w62 hw) (notFace_of_selects (args := #[]) (mvT C.hZ (w64 hw))) (w64 hw) (w63 hw) (by decide) (argsL := [(.ref a50)]) (st := []) rfl rfl (lenOf pd4 rfl) rfl (Nat.le_of_eq rfl) (k' := 15) rfl (n' := 42) rfl (by decide) (by decide) rfl ?_
              intro r165 h166 Q166 O166
              obtain ⟨rfl, e181⟩ := Q166
              obtain rfl := e181.symm
              refine Wk.istore (pc' := 351) C at_349 (Ls' := #[.val (.int p0), .val (.int p1), .val (.int p2), .val (.int p3), .val (.int p4), .val (.int b1), .val (.int b2), .val (.int b3), .val (.int b4), .val (.ref a11), .val (.ref a30), .val (.ref a50), .val (.ref a64), .val (.ref a73), .val (.ref a79), .val (.ref a88), .val (.ref a93), .val (.ref a105), .val (.int (1 : Int32)), .val (.ref a50), .val (.int (1 : Int32)), .unset, .unset, .unset]) rfl rfl ?_
              refine Wk.aload (pc' := 353) C at_351 rfl rfl rfl ?_
              refine Wk.callV (pc' := 356) C at_353 (a := a105) (Wk.Con.pays C (Wn := 0) (own_get_body l hw O104 a105 (.ref a79) rfl h104_body) (w80 hw) (w32 hw) (by decide) (by decide)) Wk.cleanC Ah104 (w76 hw) (w77 hw) (notFace_of_selects (args := #[]) (mvT C.hZ (w79 hw))) (w79 hw) (w78 hw) (by decide) (argsL := []) (st := []) rfl rfl (lenOf pd5 rfl) rfl (Nat.le_of_eq rfl) (k' := 15) rfl (n' := 42) rfl (by decide) (by decide) rfl ?_
              intro r182 h183 Q183 O183
              obtain ⟨rfl, e184⟩ := Q183
              obtain rfl := e184.symm
              refine Wk.aload (pc' := 358) C at_356 rfl rfl rfl ?_
              have X185 : Ext h86 h91 := Wk.Ext.wr (Z := Z) E89 W91 (Nat.le_of_eq ga88.symm)
              have X186 : Ext h86 h92 := Wk.Ext.wr (Z := Z) X185 W92 (Nat.le_of_eq ga88.symm)
              have X187 : Ext h86 h94 := Wk.Ext.trans X186 E94
              have X188 : Ext h86 h102 := Wk.Ext.keep1 (Z := Z) X187 Kh102 (Nat.le_trans X186.1 (Nat.le_of_eq ga93.symm))
              have X189 : Ext h86 h104 := Wk.Ext.trans X188 Eh104
              have X190 : Ext h92 h102 := Wk.Ext.keep1 (Z := Z) E94 Kh102 (Nat.le_of_eq ga93.symm)
              have X191 : Ext h92 h104 := Wk.Ext.trans X190 Eh104
              refine Wk.callS (pc' := 361) C at_358 (Wk.Con.pays C (Wn := 0) (own_same2 l hw O104 a79 a88 v82 v85 (V86.ext X189) (V92.ext X191)) (w84 hw) (w83 hw) (by decide) (by decide)) Wk.cleanC (w81 hw) (w82 hw) (w83 hw) (w84 hw) (by decide) (argsL := [(.ref a79), (.ref a88)]) (st := []) rfl rfl (lenOf pd6 rfl) rfl (Nat.le_of_eq rfl) (k' := 15) rfl (n' := 42) rfl (by decide) (by decide) rfl ?_
              intro r192 h193 Q193 O193
              obtain ⟨rfl, e194⟩ := Q193
              obtain rfl := e194.symm
              refine Wk.istore (pc' := 363) C at_361 (Ls' := #[.val (.int p0), .val (.int p1), .val (.int p2), .val (.int p3), .val (.int p4), .val (.int b1), .val (.int b2), .val (.int b3), .val (.int b4), .val (.ref a11), .val (.ref a30), .val (.ref a50), .val (.ref a64), .val (.ref a73), .val (.ref a79), .val (.ref a88), .val (.ref a93), .val (.ref a105), .val (.int (1 : Int32)), .val (.ref a50), .val (.int (1 : Int32)), .val (.int (1 : Int32)), .unset, .unset]) rfl rfl ?_
              refine Wk.aload (pc' := 365) C at_363 rfl rfl rfl ?_
              refine Wk.callV (pc' := 368) C at_365 (a := a105) (Wk.Con.pays C (Wn := 0) (own_get_bodyCut l hw O104 a105 b2 hb2 h104_bodyCut) (w89 hw) (w32 hw) (by decide) (by decide)) Wk.cleanC Ah104 (w85 hw) (w86 hw) (notFace_of_selects (args := #[]) (mvT C.hZ (w88 hw))) (w88 hw) (w87 hw) (by decide) (argsL := []) (st := []) rfl rfl (lenOf pd7 rfl) rfl (Nat.le_of_eq rfl) (k' := 15) rfl (n' := 42) rfl (by decide) (by decide) rfl ?_
              intro r195 h196 Q196 O196
              obtain ⟨rfl, e197⟩ := Q196
              obtain rfl := e197.symm
              refine Wk.iload (pc' := 370) C at_368 rfl rfl ?_
              refine Wk.icmp_ne C at_370 (by decide) (pcT := 377) (by decide) (pc' := 373) rfl (fun q => absurd rfl q) (fun q198 => ?_)
              refine Wk.iconst (pc' := 374) C at_373 (v := (1 : Int32)) rfl rfl ?_
              refine Wk.goto C at_374 (by decide) (pc' := 378) (by decide) ?_
              refine Wk.istore (pc' := 380) C at_378 (Ls' := #[.val (.int p0), .val (.int p1), .val (.int p2), .val (.int p3), .val (.int p4), .val (.int b1), .val (.int b2), .val (.int b3), .val (.int b4), .val (.ref a11), .val (.ref a30), .val (.ref a50), .val (.ref a64), .val (.ref a73), .val (.ref a79), .val (.ref a88), .val (.ref a93), .val (.ref a105), .val (.int (1 : Int32)), .val (.ref a50), .val (.int (1 : Int32)), .val (.int (1 : Int32)), .val (.int (1 : Int32)), .unset]) rfl rfl ?_
              refine Wk.aload (pc' := 382) C at_380 rfl rfl rfl ?_
              refine Wk.callV (pc' := 385) C at_382 (a := a93) (Wk.Con.pays C (Wn := 0) (own_get_body l hw O104 a93 (.ref a64) rfl (h102_body.ext Eh104)) (w80 hw) (w32 hw) (by decide) (by decide)) Wk.cleanC (Ah102.ext Eh104) (w76 hw) (w77 hw) (notFace_of_selects (args := #[]) (mvT C.hZ (w79 hw))) (w79 hw) (w78 hw) (by decide) (argsL := []) (st := []) rfl rfl (lenOf pd5 rfl) rfl (Nat.le_of_eq rfl) (k' := 15) rfl (n' := 42) rfl (by decide) (by decide) rfl ?_
              intro r199 h200 Q200 O200
              obtain ⟨rfl, e201⟩ := Q200
              obtain rfl := e201.symm
              refine Wk.aload (pc' := 387) C at_385 rfl rfl rfl ?_
              have X202 : Ext h72 h76 := Wk.Ext.wr (Z := Z) E74 W76 (Nat.le_of_eq ga73.symm)
              have X203 : Ext h72 h77 := Wk.Ext.wr (Z := Z) X202 W77 (Nat.le_of_eq ga73.symm)
              have X204 : Ext h72 h80 := Wk.Ext.trans X203 E80
              have X205 : Ext h72 h83 := Wk.Ext.wr (Z := Z) X204 W83 (Nat.le_trans X203.1 (Nat.le_of_eq ga79.symm))
              have X206 : Ext h72 h86 := Wk.Ext.wr (Z := Z) X205 W86 (Nat.le_trans X203.1 (Nat.le_of_eq ga79.symm))
              have X207 : Ext h72 h89 := Wk.Ext.trans X206 E89
              have X208 : Ext h72 h91 := Wk.Ext.wr (Z := Z) X207 W91 (Nat.le_trans X206.1 (Nat.le_of_eq ga88.symm))
              have X209 : Ext h72 h92 := Wk.Ext.wr (Z := Z) X208 W92 (Nat.le_trans X206.1 (Nat.le_of_eq ga88.symm))
              have X210 : Ext h72 h94 := Wk.Ext.trans X209 E94
              have X211 : Ext h72 h102 := Wk.Ext.keep1 (Z := Z) X210 Kh102 (Nat.le_trans X209.1 (Nat.le_of_eq ga93.symm))
              have X212 : Ext h72 h104 := Wk.Ext.trans X211 Eh104
              have X213 : Ext h77 h83 := Wk.Ext.wr (Z := Z) E80 W83 (Nat.le_of_eq ga79.symm)
              have X214 : Ext h77 h86 := Wk.Ext.wr (Z := Z) X213 W86 (Nat.le_of_eq ga79.symm)
              have X215 : Ext h77 h89 := Wk.Ext.trans X214 E89
              have X216 : Ext h77 h91 := Wk.Ext.wr (Z := Z) X215 W91 (Nat.le_trans X214.1 (Nat.le_of_eq ga88.symm))
              have X217 : Ext h77 h92 := Wk.Ext.wr (Z := Z) X216 W92 (Nat.le_trans X214.1 (Nat.le_of_eq ga88.symm))
              have X218 : Ext h77 h94 := Wk.Ext.trans X217 E94
              have X219 : Ext h77 h102 := Wk.Ext.keep1 (Z := Z) X218 Kh102 (Nat.le_trans X217.1 (Nat.le_of_eq ga93.symm))
              have X220 : Ext h77 h104 := Wk.Ext.trans X219 Eh104
              refine Wk.callS (pc' := 390) C at_387 (Wk.Con.pays C (Wn := 0) (own_same2 l hw O104 a64 a73 v68 v71 (V72.ext X212) (V77.ext X220)) (w84 hw) (w83 hw) (by decide) (by decide)) Wk.cleanC (w81 hw) (w82 hw) (w83 hw) (w84 hw) (by decide) (argsL := [(.ref a64), (.ref a73)]) (st := []) rfl rfl (lenOf pd6 rfl) rfl (Nat.le_of_eq rfl) (k' := 15) rfl (n' := 42) rfl (by decide) (by decide) rfl ?_
              intro r221 h222 Q222 O222
              obtain ⟨rfl, e223⟩ := Q222
              obtain rfl := e223.symm
              refine Wk.if_eq C at_390 (by decide) (pcT := 407) (by decide) (pc' := 393) rfl (fun q => absurd q (by decide)) (fun q224 => ?_)
              refine Wk.aload (pc' := 395) C at_393 rfl rfl rfl ?_
              refine Wk.callV (pc' := 398) C at_395 (a := a93) (Wk.Con.pays C (Wn := 0) (own_get_bodyCut l hw O104 a93 b1 hb1 (h102_bodyCut.ext Eh104)) (w89 hw) (w32 hw) (by decide) (by decide)) Wk.cleanC (Ah102.ext Eh104) (w85 hw) (w86 hw) (notFace_of_selects (args := #[]) (mvT C.hZ (w88 hw))) (w88 hw) (w87 hw) (by decide) (argsL := []) (st := []) rfl rfl (lenOf pd7 rfl) rfl (Nat.le_of_eq rfl) (k' := 15) rfl (n' := 42) rfl (by decide) (by decide) rfl ?_
              intro r225 h226 Q226 O226
              obtain ⟨rfl, e227⟩ := Q226
              obtain rfl := e227.symm
              refine Wk.iload (pc' := 400) C at_398 rfl rfl ?_
              refine Wk.icmp_ne C at_400 (by decide) (pcT := 407) (by decide) (pc' := 403) rfl (fun q => absurd rfl q) (fun q228 => ?_)
              refine Wk.iconst (pc' := 404) C at_403 (v := (1 : Int32)) rfl rfl ?_
              refine Wk.goto C at_404 (by decide) (pc' := 408) (by decide) ?_
              refine Wk.istore (pc' := 410) C at_408 (Ls' := #[.val (.int p0), .val (.int p1), .val (.int p2), .val (.int p3), .val (.int p4), .val (.int b1), .val (.int b2), .val (.int b3), .val (.int b4), .val (.ref a11), .val (.ref a30), .val (.ref a50), .val (.ref a64), .val (.ref a73), .val (.ref a79), .val (.ref a88), .val (.ref a93), .val (.ref a105), .val (.int (1 : Int32)), .val (.ref a50), .val (.int (1 : Int32)), .val (.int (1 : Int32)), .val (.int (1 : Int32)), .val (.int (1 : Int32))]) rfl rfl ?_
              refine Wk.iload (pc' := 412) C at_410 rfl rfl ?_
              refine Wk.if_eq C at_412 (by decide) (pcT := 439) (by decide) (pc' := 415) rfl (fun q => absurd q (by decide)) (fun q229 => ?_)
              refine Wk.iload (pc' := 417) C at_415 rfl rfl ?_
              refine Wk.if_eq C at_417 (by decide) (pcT := 439) (by decide) (pc' := 420) rfl (fun q => absurd q (by decide)) (fun q230 => ?_)
              refine Wk.iload (pc' := 422) C at_420 rfl rfl ?_
              refine Wk.if_eq C at_422 (by decide) (pcT := 439) (by decide) (pc' := 425) rfl (fun q => absurd q (by decide)) (fun q231 => ?_)
              refine Wk.iload (pc' := 427) C at_425 rfl rfl ?_
              refine Wk.if_eq C at_427 (by decide) (pcT := 439) (by decide) (pc' := 430) rfl (fun q => absurd q (by decide)) (fun q232 => ?_)
              refine Wk.iload (pc' := 432) C at_430 rfl rfl ?_
              refine Wk.if_eq C at_432 (by decide) (pcT := 439) (by decide) (pc' := 435) rfl (fun q => absurd q (by decide)) (fun q233 => ?_)
              refine Wk.iconst (pc' := 436) C at_435 (v := (1 : Int32)) rfl rfl ?_
              refine Wk.goto C at_436 (by decide) (pc' := 440) (by decide) ?_
              exact Wk.retNar C (ty := .boolean) (by simp) at_440 rfl (by decide) (by decide) rfl
            · -- pc 197: not taken
              refine Wk.iconst (pc' := 201) C at_200 (v := (0 : Int32)) rfl rfl ?_
              refine Wk.newA (pc' := 203) C at_201 (ty := .byte) rfl (w19 hw) (by decide) (cap := 0) (by decide) (by decide) (k' := 12) rfl (n' := 26) rfl (by decide) (by decide) rfl rfl ?_
              intro a234 h235 ga234 za234 E235 Va234 O235
              have V236 : Wk.Ary Z h235 a234 .byte [] := Va234
              refine Wk.goto C at_203 (by decide) (pc' := 222) (by decide) ?_
              refine Wk.astore (pc' := 224) C at_222 rfl (Ls' := #[.val (.int p0), .val (.int p1), .val (.int p2), .val (.int p3), .val (.int p4), .val (.int b1), .val (.int b2), .val (.int b3), .val (.int b4), .val (.ref a11), .val (.ref a30), .val (.ref a50), .val (.ref a64), .val (.ref a73), .val (.ref a234), .unset, .unset, .unset, .unset, .unset, .unset, .unset, .unset, .unset]) rfl rfl ?_
              refine Wk.iload (pc' := 226) C at_224 rfl rfl ?_
              refine Wk.if_eq C at_226 (by decide) (pcT := 235) (by decide) (pc' := 229) rfl (fun q => absurd q q78) (fun q237 => ?_)
              refine Wk.iconst (pc' := 230) C at_229 (v := (0 : Int32)) rfl rfl ?_
              refine Wk.newA (pc' := 232) C at_230 (ty := .byte) rfl (w19 hw) (by decide) (cap := 0) (by decide) (by decide) (k' := 13) rfl (n' := 26) rfl (by decide) (by decide) rfl rfl ?_
              intro a238 h239 ga238 za238 E239 Va238 O239
              have V240 : Wk.Ary Z h239 a238 .byte [] := Va238
              refine Wk.goto C at_232 (by decide) (pc' := 251) (by decide) ?_
              refine Wk.astore (pc' := 253) C at_251 rfl (Ls' := #[.val (.int p0), .val (.int p1), .val (.int p2), .val (.int p3), .val (.int p4), .val (.int b1), .val (.int b2), .val (.int b3), .val (.int b4), .val (.ref a11), .val (.ref a30), .val (.ref a50), .val (.ref a64), .val (.ref a73), .val (.ref a234), .val (.ref a238), .unset, .unset, .unset, .unset, .unset, .unset, .unset, .unset]) rfl rfl ?_
              refine Wk.newO (pc' := 256) C at_253 (w30 hw) (w31 hw) (w32 hw) (k' := 14) rfl (n' := 32) rfl (by decide) (by decide) rfl ?_
              intro a241 h242 ga241 za241 E242 Aa241 Da241 Ua241 O242
              have F243 : Fld Z h242 a241 "com/example/consentry/consentry/server/Exchange" "method" "Ljava/lang/String;" .null := Da241 (Or.inr (w38 hw)) (ty := (.object "java/lang/String")) (by decide)
              have F244 : Fld Z h242 a241 "com/example/consentry/consentry/server/Exchange" "rawPath" "Ljava/lang/String;" .null := Da241 (Or.inr (w40 hw)) (ty := (.object "java/lang/String")) (by decide)
              have F245 : Fld Z h242 a241 "com/example/consentry/consentry/server/Exchange" "rawQuery" "Ljava/lang/String;" .null := Da241 (Or.inr (w42 hw)) (ty := (.object "java/lang/String")) (by decide)
              have F246 : Fld Z h242 a241 "com/example/consentry/consentry/server/Exchange" "fields" "Ljava/util/Map;" .null := Da241 (Or.inr (w44 hw)) (ty := (.object "java/util/Map")) (by decide)
              have F247 : Fld Z h242 a241 "com/example/consentry/consentry/server/Exchange" "body" "[B" .null := Da241 (Or.inr (w46 hw)) (ty := (.array .byte)) (by decide)
              have F248 : Fld Z h242 a241 "com/example/consentry/consentry/server/Exchange" "bodyCut" "Z" (.int (0 : Int32)) := Da241 (Or.inr (w48 hw)) (ty := .boolean) (by decide)
              refine Wk.dup (pc' := 257) C at_256 rfl rfl ?_
              refine Wk.aload (pc' := 259) C at_257 rfl rfl rfl ?_
              refine Wk.aload (pc' := 261) C at_259 rfl rfl rfl ?_
              refine Wk.aload (pc' := 263) C at_261 rfl rfl rfl ?_
              refine Wk.aconstNull (pc' := 264) C at_263 rfl ?_
              refine Wk.aload (pc' := 266) C at_264 rfl rfl rfl ?_
              refine Wk.iload (pc' := 268) C at_266 rfl rfl ?_
              refine Wk.callI (pc' := 271) C at_268 (a := a241) (Wk.Con.pays C (Wn := 1) (own_init l hw O242 a241 a11 a30 a64 (.ref a50) b1 rfl za241 hb1 Aa241 F243 F244 F245 F246 F247 F248) (w35 hw) (w32 hw) (by decide) (by decide)) Wk.cleanC rfl (w33 hw) (w34 hw) (w35 hw) (by decide) (argsL := [(.ref a11), (.ref a30), (.ref a50), .null, (.ref a64), (.int b1)]) (st := [(.ref a241)]) rfl rfl (lenOf pd0 rfl) rfl (Nat.le_of_eq rfl) (k' := 14) rfl (n' := 32) rfl (by decide) (by decide) rfl ?_
              intro r249 h250 Q250 O250
              obtain ⟨rfl, Kh250, Ah250, h250_method, h250_rawPath, h250_rawQuery, h250_fields, h250_body, h250_bodyCut⟩ := Q250
              refine Wk.astore (pc' := 273) C at_271 rfl (Ls' := #[.val (.int p0), .val (.int p1), .val (.int p2), .val (.int p3), .val (.int p4), .val (.int b1), .val (.int b2), .val (.int b3), .val (.int b4), .val (.ref a11), .val (.ref a30), .val (.ref a50), .val (.ref a64), .val (.ref a73), .val (.ref a234), .val (.ref a238), .val (.ref a241), .unset, .unset, .unset, .unset, .unset, .unset, .unset]) rfl rfl ?_
              refine Wk.aload (pc' := 275) C at_273 rfl rfl rfl ?_
              refine Wk.aload (pc' := 277) C at_275 rfl rfl rfl ?_
              refine Wk.iload (pc' := 279) C at_277 rfl rfl ?_
              refine Wk.callV (pc' := 282) C at_279 (a := a241) (Wk.Con.pays C (Wn := 0) (own_with l hw O250 a241 a11 a30 a234 (.ref a50) b2 rfl hb2 h250_method h250_rawPath h250_rawQuery h250_fields) (w53 hw) (w32 hw) (by decide) (by decide)) Wk.cleanC Ah250 (w49 hw) (w50 hw) (notFace_of_selects (args := #[]) (mvT C.hZ (w52 hw))) (w52 hw) (w51 hw) (by decide) (argsL := [(.ref a234), (.int b2)]) (st := []) rfl rfl (lenOf pd2 rfl) rfl (Nat.le_of_eq rfl) (k' := 15) rfl (n' := 38) rfl (by decide) (by decide) rfl ?_
              intro r251 h252 Q252 O252
              obtain ⟨a253, rfl, ga253, Eh252, Ah252, h252_method, h252_rawPath, h252_rawQuery, h252_fields, h252_body, h252_bodyCut⟩ := Q252
              refine Wk.astore (pc' := 284) C at_282 rfl (Ls' := #[.val (.int p0), .val (.int p1), .val (.int p2), .val (.int p3), .val (.int p4), .val (.int b1), .val (.int b2), .val (.int b3), .val (.int b4), .val (.ref a11), .val (.ref a30), .val (.ref a50), .val (.ref a64), .val (.ref a73), .val (.ref a234), .val (.ref a238), .val (.ref a241), .val (.ref a253), .unset, .unset, .unset, .unset, .unset, .unset]) rfl rfl ?_
              refine Wk.aload (pc' := 286) C at_284 rfl rfl rfl ?_
              refine Wk.aload (pc' := 288) C at_286 rfl rfl rfl ?_
              refine Wk.callV (pc' := 291) C at_288 (a := a253) (Wk.Con.pays C (Wn := 1) (own_get_method l hw O252 a253 (.ref a11) rfl h252_method) (w60 hw) (w32 hw) (by decide) (by decide)) Wk.cleanC Ah252 (w56 hw) (w57 hw) (notFace_of_selects (args := #[]) (mvT C.hZ (w59 hw))) (w59 hw) (w58 hw) (by decide) (argsL := []) (st := [(.ref a11)]) rfl rfl (lenOf pd3 rfl) rfl (Nat.le_of_eq rfl) (k' := 15) rfl (n' := 38) rfl (by decide) (by decide) rfl ?_
              intro r254 h255 Q255 O255
              obtain ⟨rfl, e256⟩ := Q255
              obtain rfl := e256.symm
              have X259 : Ext h29 h35 := Wk.Ext.trans E31 E35
              have X260 : Ext h29 h39 := Wk.Ext.wr (Z := Z) X259 W39 (Nat.le_trans E31.1 (Nat.le_of_eq ga34.symm))
              have X261 : Ext h29 h43 := Wk.Ext.wr (Z := Z) X260 W43 (Nat.le_trans E31.1 (Nat.le_of_eq ga34.symm))
              have X262 : Ext h29 h48 := Wk.Ext.keep1 (Z := Z) X261 Kh48 (Nat.le_of_eq ga30.symm)
              have X263 : Ext h29 h51 := Wk.Ext.trans X262 E51
              have X264 : Ext h29 h55 := Wk.Ext.trans X263 E55
              have X265 : Ext h29 h59 := Wk.Ext.wr (Z := Z) X264 W59 (Nat.le_trans X263.1 (Nat.le_of_eq ga54.symm))
              have X266 : Ext h29 h63 := Wk.Ext.keep1 (Z := Z) X265 Kh63 (Nat.le_trans X262.1 (Nat.le_of_eq ga50.symm))
              have X267 : Ext h29 h65 := Wk.Ext.trans X266 E65
              have X268 : Ext h29 h69 := Wk.Ext.wr (Z := Z) X267 W69 (Nat.le_trans X266.1 (Nat.le_of_eq ga64.symm))
              have X269 : Ext h29 h72 := Wk.Ext.wr (Z := Z) X268 W72 (Nat.le_trans X266.1 (Nat.le_of_eq ga64.symm))
              have X270 : Ext h29 h74 := Wk.Ext.trans X269 E74
              have X271 : Ext h29 h76 := Wk.Ext.wr (Z := Z) X270 W76 (Nat.le_trans X269.1 (Nat.le_of_eq ga73.symm))
              have X272 : Ext h29 h77 := Wk.Ext.wr (Z := Z) X271 W77 (Nat.le_trans X269.1 (Nat.le_of_eq ga73.symm))
              have X273 : Ext h29 h235 := Wk.Ext.trans X272 E235
              have X274 : Ext h29 h239 := Wk.Ext.trans X273 E239
              have X275 : Ext h29 h242 := Wk.Ext.trans X274 E242
              have X276 : Ext h29 h250 := Wk.Ext.keep1 (Z := Z) X275 Kh250 (Nat.le_trans X274.1 (Nat.le_of_eq ga241.symm))
              have X277 : Ext h29 h252 := Wk.Ext.trans X276 Eh252
              refine Wk.callV (pc' := 294) C at_291 (a := a11) (Wk.Con.pays C (Wn := 0) (own_eq l hw O252 a11) (w65 hw) (w2 hw) (by decide) (by decide)) Wk.cleanC (Sh29.exa.ext X277) (w61 hw) (w62 hw) (notFace_of_selects (args := #[]) (mvT C.hZ (w64 hw))) (w64 hw) (w63 hw) (by decide) (argsL := [(.ref a11)]) (st := []) rfl rfl (lenOf pd4 rfl) rfl (Nat.le_of_eq rfl) (k' := 15) rfl (n' := 38) rfl (by decide) (by decide) rfl ?_
              intro r257 h258 Q258 O258
              obtain ⟨rfl, e278⟩ := Q258
              obtain rfl := e278.symm
              refine Wk.if_eq C at_294 (by decide) (pcT := 314) (by decide) (pc' := 297) rfl (fun q => absurd q (by decide)) (fun q279 => ?_)
              refine Wk.aload (pc' := 299) C at_297 rfl rfl rfl ?_
              refine Wk.aload (pc' := 301) C at_299 rfl rfl rfl ?_
              refine Wk.callV (pc' := 304) C at_301 (a := a253) (Wk.Con.pays C (Wn := 1) (own_get_rawPath l hw O252 a253 (.ref a30) rfl h252_rawPath) (w70 hw) (w32 hw) (by decide) (by decide)) Wk.cleanC Ah252 (w66 hw) (w67 hw) (notFace_of_selects (args := #[]) (mvT C.hZ (w69 hw))) (w69 hw) (w68 hw) (by decide) (argsL := []) (st := [(.ref a30)]) rfl rfl (lenOf pd3 rfl) rfl (Nat.le_of_eq rfl) (k' := 15) rfl (n' := 38) rfl (by decide) (by decide) rfl ?_
              intro r280 h281 Q281 O281
              obtain ⟨rfl, e282⟩ := Q281
              obtain rfl := e282.symm
              have X285 : Ext h48 h55 := Wk.Ext.trans E51 E55
              have X286 : Ext h48 h59 := Wk.Ext.wr (Z := Z) X285 W59 (Nat.le_trans E51.1 (Nat.le_of_eq ga54.symm))
              have X287 : Ext h48 h63 := Wk.Ext.keep1 (Z := Z) X286 Kh63 (Nat.le_of_eq ga50.symm)
              have X288 : Ext h48 h65 := Wk.Ext.trans X287 E65
              have X289 : Ext h48 h69 := Wk.Ext.wr (Z := Z) X288 W69 (Nat.le_trans X287.1 (Nat.le_of_eq ga64.symm))
              have X290 : Ext h48 h72 := Wk.Ext.wr (Z := Z) X289 W72 (Nat.le_trans X287.1 (Nat.le_of_eq ga64.symm))
              have X291 : Ext h48 h74 := Wk.Ext.trans X290 E74
              have X292 : Ext h48 h76 := Wk.Ext.wr (Z := Z) X291 W76 (Nat.le_trans X290.1 (Nat.le_of_eq ga73.symm))
              have X293 : Ext h48 h77 := Wk.Ext.wr (Z := Z) X292 W77 (Nat.le_trans X290.1 (Nat.le_of_eq ga73.symm))
              have X294 : Ext h48 h235 := Wk.Ext.trans X293 E235
              have X295 : Ext h48 h239 := Wk.Ext.trans X294 E239
              have X296 : Ext h48 h242 := Wk.Ext.trans X295 E242
              have X297 : Ext h48 h250 := Wk.Ext.keep1 (Z := Z) X296 Kh250 (Nat.le_trans X295.1 (Nat.le_of_eq ga241.symm))
              have X298 : Ext h48 h252 := Wk.Ext.trans X297 Eh252
              refine Wk.callV (pc' := 307) C at_304 (a := a30) (Wk.Con.pays C (Wn := 0) (own_eq l hw O252 a30) (w65 hw) (w2 hw) (by decide) (by decide)) Wk.cleanC (Sh48.exa.ext X298) (w61 hw) (w62 hw) (notFace_of_selects (args := #[]) (mvT C.hZ (w64 hw))) (w64 hw) (w63 hw) (by decide) (argsL := [(.ref a30)]) (st := []) rfl rfl (lenOf pd4 rfl) rfl (Nat.le_of_eq rfl) (k' := 15) rfl (n' := 38) rfl (by decide) (by decide) rfl ?_
              intro r283 h284 Q284 O284
              obtain ⟨rfl, e299⟩ := Q284
              obtain rfl := e299.symm
              refine Wk.if_eq C at_307 (by decide) (pcT := 314) (by decide) (pc' := 310) rfl (fun q => absurd q (by decide)) (fun q300 => ?_)
              refine Wk.iconst (pc' := 311) C at_310 (v := (1 : Int32)) rfl rfl ?_
              refine Wk.goto C at_311 (by decide) (pc' := 315) (by decide) ?_
              refine Wk.istore (pc' := 317) C at_315 (Ls' := #[.val (.int p0), .val (.int p1), .val (.int p2), .val (.int p3), .val (.int p4), .val (.int b1), .val (.int b2), .val (.int b3), .val (.int b4), .val (.ref a11), .val (.ref a30), .val (.ref a50), .val (.ref a64), .val (.ref a73), .val (.ref a234), .val (.ref a238), .val (.ref a241), .val (.ref a253), .val (.int (1 : Int32)), .unset, .unset, .unset, .unset, .unset]) rfl rfl ?_
              refine Wk.aload (pc' := 319) C at_317 rfl rfl rfl ?_
              refine Wk.callV (pc' := 322) C at_319 (a := a253) (Wk.Con.pays C (Wn := 0) (own_get_rawQuery l hw O252 a253 (.ref a50) rfl h252_rawQuery) (w75 hw) (w32 hw) (by decide) (by decide)) Wk.cleanC Ah252 (w71 hw) (w72 hw) (notFace_of_selects (args := #[]) (mvT C.hZ (w74 hw))) (w74 hw) (w73 hw) (by decide) (argsL := []) (st := []) rfl rfl (lenOf pd3 rfl) rfl (Nat.le_of_eq rfl) (k' := 15) rfl (n' := 38) rfl (by decide) (by decide) rfl ?_
              intro r301 h302 Q302 O302
              obtain ⟨rfl, e303⟩ := Q302
              obtain rfl := e303.symm
              refine Wk.astore (pc' := 324) C at_322 rfl (Ls' := #[.val (.int p0), .val (.int p1), .val (.int p2), .val (.int p3), .val (.int p4), .val (.int b1), .val (.int b2), .val (.int b3), .val (.int b4), .val (.ref a11), .val (.ref a30), .val (.ref a50), .val (.ref a64), .val (.ref a73), .val (.ref a234), .val (.ref a238), .val (.ref a241), .val (.ref a253), .val (.int (1 : Int32)), .val (.ref a50), .unset, .unset, .unset, .unset]) rfl rfl ?_
              refine Wk.iload (pc' := 326) C at_324 rfl rfl ?_
              refine Wk.if_eq C at_326 (by decide) (pcT := 342) (by decide) (pc' := 329) rfl (fun q304 => ?_) (fun q => absurd q49 q)
              refine Wk.aload (pc' := 344) C at_342 rfl rfl rfl ?_
              refine Wk.aload (pc' := 346) C at_344 rfl rfl rfl ?_
              have X307 : Ext h63 h69 := Wk.Ext.wr (Z := Z) E65 W69 (Nat.le_of_eq ga64.symm)
              have X308 : Ext h63 h72 := Wk.Ext.wr (Z := Z) X307 W72 (Nat.le_of_eq ga64.symm)
              have X309 : Ext h63 h74 := Wk.Ext.trans X308 E74
              have X310 : Ext h63 h76 := Wk.Ext.wr (Z := Z) X309 W76 (Nat.le_trans X308.1 (Nat.le_of_eq ga73.symm))
              have X311 : Ext h63 h77 := Wk.Ext.wr (Z := Z) X310 W77 (Nat.le_trans X308.1 (Nat.le_of_eq ga73.symm))
              have X312 : Ext h63 h235 := Wk.Ext.trans X311 E235
              have X313 : Ext h63 h239 := Wk.Ext.trans X312 E239
              have X314 : Ext h63 h242 := Wk.Ext.trans X313 E242
              have X315 : Ext h63 h250 := Wk.Ext.keep1 (Z := Z) X314 Kh250 (Nat.le_trans X313.1 (Nat.le_of_eq ga241.symm))
              have X316 : Ext h63 h252 := Wk.Ext.trans X315 Eh252
              refine Wk.callV (pc' := 349) C at_346 (a := a50) (Wk.Con.pays C (Wn := 0) (own_eq l hw O252 a50) (w65 hw) (w2 hw) (by decide) (by decide)) Wk.cleanC (Sh63.exa.ext X316) (w61 hw) (w62 hw) (notFace_of_selects (args := #[]) (mvT C.hZ (w64 hw))) (w64 hw) (w63 hw) (by decide) (argsL := [(.ref a50)]) (st := []) rfl rfl (lenOf pd4 rfl) rfl (Nat.le_of_eq rfl) (k' := 15) rfl (n' := 38) rfl (by decide) (by decide) rfl ?_
              intro r305 h306 Q306 O306
              obtain ⟨rfl, e317⟩ := Q306
              obtain rfl := e317.symm
              refine Wk.istore (pc' := 351) C at_349 (Ls' := #[.val (.int p0), .val (.int p1), .val (.int p2), .val (.int p3), .val (.int p4), .val (.int b1), .val (.int b2), .val (.int b3), .val (.int b4), .val (.ref a11), .val (.ref a30), .val (.ref a50), .val (.ref a64), .val (.ref a73), .val (.ref a234), .val (.ref a238), .val (.ref a241), .val (.ref a253), .val (.int (1 : Int32)), .val (.ref a50), .val (.int (1 : Int32)), .unset, .unset, .unset]) rfl rfl ?_
              refine Wk.aload (pc' := 353) C at_351 rfl rfl rfl ?_
              refine Wk.callV (pc' := 356) C at_353 (a := a253) (Wk.Con.pays C (Wn := 0) (own_get_body l hw O252 a253 (.ref a234) rfl h252_body) (w80 hw) (w32 hw) (by decide) (by decide)) Wk.cleanC Ah252 (w76 hw) (w77 hw) (notFace_of_selects (args := #[]) (mvT C.hZ (w79 hw))) (w79 hw) (w78 hw) (by decide) (argsL := []) (st := []) rfl rfl (lenOf pd5 rfl) rfl (Nat.le_of_eq rfl) (k' := 15) rfl (n' := 38) rfl (by decide) (by decide) rfl ?_
              intro r318 h319 Q319 O319
              obtain ⟨rfl, e320⟩ := Q319
              obtain rfl := e320.symm
              refine Wk.aload (pc' := 358) C at_356 rfl rfl rfl ?_
              have X321 : Ext h235 h242 := Wk.Ext.trans E239 E242
              have X322 : Ext h235 h250 := Wk.Ext.keep1 (Z := Z) X321 Kh250 (Nat.le_trans E239.1 (Nat.le_of_eq ga241.symm))
              have X323 : Ext h235 h252 := Wk.Ext.trans X322 Eh252
              have X324 : Ext h239 h250 := Wk.Ext.keep1 (Z := Z) E242 Kh250 (Nat.le_of_eq ga241.symm)
              have X325 : Ext h239 h252 := Wk.Ext.trans X324 Eh252
              refine Wk.callS (pc' := 361) C at_358 (Wk.Con.pays C (Wn := 0) (own_same0 l hw O252 a234 a238  (V236.ext X323) (V240.ext X325)) (w84 hw) (w83 hw) (by decide) (by decide)) Wk.cleanC (w81 hw) (w82 hw) (w83 hw) (w84 hw) (by decide) (argsL := [(.ref a234), (.ref a238)]) (st := []) rfl rfl (lenOf pd6 rfl) rfl (Nat.le_of_eq rfl) (k' := 15) rfl (n' := 38) rfl (by decide) (by decide) rfl ?_
              intro r326 h327 Q327 O327
              obtain ⟨rfl, e328⟩ := Q327
              obtain rfl := e328.symm
              refine Wk.istore (pc' := 363) C at_361 (Ls' := #[.val (.int p0), .val (.int p1), .val (.int p2), .val (.int p3), .val (.int p4), .val (.int b1), .val (.int b2), .val (.int b3), .val (.int b4), .val (.ref a11), .val (.ref a30), .val (.ref a50), .val (.ref a64), .val (.ref a73), .val (.ref a234), .val (.ref a238), .val (.ref a241), .val (.ref a253), .val (.int (1 : Int32)), .val (.ref a50), .val (.int (1 : Int32)), .val (.int (1 : Int32)), .unset, .unset]) rfl rfl ?_
              refine Wk.aload (pc' := 365) C at_363 rfl rfl rfl ?_
              refine Wk.callV (pc' := 368) C at_365 (a := a253) (Wk.Con.pays C (Wn := 0) (own_get_bodyCut l hw O252 a253 b2 hb2 h252_bodyCut) (w89 hw) (w32 hw) (by decide) (by decide)) Wk.cleanC Ah252 (w85 hw) (w86 hw) (notFace_of_selects (args := #[]) (mvT C.hZ (w88 hw))) (w88 hw) (w87 hw) (by decide) (argsL := []) (st := []) rfl rfl (lenOf pd7 rfl) rfl (Nat.le_of_eq rfl) (k' := 15) rfl (n' := 38) rfl (by decide) (by decide) rfl ?_
              intro r329 h330 Q330 O330
              obtain ⟨rfl, e331⟩ := Q330
              obtain rfl := e331.symm
              refine Wk.iload (pc' := 370) C at_368 rfl rfl ?_
              refine Wk.icmp_ne C at_370 (by decide) (pcT := 377) (by decide) (pc' := 373) rfl (fun q => absurd rfl q) (fun q332 => ?_)
              refine Wk.iconst (pc' := 374) C at_373 (v := (1 : Int32)) rfl rfl ?_
              refine Wk.goto C at_374 (by decide) (pc' := 378) (by decide) ?_
              refine Wk.istore (pc' := 380) C at_378 (Ls' := #[.val (.int p0), .val (.int p1), .val (.int p2), .val (.int p3), .val (.int p4), .val (.int b1), .val (.int b2), .val (.int b3), .val (.int b4), .val (.ref a11), .val (.ref a30), .val (.ref a50), .val (.ref a64), .val (.ref a73), .val (.ref a234), .val (.ref a238), .val (.ref a241), .val (.ref a253), .val (.int (1 : Int32)), .val (.ref a50), .val (.int (1 : Int32)), .val (.int (1 : Int32)), .val (.int (1 : Int32)), .unset]) rfl rfl ?_
              refine Wk.aload (pc' := 382) C at_380 rfl rfl rfl ?_
              refine Wk.callV (pc' := 385) C at_382 (a := a241) (Wk.Con.pays C (Wn := 0) (own_get_body l hw O252 a241 (.ref a64) rfl (h250_body.ext Eh252)) (w80 hw) (w32 hw) (by decide) (by decide)) Wk.cleanC (Ah250.ext Eh252) (w76 hw) (w77 hw) (notFace_of_selects (args := #[]) (mvT C.hZ (w79 hw))) (w79 hw) (w78 hw) (by decide) (argsL := []) (st := []) rfl rfl (lenOf pd5 rfl) rfl (Nat.le_of_eq rfl) (k' := 15) rfl (n' := 38) rfl (by decide) (by decide) rfl ?_
              intro r333 h334 Q334 O334
              obtain ⟨rfl, e335⟩ := Q334
              obtain rfl := e335.symm
              refine Wk.aload (pc' := 387) C at_385 rfl rfl rfl ?_
              have X336 : Ext h72 h76 := Wk.Ext.wr (Z := Z) E74 W76 (Nat.le_of_eq ga73.symm)
              have X337 : Ext h72 h77 := Wk.Ext.wr (Z := Z) X336 W77 (Nat.le_of_eq ga73.symm)
              have X338 : Ext h72 h235 := Wk.Ext.trans X337 E235
              have X339 : Ext h72 h239 := Wk.Ext.trans X338 E239
              have X340 : Ext h72 h242 := Wk.Ext.trans X339 E242
              have X341 : Ext h72 h250 := Wk.Ext.keep1 (Z := Z) X340 Kh250 (Nat.le_trans X339.1 (Nat.le_of_eq ga241.symm))
              have X342 : Ext h72 h252 := Wk.Ext.trans X341 Eh252
              have X343 : Ext h77 h239 := Wk.Ext.trans E235 E239
              have X344 : Ext h77 h242 := Wk.Ext.trans X343 E242
              have X345 : Ext h77 h250 := Wk.Ext.keep1 (Z := Z) X344 Kh250 (Nat.le_trans X343.1 (Nat.le_of_eq ga241.symm))
              have X346 : Ext h77 h252 := Wk.Ext.trans X345 Eh252
              refine Wk.callS (pc' := 390) C at_387 (Wk.Con.pays C (Wn := 0) (own_same2 l hw O252 a64 a73 v68 v71 (V72.ext X342) (V77.ext X346)) (w84 hw) (w83 hw) (by decide) (by decide)) Wk.cleanC (w81 hw) (w82 hw) (w83 hw) (w84 hw) (by decide) (argsL := [(.ref a64), (.ref a73)]) (st := []) rfl rfl (lenOf pd6 rfl) rfl (Nat.le_of_eq rfl) (k' := 15) rfl (n' := 38) rfl (by decide) (by decide) rfl ?_
              intro r347 h348 Q348 O348
              obtain ⟨rfl, e349⟩ := Q348
              obtain rfl := e349.symm
              refine Wk.if_eq C at_390 (by decide) (pcT := 407) (by decide) (pc' := 393) rfl (fun q => absurd q (by decide)) (fun q350 => ?_)
              refine Wk.aload (pc' := 395) C at_393 rfl rfl rfl ?_
              refine Wk.callV (pc' := 398) C at_395 (a := a241) (Wk.Con.pays C (Wn := 0) (own_get_bodyCut l hw O252 a241 b1 hb1 (h250_bodyCut.ext Eh252)) (w89 hw) (w32 hw) (by decide) (by decide)) Wk.cleanC (Ah250.ext Eh252) (w85 hw) (w86 hw) (notFace_of_selects (args := #[]) (mvT C.hZ (w88 hw))) (w88 hw) (w87 hw) (by decide) (argsL := []) (st := []) rfl rfl (lenOf pd7 rfl) rfl (Nat.le_of_eq rfl) (k' := 15) rfl (n' := 38) rfl (by decide) (by decide) rfl ?_
              intro r351 h352 Q352 O352
              obtain ⟨rfl, e353⟩ := Q352
              obtain rfl := e353.symm
              refine Wk.iload (pc' := 400) C at_398 rfl rfl ?_
              refine Wk.icmp_ne C at_400 (by decide) (pcT := 407) (by decide) (pc' := 403) rfl (fun q => absurd rfl q) (fun q354 => ?_)
              refine Wk.iconst (pc' := 404) C at_403 (v := (1 : Int32)) rfl rfl ?_
              refine Wk.goto C at_404 (by decide) (pc' := 408) (by decide) ?_
              refine Wk.istore (pc' := 410) C at_408 (Ls' := #[.val (.int p0), .val (.int p1), .val (.int p2), .val (.int p3), .val (.int p4), .val (.int b1), .val (.int b2), .val (.int b3), .val (.int b4), .val (.ref a11), .val (.ref a30), .val (.ref a50), .val (.ref a64), .val (.ref a73), .val (.ref a234), .val (.ref a238), .val (.ref a241), .val (.ref a253), .val (.int (1 : Int32)), .val (.ref a50), .val (.int (1 : Int32)), .val (.int (1 : Int32)), .val (.int (1 : Int32)), .val (.int (1 : Int32))]) rfl rfl ?_
              refine Wk.iload (pc' := 412) C at_410 rfl rfl ?_
              refine Wk.if_eq C at_412 (by decide) (pcT := 439) (by decide) (pc' := 415) rfl (fun q => absurd q (by decide)) (fun q355 => ?_)
              refine Wk.iload (pc' := 417) C at_415 rfl rfl ?_
              refine Wk.if_eq C at_417 (by decide) (pcT := 439) (by decide) (pc' := 420) rfl (fun q => absurd q (by decide)) (fun q356 => ?_)
              refine Wk.iload (pc' := 422) C at_420 rfl rfl ?_
              refine Wk.if_eq C at_422 (by decide) (pcT := 439) (by decide) (pc' := 425) rfl (fun q => absurd q (by decide)) (fun q357 => ?_)
              refine Wk.iload (pc' := 427) C at_425 rfl rfl ?_
              refine Wk.if_eq C at_427 (by decide) (pcT := 439) (by decide) (pc' := 430) rfl (fun q => absurd q (by decide)) (fun q358 => ?_)
              refine Wk.iload (pc' := 432) C at_430 rfl rfl ?_
              refine Wk.if_eq C at_432 (by decide) (pcT := 439) (by decide) (pc' := 435) rfl (fun q => absurd q (by decide)) (fun q359 => ?_)
              refine Wk.iconst (pc' := 436) C at_435 (v := (1 : Int32)) rfl rfl ?_
              refine Wk.goto C at_436 (by decide) (pc' := 440) (by decide) ?_
              exact Wk.retNar C (ty := .boolean) (by simp) at_440 rfl (by decide) (by decide) rfl
          · -- pc 125: not taken
            refine Wk.aconstNull (pc' := 129) C at_128 rfl ?_
            refine Wk.goto C at_129 (by decide) (pc' := 151) (by decide) ?_
            refine Wk.astore (pc' := 153) C at_151 rfl (Ls' := #[.val (.int p0), .val (.int p1), .val (.int p2), .val (.int p3), .val (.int p4), .val (.int b1), .val (.int b2), .val (.int b3), .val (.int b4), .val (.ref a11), .val (.ref a30), .val .null, .unset, .unset, .unset, .unset, .unset, .unset, .unset, .unset, .unset, .unset, .unset, .unset]) rfl rfl ?_
            refine Wk.iconst (pc' := 154) C at_153 (v := (2 : Int32)) rfl rfl ?_
            refine Wk.newA (pc' := 156) C at_154 (ty := .byte) rfl (w19 hw) (by decide) (cap := 2) (by decide) (by decide) (k' := 7) rfl (n' := 18) rfl (by decide) (by decide) rfl rfl ?_
            intro a360 h361 ga360 za360 E361 Va360 O361
            have V362 : Wk.Ary Z h361 a360 .byte [(.int (0 : Int32)), (.int (0 : Int32))] := Va360
            refine Wk.dup (pc' := 157) C at_156 rfl rfl ?_
            refine Wk.iconst (pc' := 158) C at_157 (v := (0 : Int32)) rfl rfl ?_
            refine Wk.iloadN (pc' := 159) C at_158 rfl rfl ?_
            refine Wk.bipush (pc' := 161) C at_159 (v := (16 : Int32)) rfl rfl ?_
            obtain ⟨v363, hv363⟩ : ∃ z : Int32, (p3.toUInt32 >>> ((16 : Int32) &&& 31).toUInt32).toInt32 = z := ⟨_, rfl⟩
            refine Wk.iushr (pc' := 162) C at_161 hv363 rfl ?_
            obtain ⟨v364, hv364⟩ : ∃ z : Int32, v363.toInt8.toInt32 = z := ⟨_, rfl⟩
            refine Wk.i2b (pc' := 163) C at_162 hv364 rfl ?_
            refine Wk.bastore (pc' := 164) C at_163 V362 (by decide) (show _ < _ from Nat.le_of_ble_eq_true rfl) (vs' := [(.int v364), (.int (0 : Int32))]) (by rw [Wk.nar_i2b hv364]; rfl) za360 rfl ?_
            intro h365 W365 V365 O365
            refine Wk.dup (pc' := 165) C at_164 rfl rfl ?_
            refine Wk.iconst (pc' := 166) C at_165 (v := (1 : Int32)) rfl rfl ?_
            refine Wk.iloadN (pc' := 167) C at_166 rfl rfl ?_
            refine Wk.bipush (pc' := 169) C at_167 (v := (24 : Int32)) rfl rfl ?_
            obtain ⟨v366, hv366⟩ : ∃ z : Int32, (p3.toUInt32 >>> ((24 : Int32) &&& 31).toUInt32).toInt32 = z := ⟨_, rfl⟩
            refine Wk.iushr (pc' := 170) C at_169 hv366 rfl ?_
            obtain ⟨v367, hv367⟩ : ∃ z : Int32, v366.toInt8.toInt32 = z := ⟨_, rfl⟩
            refine Wk.i2b (pc' := 171) C at_170 hv367 rfl ?_
            refine Wk.bastore (pc' := 172) C at_171 V365 (by decide) (show _ < _ from Nat.le_of_ble_eq_true rfl) (vs' := [(.int v364), (.int v367)]) (by rw [Wk.nar_i2b hv367]; rfl) za360 rfl ?_
            intro h368 W368 V368 O368
            refine Wk.astore (pc' := 174) C at_172 rfl (Ls' := #[.val (.int p0), .val (.int p1), .val (.int p2), .val (.int p3), .val (.int p4), .val (.int b1), .val (.int b2), .val (.int b3), .val (.int b4), .val (.ref a11), .val (.ref a30), .val .null, .val (.ref a360), .unset, .unset, .unset, .unset, .unset, .unset, .unset, .unset, .unset, .unset, .unset]) rfl rfl ?_
            refine Wk.iconst (pc' := 175) C at_174 (v := (2 : Int32)) rfl rfl ?_
            refine Wk.newA (pc' := 177) C at_175 (ty := .byte) rfl (w19 hw) (by decide) (cap := 2) (by decide) (by decide) (k' := 8) rfl (n' := 20) rfl (by decide) (by decide) rfl rfl ?_
            intro a369 h370 ga369 za369 E370 Va369 O370
            have V371 : Wk.Ary Z h370 a369 .byte [(.int (0 : Int32)), (.int (0 : Int32))] := Va369
            refine Wk.dup (pc' := 178) C at_177 rfl rfl ?_
            refine Wk.iconst (pc' := 179) C at_178 (v := (0 : Int32)) rfl rfl ?_
            refine Wk.iloadN (pc' := 180) C at_179 rfl rfl ?_
            refine Wk.bipush (pc' := 182) C at_180 (v := (16 : Int32)) rfl rfl ?_
            refine Wk.iushr (pc' := 183) C at_182 hv363 rfl ?_
            refine Wk.i2b (pc' := 184) C at_183 hv364 rfl ?_
            refine Wk.bastore (pc' := 185) C at_184 V371 (by decide) (show _ < _ from Nat.le_of_ble_eq_true rfl) (vs' := [(.int v364), (.int (0 : Int32))]) (by rw [Wk.nar_i2b hv364]; rfl) za369 rfl ?_
            intro h372 W372 V372 O372
            refine Wk.dup (pc' := 186) C at_185 rfl rfl ?_
            refine Wk.iconst (pc' := 187) C at_186 (v := (1 : Int32)) rfl rfl ?_
            refine Wk.iloadN (pc' := 188) C at_187 rfl rfl ?_
            refine Wk.bipush (pc' := 190) C at_188 (v := (24 : Int32)) rfl rfl ?_
            refine Wk.iushr (pc' := 191) C at_190 hv366 rfl ?_
            refine Wk.i2b (pc' := 192) C at_191 hv367 rfl ?_
            refine Wk.bastore (pc' := 193) C at_192 V372 (by decide) (show _ < _ from Nat.le_of_ble_eq_true rfl) (vs' := [(.int v364), (.int v367)]) (by rw [Wk.nar_i2b hv367]; rfl) za369 rfl ?_
            intro h373 W373 V373 O373
            refine Wk.astore (pc' := 195) C at_193 rfl (Ls' := #[.val (.int p0), .val (.int p1), .val (.int p2), .val (.int p3), .val (.int p4), .val (.int b1), .val (.int b2), .val (.int b3), .val (.int b4), .val (.ref a11), .val (.ref a30), .val .null, .val (.ref a360), .val (.ref a369), .unset, .unset, .unset, .unset, .unset, .unset, .unset, .unset, .unset, .unset]) rfl rfl ?_
            refine Wk.iload (pc' := 197) C at_195 rfl rfl ?_
            refine Wk.if_eq C at_197 (by decide) (pcT := 206) (by decide) (pc' := 200) rfl (fun q374 => ?_) (fun q374 => ?_)
            · -- pc 197: taken
              refine Wk.iconst (pc' := 207) C at_206 (v := (2 : Int32)) rfl rfl ?_
              refine Wk.newA (pc' := 209) C at_207 (ty := .byte) rfl (w19 hw) (by decide) (cap := 2) (by decide) (by decide) (k' := 9) rfl (n' := 22) rfl (by decide) (by decide) rfl rfl ?_
              intro a375 h376 ga375 za375 E376 Va375 O376
              have V377 : Wk.Ary Z h376 a375 .byte [(.int (0 : Int32)), (.int (0 : Int32))] := Va375
              refine Wk.dup (pc' := 210) C at_209 rfl rfl ?_
              refine Wk.iconst (pc' := 211) C at_210 (v := (0 : Int32)) rfl rfl ?_
              refine Wk.iloadN (pc' := 212) C at_211 rfl rfl ?_
              obtain ⟨v378, hv378⟩ : ∃ z : Int32, p3.toInt8.toInt32 = z := ⟨_, rfl⟩
              refine Wk.i2b (pc' := 213) C at_212 hv378 rfl ?_
              refine Wk.bastore (pc' := 214) C at_213 V377 (by decide) (show _ < _ from Nat.le_of_ble_eq_true rfl) (vs' := [(.int v378), (.int (0 : Int32))]) (by rw [Wk.nar_i2b hv378]; rfl) za375 rfl ?_
              intro h379 W379 V379 O379
              refine Wk.dup (pc' := 215) C at_214 rfl rfl ?_
              refine Wk.iconst (pc' := 216) C at_215 (v := (1 : Int32)) rfl rfl ?_
              refine Wk.iloadN (pc' := 217) C at_216 rfl rfl ?_
              refine Wk.bipush (pc' := 219) C at_217 (v := (8 : Int32)) rfl rfl ?_
              obtain ⟨v380, hv380⟩ : ∃ z : Int32, (p3.toUInt32 >>> ((8 : Int32) &&& 31).toUInt32).toInt32 = z := ⟨_, rfl⟩
              refine Wk.iushr (pc' := 220) C at_219 hv380 rfl ?_
              obtain ⟨v381, hv381⟩ : ∃ z : Int32, v380.toInt8.toInt32 = z := ⟨_, rfl⟩
              refine Wk.i2b (pc' := 221) C at_220 hv381 rfl ?_
              refine Wk.bastore (pc' := 222) C at_221 V379 (by decide) (show _ < _ from Nat.le_of_ble_eq_true rfl) (vs' := [(.int v378), (.int v381)]) (by rw [Wk.nar_i2b hv381]; rfl) za375 rfl ?_
              intro h382 W382 V382 O382
              refine Wk.astore (pc' := 224) C at_222 rfl (Ls' := #[.val (.int p0), .val (.int p1), .val (.int p2), .val (.int p3), .val (.int p4), .val (.int b1), .val (.int b2), .val (.int b3), .val (.int b4), .val (.ref a11), .val (.ref a30), .val .null, .val (.ref a360), .val (.ref a369), .val (.ref a375), .unset, .unset, .unset, .unset, .unset, .unset, .unset, .unset, .unset]) rfl rfl ?_
              refine Wk.iload (pc' := 226) C at_224 rfl rfl ?_
              refine Wk.if_eq C at_226 (by decide) (pcT := 235) (by decide) (pc' := 229) rfl (fun q383 => ?_) (fun q => absurd q374 q)
              refine Wk.iconst (pc' := 236) C at_235 (v := (2 : Int32)) rfl rfl ?_
              refine Wk.newA (pc' := 238) C at_236 (ty := .byte) rfl (w19 hw) (by decide) (cap := 2) (by decide) (by decide) (k' := 10) rfl (n' := 24) rfl (by decide) (by decide) rfl rfl ?_
              intro a384 h385 ga384 za384 E385 Va384 O385
              have V386 : Wk.Ary Z h385 a384 .byte [(.int (0 : Int32)), (.int (0 : Int32))] := Va384
              refine Wk.dup (pc' := 239) C at_238 rfl rfl ?_
              refine Wk.iconst (pc' := 240) C at_239 (v := (0 : Int32)) rfl rfl ?_
              refine Wk.iloadN (pc' := 241) C at_240 rfl rfl ?_
              refine Wk.i2b (pc' := 242) C at_241 hv378 rfl ?_
              refine Wk.bastore (pc' := 243) C at_242 V386 (by decide) (show _ < _ from Nat.le_of_ble_eq_true rfl) (vs' := [(.int v378), (.int (0 : Int32))]) (by rw [Wk.nar_i2b hv378]; rfl) za384 rfl ?_
              intro h387 W387 V387 O387
              refine Wk.dup (pc' := 244) C at_243 rfl rfl ?_
              refine Wk.iconst (pc' := 245) C at_244 (v := (1 : Int32)) rfl rfl ?_
              refine Wk.iloadN (pc' := 246) C at_245 rfl rfl ?_
              refine Wk.bipush (pc' := 248) C at_246 (v := (8 : Int32)) rfl rfl ?_
              refine Wk.iushr (pc' := 249) C at_248 hv380 rfl ?_
              refine Wk.i2b (pc' := 250) C at_249 hv381 rfl ?_
              refine Wk.bastore (pc' := 251) C at_250 V387 (by decide) (show _ < _ from Nat.le_of_ble_eq_true rfl) (vs' := [(.int v378), (.int v381)]) (by rw [Wk.nar_i2b hv381]; rfl) za384 rfl ?_
              intro h388 W388 V388 O388
              refine Wk.astore (pc' := 253) C at_251 rfl (Ls' := #[.val (.int p0), .val (.int p1), .val (.int p2), .val (.int p3), .val (.int p4), .val (.int b1), .val (.int b2), .val (.int b3), .val (.int b4), .val (.ref a11), .val (.ref a30), .val .null, .val (.ref a360), .val (.ref a369), .val (.ref a375), .val (.ref a384), .unset, .unset, .unset, .unset, .unset, .unset, .unset, .unset]) rfl rfl ?_
              refine Wk.newO (pc' := 256) C at_253 (w30 hw) (w31 hw) (w32 hw) (k' := 11) rfl (n' := 30) rfl (by decide) (by decide) rfl ?_
              intro a389 h390 ga389 za389 E390 Aa389 Da389 Ua389 O390
              have F391 : Fld Z h390 a389 "com/example/consentry/consentry/server/Exchange" "method" "Ljava/lang/String;" .null := Da389 (Or.inr (w38 hw)) (ty := (.object "java/lang/String")) (by decide)
              have F392 : Fld Z h390 a389 "com/example/consentry/consentry/server/Exchange" "rawPath" "Ljava/lang/String;" .null := Da389 (Or.inr (w40 hw)) (ty := (.object "java/lang/String")) (by decide)
              have F393 : Fld Z h390 a389 "com/example/consentry/consentry/server/Exchange" "rawQuery" "Ljava/lang/String;" .null := Da389 (Or.inr (w42 hw)) (ty := (.object "java/lang/String")) (by decide)
              have F394 : Fld Z h390 a389 "com/example/consentry/consentry/server/Exchange" "fields" "Ljava/util/Map;" .null := Da389 (Or.inr (w44 hw)) (ty := (.object "java/util/Map")) (by decide)
              have F395 : Fld Z h390 a389 "com/example/consentry/consentry/server/Exchange" "body" "[B" .null := Da389 (Or.inr (w46 hw)) (ty := (.array .byte)) (by decide)
              have F396 : Fld Z h390 a389 "com/example/consentry/consentry/server/Exchange" "bodyCut" "Z" (.int (0 : Int32)) := Da389 (Or.inr (w48 hw)) (ty := .boolean) (by decide)
              refine Wk.dup (pc' := 257) C at_256 rfl rfl ?_
              refine Wk.aload (pc' := 259) C at_257 rfl rfl rfl ?_
              refine Wk.aload (pc' := 261) C at_259 rfl rfl rfl ?_
              refine Wk.aload (pc' := 263) C at_261 rfl rfl rfl ?_
              refine Wk.aconstNull (pc' := 264) C at_263 rfl ?_
              refine Wk.aload (pc' := 266) C at_264 rfl rfl rfl ?_
              refine Wk.iload (pc' := 268) C at_266 rfl rfl ?_
              refine Wk.callI (pc' := 271) C at_268 (a := a389) (Wk.Con.pays C (Wn := 1) (own_init l hw O390 a389 a11 a30 a360 .null b1 rfl za389 hb1 Aa389 F391 F392 F393 F394 F395 F396) (w35 hw) (w32 hw) (by decide) (by decide)) Wk.cleanC rfl (w33 hw) (w34 hw) (w35 hw) (by decide) (argsL := [(.ref a11), (.ref a30), .null, .null, (.ref a360), (.int b1)]) (st := [(.ref a389)]) rfl rfl (lenOf pd0 rfl) rfl (Nat.le_of_eq rfl) (k' := 11) rfl (n' := 30) rfl (by decide) (by decide) rfl ?_
              intro r397 h398 Q398 O398
              obtain ⟨rfl, Kh398, Ah398, h398_method, h398_rawPath, h398_rawQuery, h398_fields, h398_body, h398_bodyCut⟩ := Q398
              refine Wk.astore (pc' := 273) C at_271 rfl (Ls' := #[.val (.int p0), .val (.int p1), .val (.int p2), .val (.int p3), .val (.int p4), .val (.int b1), .val (.int b2), .val (.int b3), .val (.int b4), .val (.ref a11), .val (.ref a30), .val .null, .val (.ref a360), .val (.ref a369), .val (.ref a375), .val (.ref a384), .val (.ref a389), .unset, .unset, .unset, .unset, .unset, .unset, .unset]) rfl rfl ?_
              refine Wk.aload (pc' := 275) C at_273 rfl rfl rfl ?_
              refine Wk.aload (pc' := 277) C at_275 rfl rfl rfl ?_
              refine Wk.iload (pc' := 279) C at_277 rfl rfl ?_
              refine Wk.callV (pc' := 282) C at_279 (a := a389) (Wk.Con.pays C (Wn := 0) (own_with l hw O398 a389 a11 a30 a375 .null b2 rfl hb2 h398_method h398_rawPath h398_rawQuery h398_fields) (w53 hw) (w32 hw) (by decide) (by decide)) Wk.cleanC Ah398 (w49 hw) (w50 hw) (notFace_of_selects (args := #[]) (mvT C.hZ (w52 hw))) (w52 hw) (w51 hw) (by decide) (argsL := [(.ref a375), (.int b2)]) (st := []) rfl rfl (lenOf pd2 rfl) rfl (Nat.le_of_eq rfl) (k' := 12) rfl (n' := 36) rfl (by decide) (by decide) rfl ?_
              intro r399 h400 Q400 O400
              obtain ⟨a401, rfl, ga401, Eh400, Ah400, h400_method, h400_rawPath, h400_rawQuery, h400_fields, h400_body, h400_bodyCut⟩ := Q400
              refine Wk.astore (pc' := 284) C at_282 rfl (Ls' := #[.val (.int p0), .val (.int p1), .val (.int p2), .val (.int p3), .val (.int p4), .val (.int b1), .val (.int b2), .val (.int b3), .val (.int b4), .val (.ref a11), .val (.ref a30), .val .null, .val (.ref a360), .val (.ref a369), .val (.ref a375), .val (.ref a384), .val (.ref a389), .val (.ref a401), .unset, .unset, .unset, .unset, .unset, .unset]) rfl rfl ?_
              refine Wk.aload (pc' := 286) C at_284 rfl rfl rfl ?_
              refine Wk.aload (pc' := 288) C at_286 rfl rfl rfl ?_
              refine Wk.callV (pc' := 291) C at_288 (a := a401) (Wk.Con.pays C (Wn := 1) (own_get_method l hw O400 a401 (.ref a11) rfl h400_method) (w60 hw) (w32 hw) (by decide) (by decide)) Wk.cleanC Ah400 (w56 hw) (w57 hw) (notFace_of_selects (args := #[]) (mvT C.hZ (w59 hw))) (w59 hw) (w58 hw) (by decide) (argsL := []) (st := [(.ref a11)]) rfl rfl (lenOf pd3 rfl) rfl (Nat.le_of_eq rfl) (k' := 12) rfl (n' := 36) rfl (by decide) (by decide) rfl ?_
              intro r402 h403 Q403 O403
              obtain ⟨rfl, e404⟩ := Q403
              obtain rfl := e404.symm
              have X407 : Ext h29 h35 := Wk.Ext.trans E31 E35
              have X408 : Ext h29 h39 := Wk.Ext.wr (Z := Z) X407 W39 (Nat.le_trans E31.1 (Nat.le_of_eq ga34.symm))
              have X409 : Ext h29 h43 := Wk.Ext.wr (Z := Z) X408 W43 (Nat.le_trans E31.1 (Nat.le_of_eq ga34.symm))
              have X410 : Ext h29 h48 := Wk.Ext.keep1 (Z := Z) X409 Kh48 (Nat.le_of_eq ga30.symm)
              have X411 : Ext h29 h361 := Wk.Ext.trans X410 E361
              have X412 : Ext h29 h365 := Wk.Ext.wr (Z := Z) X411 W365 (Nat.le_trans X410.1 (Nat.le_of_eq ga360.symm))
              have X413 : Ext h29 h368 := Wk.Ext.wr (Z := Z) X412 W368 (Nat.le_trans X410.1 (Nat.le_of_eq ga360.symm))
              have X414 : Ext h29 h370 := Wk.Ext.trans X413 E370
              have X415 : Ext h29 h372 := Wk.Ext.wr (Z := Z) X414 W372 (Nat.le_trans X413.1 (Nat.le_of_eq ga369.symm))
              have X416 : Ext h29 h373 := Wk.Ext.wr (Z := Z) X415 W373 (Nat.le_trans X413.1 (Nat.le_of_eq ga369.symm))
              have X417 : Ext h29 h376 := Wk.Ext.trans X416 E376
              have X418 : Ext h29 h379 := Wk.Ext.wr (Z := Z) X417 W379 (Nat.le_trans X416.1 (Nat.le_of_eq ga375.symm))
              have X419 : Ext h29 h382 := Wk.Ext.wr (Z := Z) X418 W382 (Nat.le_trans X416.1 (Nat.le_of_eq ga375.symm))
              have X420 : Ext h29 h385 := Wk.Ext.trans X419 E385
              have X421 : Ext h29 h387 := Wk.Ext.wr (Z := Z) X420 W387 (Nat.le_trans X419.1 (Nat.le_of_eq ga384.symm))
              have X422 : Ext h29 h388 := Wk.Ext.wr (Z := Z) X421 W388 (Nat.le_trans X419.1 (Nat.le_of_eq ga384.symm))
              have X423 : Ext h29 h390 := Wk.Ext.trans X422 E390
              have X424 : Ext h29 h398 := Wk.Ext.keep1 (Z := Z) X423 Kh398 (Nat.le_trans X422.1 (Nat.le_of_eq ga389.symm))
              have X425 : Ext h29 h400 := Wk.Ext.trans X424 Eh400
              refine Wk.callV (pc' := 294) C at_291 (a := a11) (Wk.Con.pays C (Wn := 0) (own_eq l hw O400 a11) (w65 hw) (w2 hw) (by decide) (by decide)) Wk.cleanC (Sh29.exa.ext X425) (w61 hw) (w62 hw) (notFace_of_selects (args := #[]) (mvT C.hZ (w64 hw))) (w64 hw) (w63 hw) (by decide) (argsL := [(.ref a11)]) (st := []) rfl rfl (lenOf pd4 rfl) rfl (Nat.le_of_eq rfl) (k' := 12) rfl (n' := 36) rfl (by decide) (by decide) rfl ?_
              intro r405 h406 Q406 O406
              obtain ⟨rfl, e426⟩ := Q406
              obtain rfl := e426.symm
              refine Wk.if_eq C at_294 (by decide) (pcT := 314) (by decide) (pc' := 297) rfl (fun q => absurd q (by decide)) (fun q427 => ?_)
              refine Wk.aload (pc' := 299) C at_297 rfl rfl rfl ?_
              refine Wk.aload (pc' := 301) C at_299 rfl rfl rfl ?_
              refine Wk.callV (pc' := 304) C at_301 (a := a401) (Wk.Con.pays C (Wn := 1) (own_get_rawPath l hw O400 a401 (.ref a30) rfl h400_rawPath) (w70 hw) (w32 hw) (by decide) (by decide)) Wk.cleanC Ah400 (w66 hw) (w67 hw) (notFace_of_selects (args := #[]) (mvT C.hZ (w69 hw))) (w69 hw) (w68 hw) (by decide) (argsL := []) (st := [(.ref a30)]) rfl rfl (lenOf pd3 rfl) rfl (Nat.le_of_eq rfl) (k' := 12) rfl (n' := 36) rfl (by decide) (by decide) rfl ?_
              intro r428 h429 Q429 O429
              obtain ⟨rfl, e430⟩ := Q429
              obtain rfl := e430.symm
              have X433 : Ext h48 h365 := Wk.Ext.wr (Z := Z) E361 W365 (Nat.le_of_eq ga360.symm)
              have X434 : Ext h48 h368 := Wk.Ext.wr (Z := Z) X433 W368 (Nat.le_of_eq ga360.symm)
              have X435 : Ext h48 h370 := Wk.Ext.trans X434 E370
              have X436 : Ext h48 h372 := Wk.Ext.wr (Z := Z) X435 W372 (Nat.le_trans X434.1 (Nat.le_of_eq ga369.symm))
              have X437 : Ext h48 h373 := Wk.Ext.wr (Z := Z) X436 W373 (Nat.le_trans X434.1 (Nat.le_of_eq ga369.symm))
              have X438 : Ext h48 h376 := Wk.Ext.trans X437 E376
              have X439 : Ext h48 h379 := Wk.Ext.wr (Z := Z) X438 W379 (Nat.le_trans X437.1 (Nat.le_of_eq ga375.symm))
              have X440 : Ext h48 h382 := Wk.Ext.wr (Z := Z) X439 W382 (Nat.le_trans X437.1 (Nat.le_of_eq ga375.symm))
              have X441 : Ext h48 h385 := Wk.Ext.trans X440 E385
              have X442 : Ext h48 h387 := Wk.Ext.wr (Z := Z) X441 W387 (Nat.le_trans X440.1 (Nat.le_of_eq ga384.symm))
              have X443 : Ext h48 h388 := Wk.Ext.wr (Z := Z) X442 W388 (Nat.le_trans X440.1 (Nat.le_of_eq ga384.symm))
              have X444 : Ext h48 h390 := Wk.Ext.trans X443 E390
              have X445 : Ext h48 h398 := Wk.Ext.keep1 (Z := Z) X444 Kh398 (Nat.le_trans X443.1 (Nat.le_of_eq ga389.symm))
              have X446 : Ext h48 h400 := Wk.Ext.trans X445 Eh400
              refine Wk.callV (pc' := 307) C at_304 (a := a30) (Wk.Con.pays C (Wn := 0) (own_eq l hw O400 a30) (w65 hw) (w2 hw) (by decide) (by decide)) Wk.cleanC (Sh48.exa.ext X446) (w61 hw) (w62 hw) (notFace_of_selects (args := #[]) (mvT C.hZ (w64 hw))) (w64 hw) (w63 hw) (by decide) (argsL := [(.ref a30)]) (st := []) rfl rfl (lenOf pd4 rfl) rfl (Nat.le_of_eq rfl) (k' := 12) rfl (n' := 36) rfl (by decide) (by decide) rfl ?_
              intro r431 h432 Q432 O432
              obtain ⟨rfl, e447⟩ := Q432
              obtain rfl := e447.symm
              refine Wk.if_eq C at_307 (by decide) (pcT := 314) (by decide) (pc' := 310) rfl (fun q => absurd q (by decide)) (fun q448 => ?_)
              refine Wk.iconst (pc' := 311) C at_310 (v := (1 : Int32)) rfl rfl ?_
              refine Wk.goto C at_311 (by decide) (pc' := 315) (by decide) ?_
              refine Wk.istore (pc' := 317) C at_315 (Ls' := #[.val (.int p0), .val (.int p1), .val (.int p2), .val (.int p3), .val (.int p4), .val (.int b1), .val (.int b2), .val (.int b3), .val (.int b4), .val (.ref a11), .val (.ref a30), .val .null, .val (.ref a360), .val (.ref a369), .val (.ref a375), .val (.ref a384), .val (.ref a389), .val (.ref a401), .val (.int (1 : Int32)), .unset, .unset, .unset, .unset, .unset]) rfl rfl ?_
              refine Wk.aload (pc' := 319) C at_317 rfl rfl rfl ?_
              refine Wk.callV (pc' := 322) C at_319 (a := a401) (Wk.Con.pays C (Wn := 0) (own_get_rawQuery l hw O400 a401 .null rfl h400_rawQuery) (w75 hw) (w32 hw) (by decide) (by decide)) Wk.cleanC Ah400 (w71 hw) (w72 hw) (notFace_of_selects (args := #[]) (mvT C.hZ (w74 hw))) (w74 hw) (w73 hw) (by decide) (argsL := []) (st := []) rfl rfl (lenOf pd3 rfl) rfl (Nat.le_of_eq rfl) (k' := 12) rfl (n' := 36) rfl (by decide) (by decide) rfl ?_
              intro r449 h450 Q450 O450
              obtain ⟨rfl, e451⟩ := Q450
              obtain rfl := e451.symm
              refine Wk.astore (pc' := 324) C at_322 rfl (Ls' := #[.val (.int p0), .val (.int p1), .val (.int p2), .val (.int p3), .val (.int p4), .val (.int b1), .val (.int b2), .val (.int b3), .val (.int b4), .val (.ref a11), .val (.ref a30), .val .null, .val (.ref a360), .val (.ref a369), .val (.ref a375), .val (.ref a384), .val (.ref a389), .val (.ref a401), .val (.int (1 : Int32)), .val .null, .unset, .unset, .unset, .unset]) rfl rfl ?_
              refine Wk.iload (pc' := 326) C at_324 rfl rfl ?_
              refine Wk.if_eq C at_326 (by decide) (pcT := 342) (by decide) (pc' := 329) rfl (fun q => absurd q q49) (fun q452 => ?_)
              refine Wk.aload (pc' := 331) C at_329 rfl rfl rfl ?_
              refine Wk.ifnonnullN (pc' := 334) C at_331 rfl ?_
              refine Wk.iconst (pc' := 335) C at_334 (v := (1 : Int32)) rfl rfl ?_
              refine Wk.goto C at_335 (by decide) (pc' := 349) (by decide) ?_
              refine Wk.istore (pc' := 351) C at_349 (Ls' := #[.val (.int p0), .val (.int p1), .val (.int p2), .val (.int p3), .val (.int p4), .val (.int b1), .val (.int b2), .val (.int b3), .val (.int b4), .val (.ref a11), .val (.ref a30), .val .null, .val (.ref a360), .val (.ref a369), .val (.ref a375), .val (.ref a384), .val (.ref a389), .val (.ref a401), .val (.int (1 : Int32)), .val .null, .val (.int (1 : Int32)), .unset, .unset, .unset]) rfl rfl ?_
              refine Wk.aload (pc' := 353) C at_351 rfl rfl rfl ?_
              refine Wk.callV (pc' := 356) C at_353 (a := a401) (Wk.Con.pays C (Wn := 0) (own_get_body l hw O400 a401 (.ref a375) rfl h400_body) (w80 hw) (w32 hw) (by decide) (by decide)) Wk.cleanC Ah400 (w76 hw) (w77 hw) (notFace_of_selects (args := #[]) (mvT C.hZ (w79 hw))) (w79 hw) (w78 hw) (by decide) (argsL := []) (st := []) rfl rfl (lenOf pd5 rfl) rfl (Nat.le_of_eq rfl) (k' := 12) rfl (n' := 36) rfl (by decide) (by decide) rfl ?_
              intro r453 h454 Q454 O454
              obtain ⟨rfl, e455⟩ := Q454
              obtain rfl := e455.symm
              refine Wk.aload (pc' := 358) C at_356 rfl rfl rfl ?_
              have X456 : Ext h382 h387 := Wk.Ext.wr (Z := Z) E385 W387 (Nat.le_of_eq ga384.symm)
              have X457 : Ext h382 h388 := Wk.Ext.wr (Z := Z) X456 W388 (Nat.le_of_eq ga384.symm)
              have X458 : Ext h382 h390 := Wk.Ext.trans X457 E390
              have X459 : Ext h382 h398 := Wk.Ext.keep1 (Z := Z) X458 Kh398 (Nat.le_trans X457.1 (Nat.le_of_eq ga389.symm))
              have X460 : Ext h382 h400 := Wk.Ext.trans X459 Eh400
              have X461 : Ext h388 h398 := Wk.Ext.keep1 (Z := Z) E390 Kh398 (Nat.le_of_eq ga389.symm)
              have X462 : Ext h388 h400 := Wk.Ext.trans X461 Eh400
              refine Wk.callS (pc' := 361) C at_358 (Wk.Con.pays C (Wn := 0) (own_same2 l hw O400 a375 a384 v378 v381 (V382.ext X460) (V388.ext X462)) (w84 hw) (w83 hw) (by decide) (by decide)) Wk.cleanC (w81 hw) (w82 hw) (w83 hw) (w84 hw) (by decide) (argsL := [(.ref a375), (.ref a384)]) (st := []) rfl rfl (lenOf pd6 rfl) rfl (Nat.le_of_eq rfl) (k' := 12) rfl (n' := 36) rfl (by decide) (by decide) rfl ?_
              intro r463 h464 Q464 O464
              obtain ⟨rfl, e465⟩ := Q464
              obtain rfl := e465.symm
              refine Wk.istore (pc' := 363) C at_361 (Ls' := #[.val (.int p0), .val (.int p1), .val (.int p2), .val (.int p3), .val (.int p4), .val (.int b1), .val (.int b2), .val (.int b3), .val (.int b4), .val (.ref a11), .val (.ref a30), .val .null, .val (.ref a360), .val (.ref a369), .val (.ref a375), .val (.ref a384), .val (.ref a389), .val (.ref a401), .val (.int (1 : Int32)), .val .null, .val (.int (1 : Int32)), .val (.int (1 : Int32)), .unset, .unset]) rfl rfl ?_
              refine Wk.aload (pc' := 365) C at_363 rfl rfl rfl ?_
              refine Wk.callV (pc' := 368) C at_365 (a := a401) (Wk.Con.pays C (Wn := 0) (own_get_bodyCut l hw O400 a401 b2 hb2 h400_bodyCut) (w89 hw) (w32 hw) (by decide) (by decide)) Wk.cleanC Ah400 (w85 hw) (w86 hw) (notFace_of_selects (args := #[]) (mvT C.hZ (w88 hw))) (w88 hw) (w87 hw) (by decide) (argsL := []) (st := []) rfl rfl (lenOf pd7 rfl) rfl (Nat.le_of_eq rfl) (k' := 12) rfl (n' := 36) rfl (by decide) (by decide) rfl ?_
              intro r466 h467 Q467 O467
              obtain ⟨rfl, e468⟩ := Q467
              obtain rfl := e468.symm
              refine Wk.iload (pc' := 370) C at_368 rfl rfl ?_
              refine Wk.icmp_ne C at_370 (by decide) (pcT := 377) (by decide) (pc' := 373) rfl (fun q => absurd rfl q) (fun q469 => ?_)
              refine Wk.iconst (pc' := 374) C at_373 (v := (1 : Int32)) rfl rfl ?_
              refine Wk.goto C at_374 (by decide) (pc' := 378) (by decide) ?_
              refine Wk.istore (pc' := 380) C at_378 (Ls' := #[.val (.int p0), .val (.int p1), .val (.int p2), .val (.int p3), .val (.int p4), .val (.int b1), .val (.int b2), .val (.int b3), .val (.int b4), .val (.ref a11), .val (.ref a30), .val .null, .val (.ref a360), .val (.ref a369), .val (.ref a375), .val (.ref a384), .val (.ref a389), .val (.ref a401), .val (.int (1 : Int32)), .val .null, .val (.int (1 : Int32)), .val (.int (1 : Int32)), .val (.int (1 : Int32)), .unset]) rfl rfl ?_
              refine Wk.aload (pc' := 382) C at_380 rfl rfl rfl ?_
              refine Wk.callV (pc' := 385) C at_382 (a := a389) (Wk.Con.pays C (Wn := 0) (own_get_body l hw O400 a389 (.ref a360) rfl (h398_body.ext Eh400)) (w80 hw) (w32 hw) (by decide) (by decide)) Wk.cleanC (Ah398.ext Eh400) (w76 hw) (w77 hw) (notFace_of_selects (args := #[]) (mvT C.hZ (w79 hw))) (w79 hw) (w78 hw) (by decide) (argsL := []) (st := []) rfl rfl (lenOf pd5 rfl) rfl (Nat.le_of_eq rfl) (k' := 12) rfl (n' := 36) rfl (by decide) (by decide) rfl ?_
              intro r470 h471 Q471 O471
              obtain ⟨rfl, e472⟩ := Q471
              obtain rfl := e472.symm
              refine Wk.aload (pc' := 387) C at_385 rfl rfl rfl ?_
              have X473 : Ext h368 h372 := Wk.Ext.wr (Z := Z) E370 W372 (Nat.le_of_eq ga369.symm)
              have X474 : Ext h368 h373 := Wk.Ext.wr (Z := Z) X473 W373 (Nat.le_of_eq ga369.symm)
              have X475 : Ext h368 h376 := Wk.Ext.trans X474 E376
              have X476 : Ext h368 h379 := Wk.Ext.wr (Z := Z) X475 W379 (Nat.le_trans X474.1 (Nat.le_of_eq ga375.symm))
              have X477 : Ext h368 h382 := Wk.Ext.wr (Z := Z) X476 W382 (Nat.le_trans X474.1 (Nat.le_of_eq ga375.symm))
              have X478 : Ext h368 h385 := Wk.Ext.trans X477 E385
              have X479 : Ext h368 h387 := Wk.Ext.wr (Z := Z) X478 W387 (Nat.le_trans X477.1 (Nat.le_of_eq ga384.symm))
              have X480 : Ext h368 h388 := Wk.Ext.wr (Z := Z) X479 W388 (Nat.le_trans X477.1 (Nat.le_of_eq ga384.symm))
              have X481 : Ext h368 h390 := Wk.Ext.trans X480 E390
              have X482 : Ext h368 h398 := Wk.Ext.keep1 (Z := Z) X481 Kh398 (Nat.le_trans X480.1 (Nat.le_of_eq ga389.symm))
              have X483 : Ext h368 h400 := Wk.Ext.trans X482 Eh400
              have X484 : Ext h373 h379 := Wk.Ext.wr (Z := Z) E376 W379 (Nat.le_of_eq ga375.symm)
              have X485 : Ext h373 h382 := Wk.Ext.wr (Z := Z) X484 W382 (Nat.le_of_eq ga375.symm)
              have X486 : Ext h373 h385 := Wk.Ext.trans X485 E385
              have X487 : Ext h373 h387 := Wk.Ext.wr (Z := Z) X486 W387 (Nat.le_trans X485.1 (Nat.le_of_eq ga384.symm))
              have X488 : Ext h373 h388 := Wk.Ext.wr (Z := Z) X487 W388 (Nat.le_trans X485.1 (Nat.le_of_eq ga384.symm))
              have X489 : Ext h373 h390 := Wk.Ext.trans X488 E390
              have X490 : Ext h373 h398 := Wk.Ext.keep1 (Z := Z) X489 Kh398 (Nat.le_trans X488.1 (Nat.le_of_eq ga389.symm))
              have X491 : Ext h373 h400 := Wk.Ext.trans X490 Eh400
              refine Wk.callS (pc' := 390) C at_387 (Wk.Con.pays C (Wn := 0) (own_same2 l hw O400 a360 a369 v364 v367 (V368.ext X483) (V373.ext X491)) (w84 hw) (w83 hw) (by decide) (by decide)) Wk.cleanC (w81 hw) (w82 hw) (w83 hw) (w84 hw) (by decide) (argsL := [(.ref a360), (.ref a369)]) (st := []) rfl rfl (lenOf pd6 rfl) rfl (Nat.le_of_eq rfl) (k' := 12) rfl (n' := 36) rfl (by decide) (by decide) rfl ?_
              intro r492 h493 Q493 O493
              obtain ⟨rfl, e494⟩ := Q493
              obtain rfl := e494.symm
              refine Wk.if_eq C at_390 (by decide) (pcT := 407) (by decide) (pc' := 393) rfl (fun q => absurd q (by decide)) (fun q495 => ?_)
              refine Wk.aload (pc' := 395) C at_393 rfl rfl rfl ?_
              refine Wk.callV (pc' := 398) C at_395 (a := a389) (Wk.Con.pays C (Wn := 0) (own_get_bodyCut l hw O400 a389 b1 hb1 (h398_bodyCut.ext Eh400)) (w89 hw) (w32 hw) (by decide) (by decide)) Wk.cleanC (Ah398.ext Eh400) (w85 hw) (w86 hw) (notFace_of_selects (args := #[]) (mvT C.hZ (w88 hw))) (w88 hw) (w87 hw) (by decide) (argsL := []) (st := []) rfl rfl (lenOf pd7 rfl) rfl (Nat.le_of_eq rfl) (k' := 12) rfl (n' := 36) rfl (by decide) (by decide) rfl ?_
              intro r496 h497 Q497 O497
              obtain ⟨rfl, e498⟩ := Q497
              obtain rfl := e498.symm
              refine Wk.iload (pc' := 400) C at_398 rfl rfl ?_
              refine Wk.icmp_ne C at_400 (by decide) (pcT := 407) (by decide) (pc' := 403) rfl (fun q => absurd rfl q) (fun q499 => ?_)
              refine Wk.iconst (pc' := 404) C at_403 (v := (1 : Int32)) rfl rfl ?_
              refine Wk.goto C at_404 (by decide) (pc' := 408) (by decide) ?_
              refine Wk.istore (pc' := 410) C at_408 (Ls' := #[.val (.int p0), .val (.int p1), .val (.int p2), .val (.int p3), .val (.int p4), .val (.int b1), .val (.int b2), .val (.int b3), .val (.int b4), .val (.ref a11), .val (.ref a30), .val .null, .val (.ref a360), .val (.ref a369), .val (.ref a375), .val (.ref a384), .val (.ref a389), .val (.ref a401), .val (.int (1 : Int32)), .val .null, .val (.int (1 : Int32)), .val (.int (1 : Int32)), .val (.int (1 : Int32)), .val (.int (1 : Int32))]) rfl rfl ?_
              refine Wk.iload (pc' := 412) C at_410 rfl rfl ?_
              refine Wk.if_eq C at_412 (by decide) (pcT := 439) (by decide) (pc' := 415) rfl (fun q => absurd q (by decide)) (fun q500 => ?_)
              refine Wk.iload (pc' := 417) C at_415 rfl rfl ?_
              refine Wk.if_eq C at_417 (by decide) (pcT := 439) (by decide) (pc' := 420) rfl (fun q => absurd q (by decide)) (fun q501 => ?_)
              refine Wk.iload (pc' := 422) C at_420 rfl rfl ?_
              refine Wk.if_eq C at_422 (by decide) (pcT := 439) (by decide) (pc' := 425) rfl (fun q => absurd q (by decide)) (fun q502 => ?_)
              refine Wk.iload (pc' := 427) C at_425 rfl rfl ?_
              refine Wk.if_eq C at_427 (by decide) (pcT := 439) (by decide) (pc' := 430) rfl (fun q => absurd q (by decide)) (fun q503 => ?_)
              refine Wk.iload (pc' := 432) C at_430 rfl rfl ?_
              refine Wk.if_eq C at_432 (by decide) (pcT := 439) (by decide) (pc' := 435) rfl (fun q => absurd q (by decide)) (fun q504 => ?_)
              refine Wk.iconst (pc' := 436) C at_435 (v := (1 : Int32)) rfl rfl ?_
              refine Wk.goto C at_436 (by decide) (pc' := 440) (by decide) ?_
              exact Wk.retNar C (ty := .boolean) (by simp) at_440 rfl (by decide) (by decide) rfl
            · -- pc 197: not taken
              refine Wk.iconst (pc' := 201) C at_200 (v := (0 : Int32)) rfl rfl ?_
              refine Wk.newA (pc' := 203) C at_201 (ty := .byte) rfl (w19 hw) (by decide) (cap := 0) (by decide) (by decide) (k' := 9) rfl (n' := 20) rfl (by decide) (by decide) rfl rfl ?_
              intro a505 h506 ga505 za505 E506 Va505 O506
              have V507 : Wk.Ary Z h506 a505 .byte [] := Va505
              refine Wk.goto C at_203 (by decide) (pc' := 222) (by decide) ?_
              refine Wk.astore (pc' := 224) C at_222 rfl (Ls' := #[.val (.int p0), .val (.int p1), .val (.int p2), .val (.int p3), .val (.int p4), .val (.int b1), .val (.int b2), .val (.int b3), .val (.int b4), .val (.ref a11), .val (.ref a30), .val .null, .val (.ref a360), .val (.ref a369), .val (.ref a505), .unset, .unset, .unset, .unset, .unset, .unset, .unset, .unset, .unset]) rfl rfl ?_
              refine Wk.iload (pc' := 226) C at_224 rfl rfl ?_
              refine Wk.if_eq C at_226 (by decide) (pcT := 235) (by decide) (pc' := 229) rfl (fun q => absurd q q374) (fun q508 => ?_)
              refine Wk.iconst (pc' := 230) C at_229 (v := (0 : Int32)) rfl rfl ?_
              refine Wk.newA (pc' := 232) C at_230 (ty := .byte) rfl (w19 hw) (by decide) (cap := 0) (by decide) (by decide) (k' := 10) rfl (n' := 20) rfl (by decide) (by decide) rfl rfl ?_
              intro a509 h510 ga509 za509 E510 Va509 O510
              have V511 : Wk.Ary Z h510 a509 .byte [] := Va509
              refine Wk.goto C at_232 (by decide) (pc' := 251) (by decide) ?_
              refine Wk.astore (pc' := 253) C at_251 rfl (Ls' := #[.val (.int p0), .val (.int p1), .val (.int p2), .val (.int p3), .val (.int p4), .val (.int b1), .val (.int b2), .val (.int b3), .val (.int b4), .val (.ref a11), .val (.ref a30), .val .null, .val (.ref a360), .val (.ref a369), .val (.ref a505), .val (.ref a509), .unset, .unset, .unset, .unset, .unset, .unset, .unset, .unset]) rfl rfl ?_
              refine Wk.newO (pc' := 256) C at_253 (w30 hw) (w31 hw) (w32 hw) (k' := 11) rfl (n' := 26) rfl (by decide) (by decide) rfl ?_
              intro a512 h513 ga512 za512 E513 Aa512 Da512 Ua512 O513
              have F514 : Fld Z h513 a512 "com/example/consentry/consentry/server/Exchange" "method" "Ljava/lang/String;" .null := Da512 (Or.inr (w38 hw)) (ty := (.object "java/lang/String")) (by decide)
              have F515 : Fld Z h513 a512 "com/example/consentry/consentry/server/Exchange" "rawPath" "Ljava/lang/String;" .null := Da512 (Or.inr (w40 hw)) (ty := (.object "java/lang/String")) (by decide)
              have F516 : Fld Z h513 a512 "com/example/consentry/consentry/server/Exchange" "rawQuery" "Ljava/lang/String;" .null := Da512 (Or.inr (w42 hw)) (ty := (.object "java/lang/String")) (by decide)
              have F517 : Fld Z h513 a512 "com/example/consentry/consentry/server/Exchange" "fields" "Ljava/util/Map;" .null := Da512 (Or.inr (w44 hw)) (ty := (.object "java/util/Map")) (by decide)
              have F518 : Fld Z h513 a512 "com/example/consentry/consentry/server/Exchange" "body" "[B" .null := Da512 (Or.inr (w46 hw)) (ty := (.array .byte)) (by decide)
              have F519 : Fld Z h513 a512 "com/example/consentry/consentry/server/Exchange" "bodyCut" "Z" (.int (0 : Int32)) := Da512 (Or.inr (w48 hw)) (ty := .boolean) (by decide)
              refine Wk.dup (pc' := 257) C at_256 rfl rfl ?_
              refine Wk.aload (pc' := 259) C at_257 rfl rfl rfl ?_
              refine Wk.aload (pc' := 261) C at_259 rfl rfl rfl ?_
              refine Wk.aload (pc' := 263) C at_261 rfl rfl rfl ?_
              refine Wk.aconstNull (pc' := 264) C at_263 rfl ?_
              refine Wk.aload (pc' := 266) C at_264 rfl rfl rfl ?_
              refine Wk.iload (pc' := 268) C at_266 rfl rfl ?_
              refine Wk.callI (pc' := 271) C at_268 (a := a512) (Wk.Con.pays C (Wn := 1) (own_init l hw O513 a512 a11 a30 a360 .null b1 rfl za512 hb1 Aa512 F514 F515 F516 F517 F518 F519) (w35 hw) (w32 hw) (by decide) (by decide)) Wk.cleanC rfl (w33 hw) (w34 hw) (w35 hw) (by decide) (argsL := [(.ref a11), (.ref a30), .null, .null, (.ref a360), (.int b1)]) (st := [(.ref a512)]) rfl rfl (lenOf pd0 rfl) rfl (Nat.le_of_eq rfl) (k' := 11) rfl (n' := 26) rfl (by decide) (by decide) rfl ?_
              intro r520 h521 Q521 O521
              obtain ⟨rfl, Kh521, Ah521, h521_method, h521_rawPath, h521_rawQuery, h521_fields, h521_body, h521_bodyCut⟩ := Q521
              refine Wk.astore (pc' := 273) C at_271 rfl (Ls' := #[.val (.int p0), .val (.int p1), .val (.int p2), .val (.int p3), .val (.int p4), .val (.int b1), .val (.int b2), .val (.int b3), .val (.int b4), .val (.ref a11), .val (.ref a30), .val .null, .val (.ref a360), .val (.ref a369), .val (.ref a505), .val (.ref a509), .val (.ref a512), .unset, .unset, .unset, .unset, .unset, .unset, .unset]) rfl rfl ?_
              refine Wk.aload (pc' := 275) C at_273 rfl rfl rfl ?_
              refine Wk.aload (pc' := 277) C at_275 rfl rfl rfl ?_
              refine Wk.iload (pc' := 279) C at_277 rfl rfl ?_
              refine Wk.callV (pc' := 282) C at_279 (a := a512) (Wk.Con.pays C (Wn := 0) (own_with l hw O521 a512 a11 a30 a505 .null b2 rfl hb2 h521_method h521_rawPath h521_rawQuery h521_fields) (w53 hw) (w32 hw) (by decide) (by decide)) Wk.cleanC Ah521 (w49 hw) (w50 hw) (notFace_of_selects (args := #[]) (mvT C.hZ (w52 hw))) (w52 hw) (w51 hw) (by decide) (argsL := [(.ref a505), (.int b2)]) (st := []) rfl rfl (lenOf pd2 rfl) rfl (Nat.le_of_eq rfl) (k' := 12) rfl (n' := 32) rfl (by decide) (by decide) rfl ?_
              intro r522 h523 Q523 O523
              obtain ⟨a524, rfl, ga524, Eh523, Ah523, h523_method, h523_rawPath, h523_rawQuery, h523_fields, h523_body, h523_bodyCut⟩ := Q523
              refine Wk.astore (pc' := 284) C at_282 rfl (Ls' := #[.val (.int p0), .val (.int p1), .val (.int p2), .val (.int p3), .val (.int p4), .val (.int b1), .val (.int b2), .val (.int b3), .val (.int b4), .val (.ref a11), .val (.ref a30), .val .null, .val (.ref a360), .val (.ref a369), .val (.ref a505), .val (.ref a509), .val (.ref a512), .val (.ref a524), .unset, .unset, .unset, .unset, .unset, .unset]) rfl rfl ?_
              refine Wk.aload (pc' := 286) C at_284 rfl rfl rfl ?_
              refine Wk.aload (pc' := 288) C at_286 rfl rfl rfl ?_
              refine Wk.callV (pc' := 291) C at_288 (a := a524) (Wk.Con.pays C (Wn := 1) (own_get_method l hw O523 a524 (.ref a11) rfl h523_method) (w60 hw) (w32 hw) (by decide) (by decide)) Wk.cleanC Ah523 (w56 hw) (w57 hw) (notFace_of_selects (args := #[]) (mvT C.hZ (w59 hw))) (w59 hw) (w58 hw) (by decide) (argsL := []) (st := [(.ref a11)]) rfl rfl (lenOf pd3 rfl) rfl (Nat.le_of_eq rfl) (k' := 12) rfl (n' := 32) rfl (by decide) (by decide) rfl ?_
              intro r525 h526 Q526 O526
              obtain ⟨rfl, e527⟩ := Q526
              obtain rfl := e527.symm
              have X530 : Ext h29 h35 := Wk.Ext.trans E31 E35
              have X531 : Ext h29 h39 := Wk.Ext.wr (Z := Z) X530 W39 (Nat.le_trans E31.1 (Nat.le_of_eq ga34.symm))
              have X532 : Ext h29 h43 := Wk.Ext.wr (Z := Z) X531 W43 (Nat.le_trans E31.1 (Nat.le_of_eq ga34.symm))
              have X533 : Ext h29 h48 := Wk.Ext.keep1 (Z := Z) X532 Kh48 (Nat.le_of_eq ga30.symm)
              have X534 : Ext h29 h361 := Wk.Ext.trans X533 E361
              have X535 : Ext h29 h365 := Wk.Ext.wr (Z := Z) X534 W365 (Nat.le_trans X533.1 (Nat.le_of_eq ga360.symm))
              have X536 : Ext h29 h368 := Wk.Ext.wr (Z := Z) X535 W368 (Nat.le_trans X533.1 (Nat.le_of_eq ga360.symm))
              have X537 : Ext h29 h370 := Wk.Ext.trans X536 E370
              have X538 : Ext h29 h372 := Wk.Ext.wr (Z := Z) X537 W372 (Nat.le_trans X536.1 (Nat.le_of_eq ga369.symm))
              have X539 : Ext h29 h373 := Wk.Ext.wr (Z := Z) X538 W373 (Nat.le_trans X536.1 (Nat.le_of_eq ga369.symm))
              have X540 : Ext h29 h506 := Wk.Ext.trans X539 E506
              have X541 : Ext h29 h510 := Wk.Ext.trans X540 E510
              have X542 : Ext h29 h513 := Wk.Ext.trans X541 E513
              have X543 : Ext h29 h521 := Wk.Ext.keep1 (Z := Z) X542 Kh521 (Nat.le_trans X541.1 (Nat.le_of_eq ga512.symm))
              have X544 : Ext h29 h523 := Wk.Ext.trans X543 Eh523
              refine Wk.callV (pc' := 294) C at_291 (a := a11) (Wk.Con.pays C (Wn := 0) (own_eq l hw O523 a11) (w65 hw) (w2 hw) (by decide) (by decide)) Wk.cleanC (Sh29.exa.ext X544) (w61 hw) (w62 hw) (notFace_of_selects (args := #[]) (mvT C.hZ (w64 hw))) (w64 hw) (w63 hw) (by decide) (argsL := [(.ref a11)]) (st := []) rfl rfl (lenOf pd4 rfl) rfl (Nat.le_of_eq rfl) (k' := 12) rfl (n' := 32) rfl (by decide) (by decide) rfl ?_
              intro r528 h529 Q529 O529
              obtain ⟨rfl, e545⟩ := Q529
              obtain rfl := e545.symm
              refine Wk.if_eq C at_294 (by decide) (pcT := 314) (by decide) (pc' := 297) rfl (fun q => absurd q (by decide)) (fun q546 => ?_)
              refine Wk.aload (pc' := 299) C at_297 rfl rfl rfl ?_
              refine Wk.aload (pc' := 301) C at_299 rfl rfl rfl ?_
              refine Wk.callV (pc' := 304) C at_301 (a := a524) (Wk.Con.pays C (Wn := 1) (own_get_rawPath l hw O523 a524 (.ref a30) rfl h523_rawPath) (w70 hw) (w32 hw) (by decide) (by decide)) Wk.cleanC Ah523 (w66 hw) (w67 hw) (notFace_of_selects (args := #[]) (mvT C.hZ (w69 hw))) (w69 hw) (w68 hw) (by decide) (argsL := []) (st := [(.ref a30)]) rfl rfl (lenOf pd3 rfl) rfl (Nat.le_of_eq rfl) (k' := 12) rfl (n' := 32) rfl (by decide) (by decide) rfl ?_
              intro r547 h548 Q548 O548
              obtain ⟨rfl, e549⟩ := Q548
              obtain rfl := e549.symm
              have X552 : Ext h48 h365 := Wk.Ext.wr (Z := Z) E361 W365 (Nat.le_of_eq ga360.symm)
              have X553 : Ext h48 h368 := Wk.Ext.wr (Z := Z) X552 W368 (Nat.le_of_eq ga360.symm)
              have X554 : Ext h48 h370 := Wk.Ext.trans X553 E370
              have X555 : Ext h48 h372 := Wk.Ext.wr (Z := Z) X554 W372 (Nat.le_trans X553.1 (Nat.le_of_eq ga369.symm))
              have X556 : Ext h48 h373 := Wk.Ext.wr (Z := Z) X555 W373 (Nat.le_trans X553.1 (Nat.le_of_eq ga369.symm))
              have X557 : Ext h48 h506 := Wk.Ext.trans X556 E506
              have X558 : Ext h48 h510 := Wk.Ext.trans X557 E510
              have X559 : Ext h48 h513 := Wk.Ext.trans X558 E513
              have X560 : Ext h48 h521 := Wk.Ext.keep1 (Z := Z) X559 Kh521 (Nat.le_trans X558.1 (Nat.le_of_eq ga512.symm))
              have X561 : Ext h48 h523 := Wk.Ext.trans X560 Eh523
              refine Wk.callV (pc' := 307) C at_304 (a := a30) (Wk.Con.pays C (Wn := 0) (own_eq l hw O523 a30) (w65 hw) (w2 hw) (by decide) (by decide)) Wk.cleanC (Sh48.exa.ext X561) (w61 hw) (w62 hw) (notFace_of_selects (args := #[]) (mvT C.hZ (w64 hw))) (w64 hw) (w63 hw) (by decide) (argsL := [(.ref a30)]) (st := []) rfl rfl (lenOf pd4 rfl) rfl (Nat.le_of_eq rfl) (k' := 12) rfl (n' := 32) rfl (by decide) (by decide) rfl ?_
              intro r550 h551 Q551 O551
              obtain ⟨rfl, e562⟩ := Q551
              obtain rfl := e562.symm
              refine Wk.if_eq C at_307 (by decide) (pcT := 314) (by decide) (pc' := 310) rfl (fun q => absurd q (by decide)) (fun q563 => ?_)
              refine Wk.iconst (pc' := 311) C at_310 (v := (1 : Int32)) rfl rfl ?_
              refine Wk.goto C at_311 (by decide) (pc' := 315) (by decide) ?_
              refine Wk.istore (pc' := 317) C at_315 (Ls' := #[.val (.int p0), .val (.int p1), .val (.int p2), .val (.int p3), .val (.int p4), .val (.int b1), .val (.int b2), .val (.int b3), .val (.int b4), .val (.ref a11), .val (.ref a30), .val .null, .val (.ref a360), .val (.ref a369), .val (.ref a505), .val (.ref a509), .val (.ref a512), .val (.ref a524), .val (.int (1 : Int32)), .unset, .unset, .unset, .unset, .unset]) rfl rfl ?_
              refine Wk.aload (pc' := 319) C at_317 rfl rfl rfl ?_
              refine Wk.callV (pc' := 322) C at_319 (a := a524) (Wk.Con.pays C (Wn := 0) (own_get_rawQuery l hw O523 a524 .null rfl h523_rawQuery) (w75 hw) (w32 hw) (by decide) (by decide)) Wk.cleanC Ah523 (w71 hw) (w72 hw) (notFace_of_selects (args := #[]) (mvT C.hZ (w74 hw))) (w74 hw) (w73 hw) (by decide) (argsL := []) (st := []) rfl rfl (lenOf pd3 rfl) rfl (Nat.le_of_eq rfl) (k' := 12) rfl (n' := 32) rfl (by decide) (by decide) rfl ?_
              intro r564 h565 Q565 O565
              obtain ⟨rfl, e566⟩ := Q565
              obtain rfl := e566.symm
              refine Wk.astore (pc' := 324) C at_322 rfl (Ls' := #[.val (.int p0), .val (.int p1), .val (.int p2), .val (.int p3), .val (.int p4), .val (.int b1), .val (.int b2), .val (.int b3), .val (.int b4), .val (.ref a11), .val (.ref a30), .val .null, .val (.ref a360), .val (.ref a369), .val (.ref a505), .val (.ref a509), .val (.ref a512), .val (.ref a524), .val (.int (1 : Int32)), .val .null, .unset, .unset, .unset, .unset]) rfl rfl ?_
              refine Wk.iload (pc' := 326) C at_324 rfl rfl ?_
              refine Wk.if_eq C at_326 (by decide) (pcT := 342) (by decide) (pc' := 329) rfl (fun q => absurd q q49) (fun q567 => ?_)
              refine Wk.aload (pc' := 331) C at_329 rfl rfl rfl ?_
              refine Wk.ifnonnullN (pc' := 334) C at_331 rfl ?_
              refine Wk.iconst (pc' := 335) C at_334 (v := (1 : Int32)) rfl rfl ?_
              refine Wk.goto C at_335 (by decide) (pc' := 349) (by decide) ?_
              refine Wk.istore (pc' := 351) C at_349 (Ls' := #[.val (.int p0), .val (.int p1), .val (.int p2), .val (.int p3), .val (.int p4), .val (.int b1), .val (.int b2), .val (.int b3), .val (.int b4), .val (.ref a11), .val (.ref a30), .val .null, .val (.ref a360), .val (.ref a369), .val (.ref a505), .val (.ref a509), .val (.ref a512), .val (.ref a524), .val (.int (1 : Int32)), .val .null, .val (.int (1 : Int32)), .unset, .unset, .unset]) rfl rfl ?_
              refine Wk.aload (pc' := 353) C at_351 rfl rfl rfl ?_
              refine Wk.callV (pc' := 356) C at_353 (a := a524) (Wk.Con.pays C (Wn := 0) (own_get_body l hw O523 a524 (.ref a505) rfl h523_body) (w80 hw) (w32 hw) (by decide) (by decide)) Wk.cleanC Ah523 (w76 hw) (w77 hw) (notFace_of_selects (args := #[]) (mvT C.hZ (w79 hw))) (w79 hw) (w78 hw) (by decide) (argsL := []) (st := []) rfl rfl (lenOf pd5 rfl) rfl (Nat.le_of_eq rfl) (k' := 12) rfl (n' := 32) rfl (by decide) (by decide) rfl ?_
              intro r568 h569 Q569 O569
              obtain ⟨rfl, e570⟩ := Q569
              obtain rfl := e570.symm
              refine Wk.aload (pc' := 358) C at_356 rfl rfl rfl ?_
              have X571 : Ext h506 h513 := Wk.Ext.trans E510 E513
              have X572 : Ext h506 h521 := Wk.Ext.keep1 (Z := Z) X571 Kh521 (Nat.le_trans E510.1 (Nat.le_of_eq ga512.symm))
              have X573 : Ext h506 h523 := Wk.Ext.trans X572 Eh523
              have X574 : Ext h510 h521 := Wk.Ext.keep1 (Z := Z) E513 Kh521 (Nat.le_of_eq ga512.symm)
              have X575 : Ext h510 h523 := Wk.Ext.trans X574 Eh523
              refine Wk.callS (pc' := 361) C at_358 (Wk.Con.pays C (Wn := 0) (own_same0 l hw O523 a505 a509  (V507.ext X573) (V511.ext X575)) (w84 hw) (w83 hw) (by decide) (by decide)) Wk.cleanC (w81 hw) (w82 hw) (w83 hw) (w84 hw) (by decide) (argsL := [(.ref a505), (.ref a509)]) (st := []) rfl rfl (lenOf pd6 rfl) rfl (Nat.le_of_eq rfl) (k' := 12) rfl (n' := 32) rfl (by decide) (by decide) rfl ?_
              intro r576 h577 Q577 O577
              obtain ⟨rfl, e578⟩ := Q577
              obtain rfl := e578.symm
              refine Wk.istore (pc' := 363) C at_361 (Ls' := #[.val (.int p0), .val (.int p1), .val (.int p2), .val (.int p3), .val (.int p4), .val (.int b1), .val (.int b2), .val (.int b3), .val (.int b4), .val (.ref a11), .val (.ref a30), .val .null, .val (.ref a360), .val (.ref a369), .val (.ref a505), .val (.ref a509), .val (.ref a512), .val (.ref a524), .val (.int (1 : Int32)), .val .null, .val (.int (1 : Int32)), .val (.int (1 : Int32)), .unset, .unset]) rfl rfl ?_
              refine Wk.aload (pc' := 365) C at_363 rfl rfl rfl ?_
              refine Wk.callV (pc' := 368) C at_365 (a := a524) (Wk.Con.pays C (Wn := 0) (own_get_bodyCut l hw O523 a524 b2 hb2 h523_bodyCut) (w89 hw) (w32 hw) (by decide) (by decide)) Wk.cleanC Ah523 (w85 hw) (w86 hw) (notFace_of_selects (args := #[]) (mvT C.hZ (w88 hw))) (w88 hw) (w87 hw) (by decide) (argsL := []) (st := []) rfl rfl (lenOf pd7 rfl) rfl (Nat.le_of_eq rfl) (k' := 12) rfl (n' := 32) rfl (by decide) (by decide) rfl ?_
              intro r579 h580 Q580 O580
              obtain ⟨rfl, e581⟩ := Q580
              obtain rfl := e581.symm
              refine Wk.iload (pc' := 370) C at_368 rfl rfl ?_
              refine Wk.icmp_ne C at_370 (by decide) (pcT := 377) (by decide) (pc' := 373) rfl (fun q => absurd rfl q) (fun q582 => ?_)
              refine Wk.iconst (pc' := 374) C at_373 (v := (1 : Int32)) rfl rfl ?_
              refine Wk.goto C at_374 (by decide) (pc' := 378) (by decide) ?_
              refine Wk.istore (pc' := 380) C at_378 (Ls' := #[.val (.int p0), .val (.int p1), .val (.int p2), .val (.int p3), .val (.int p4), .val (.int b1), .val (.int b2), .val (.int b3), .val (.int b4), .val (.ref a11), .val (.ref a30), .val .null, .val (.ref a360), .val (.ref a369), .val (.ref a505), .val (.ref a509), .val (.ref a512), .val (.ref a524), .val (.int (1 : Int32)), .val .null, .val (.int (1 : Int32)), .val (.int (1 : Int32)), .val (.int (1 : Int32)), .unset]) rfl rfl ?_
              refine Wk.aload (pc' := 382) C at_380 rfl rfl rfl ?_
              refine Wk.callV (pc' := 385) C at_382 (a := a512) (Wk.Con.pays C (Wn := 0) (own_get_body l hw O523 a512 (.ref a360) rfl (h521_body.ext Eh523)) (w80 hw) (w32 hw) (by decide) (by decide)) Wk.cleanC (Ah521.ext Eh523) (w76 hw) (w77 hw) (notFace_of_selects (args := #[]) (mvT C.hZ (w79 hw))) (w79 hw) (w78 hw) (by decide) (argsL := []) (st := []) rfl rfl (lenOf pd5 rfl) rfl (Nat.le_of_eq rfl) (k' := 12) rfl (n' := 32) rfl (by decide) (by decide) rfl ?_
              intro r583 h584 Q584 O584
              obtain ⟨rfl, e585⟩ := Q584
              obtain rfl := e585.symm
              refine Wk.aload (pc' := 387) C at_385 rfl rfl rfl ?_
              have X586 : Ext h368 h372 := Wk.Ext.wr (Z := Z) E370 W372 (Nat.le_of_eq ga369.symm)
              have X587 : Ext h368 h373 := Wk.Ext.wr (Z := Z) X586 W373 (Nat.le_of_eq ga369.symm)
              have X588 : Ext h368 h506 := Wk.Ext.trans X587 E506
              have X589 : Ext h368 h510 := Wk.Ext.trans X588 E510
              have X590 : Ext h368 h513 := Wk.Ext.trans X589 E513
              have X591 : Ext h368 h521 := Wk.Ext.keep1 (Z := Z) X590 Kh521 (Nat.le_trans X589.1 (Nat.le_of_eq ga512.symm))
              have X592 : Ext h368 h523 := Wk.Ext.trans X591 Eh523
              have X593 : Ext h373 h510 := Wk.Ext.trans E506 E510
              have X594 : Ext h373 h513 := Wk.Ext.trans X593 E513
              have X595 : Ext h373 h521 := Wk.Ext.keep1 (Z := Z) X594 Kh521 (Nat.le_trans X593.1 (Nat.le_of_eq ga512.symm))
              have X596 : Ext h373 h523 := Wk.Ext.trans X595 Eh523
              refine Wk.callS (pc' := 390) C at_387 (Wk.Con.pays C (Wn := 0) (own_same2 l hw O523 a360 a369 v364 v367 (V368.ext X592) (V373.ext X596)) (w84 hw) (w83 hw) (by decide) (by decide)) Wk.cleanC (w81 hw) (w82 hw) (w83 hw) (w84 hw) (by decide) (argsL := [(.ref a360), (.ref a369)]) (st := []) rfl rfl (lenOf pd6 rfl) rfl (Nat.le_of_eq rfl) (k' := 12) rfl (n' := 32) rfl (by decide) (by decide) rfl ?_
              intro r597 h598 Q598 O598
              obtain ⟨rfl, e599⟩ := Q598
              obtain rfl := e599.symm
              refine Wk.if_eq C at_390 (by decide) (pcT := 407) (by decide) (pc' := 393) rfl (fun q => absurd q (by decide)) (fun q600 => ?_)
              refine Wk.aload (pc' := 395) C at_393 rfl rfl rfl ?_
              refine Wk.callV (pc' := 398) C at_395 (a := a512) (Wk.Con.pays C (Wn := 0) (own_get_bodyCut l hw O523 a512 b1 hb1 (h521_bodyCut.ext Eh523)) (w89 hw) (w32 hw) (by decide) (by decide)) Wk.cleanC (Ah521.ext Eh523) (w85 hw) (w86 hw) (notFace_of_selects (args := #[]) (mvT C.hZ (w88 hw))) (w88 hw) (w87 hw) (by decide) (argsL := []) (st := []) rfl rfl (lenOf pd7 rfl) rfl (Nat.le_of_eq rfl) (k' := 12) rfl (n' := 32) rfl (by decide) (by decide) rfl ?_
              intro r601 h602 Q602 O602
              obtain ⟨rfl, e603⟩ := Q602
              obtain rfl := e603.symm
              refine Wk.iload (pc' := 400) C at_398 rfl rfl ?_
              refine Wk.icmp_ne C at_400 (by decide) (pcT := 407) (by decide) (pc' := 403) rfl (fun q => absurd rfl q) (fun q604 => ?_)
              refine Wk.iconst (pc' := 404) C at_403 (v := (1 : Int32)) rfl rfl ?_
              refine Wk.goto C at_404 (by decide) (pc' := 408) (by decide) ?_
              refine Wk.istore (pc' := 410) C at_408 (Ls' := #[.val (.int p0), .val (.int p1), .val (.int p2), .val (.int p3), .val (.int p4), .val (.int b1), .val (.int b2), .val (.int b3), .val (.int b4), .val (.ref a11), .val (.ref a30), .val .null, .val (.ref a360), .val (.ref a369), .val (.ref a505), .val (.ref a509), .val (.ref a512), .val (.ref a524), .val (.int (1 : Int32)), .val .null, .val (.int (1 : Int32)), .val (.int (1 : Int32)), .val (.int (1 : Int32)), .val (.int (1 : Int32))]) rfl rfl ?_
              refine Wk.iload (pc' := 412) C at_410 rfl rfl ?_
              refine Wk.if_eq C at_412 (by decide) (pcT := 439) (by decide) (pc' := 415) rfl (fun q => absurd q (by decide)) (fun q605 => ?_)
              refine Wk.iload (pc' := 417) C at_415 rfl rfl ?_
              refine Wk.if_eq C at_417 (by decide) (pcT := 439) (by decide) (pc' := 420) rfl (fun q => absurd q (by decide)) (fun q606 => ?_)
              refine Wk.iload (pc' := 422) C at_420 rfl rfl ?_
              refine Wk.if_eq C at_422 (by decide) (pcT := 439) (by decide) (pc' := 425) rfl (fun q => absurd q (by decide)) (fun q607 => ?_)
              refine Wk.iload (pc' := 427) C at_425 rfl rfl ?_
              refine Wk.if_eq C at_427 (by decide) (pcT := 439) (by decide) (pc' := 430) rfl (fun q => absurd q (by decide)) (fun q608 => ?_)
              refine Wk.iload (pc' := 432) C at_430 rfl rfl ?_
              refine Wk.if_eq C at_432 (by decide) (pcT := 439) (by decide) (pc' := 435) rfl (fun q => absurd q (by decide)) (fun q609 => ?_)
              refine Wk.iconst (pc' := 436) C at_435 (v := (1 : Int32)) rfl rfl ?_
              refine Wk.goto C at_436 (by decide) (pc' := 440) (by decide) ?_
              exact Wk.retNar C (ty := .boolean) (by simp) at_440 rfl (by decide) (by decide) rfl
        refine Wk.iload (pc' := 44) C at_42 rfl rfl ?_
        refine Wk.bipush (pc' := 46) C at_44 (v := (8 : Int32)) rfl rfl ?_
        obtain ⟨v610, hv610⟩ : ∃ z : Int32, p4 &&& (8 : Int32) = z := ⟨_, rfl⟩
        refine Wk.iand (pc' := 47) C at_46 hv610 rfl ?_
        refine Wk.if_eq C at_47 (by decide) (pcT := 54) (by decide) (pc' := 50) rfl (fun q611 => ?_) (fun q611 => ?_)
        · -- pc 47: taken
          refine Wk.iconst (pc' := 55) C at_54 (v := (0 : Int32)) rfl rfl ?_
          exact J55 (0 : Int32) (Or.inl rfl)
        · -- pc 47: not taken
          refine Wk.iconst (pc' := 51) C at_50 (v := (1 : Int32)) rfl rfl ?_
          refine Wk.goto C at_51 (by decide) (pc' := 55) (by decide) ?_
          exact J55 (1 : Int32) (Or.inr rfl)
      refine Wk.iload (pc' := 30) C at_28 rfl rfl ?_
      refine Wk.iconst (pc' := 31) C at_30 (v := (4 : Int32)) rfl rfl ?_
      obtain ⟨v612, hv612⟩ : ∃ z : Int32, p4 &&& (4 : Int32) = z := ⟨_, rfl⟩
      refine Wk.iand (pc' := 32) C at_31 hv612 rfl ?_
      refine Wk.if_eq C at_32 (by decide) (pcT := 39) (by decide) (pc' := 35) rfl (fun q613 => ?_) (fun q613 => ?_)
      · -- pc 32: taken
        refine Wk.iconst (pc' := 40) C at_39 (v := (0 : Int32)) rfl rfl ?_
        exact J40 (0 : Int32) (Or.inl rfl)
      · -- pc 32: not taken
        refine Wk.iconst (pc' := 36) C at_35 (v := (1 : Int32)) rfl rfl ?_
        refine Wk.goto C at_36 (by decide) (pc' := 40) (by decide) ?_
        exact J40 (1 : Int32) (Or.inr rfl)
    refine Wk.iload (pc' := 16) C at_14 rfl rfl ?_
    refine Wk.iconst (pc' := 17) C at_16 (v := (2 : Int32)) rfl rfl ?_
    obtain ⟨v614, hv614⟩ : ∃ z : Int32, p4 &&& (2 : Int32) = z := ⟨_, rfl⟩
    refine Wk.iand (pc' := 18) C at_17 hv614 rfl ?_
    refine Wk.if_eq C at_18 (by decide) (pcT := 25) (by decide) (pc' := 21) rfl (fun q615 => ?_) (fun q615 => ?_)
    · -- pc 18: taken
      refine Wk.iconst (pc' := 26) C at_25 (v := (0 : Int32)) rfl rfl ?_
      exact J26 (0 : Int32) (Or.inl rfl)
    · -- pc 18: not taken
      refine Wk.iconst (pc' := 22) C at_21 (v := (1 : Int32)) rfl rfl ?_
      refine Wk.goto C at_22 (by decide) (pc' := 26) (by decide) ?_
      exact J26 (1 : Int32) (Or.inr rfl)
  refine Wk.iload (pc' := 2) C at_0 rfl rfl ?_
  refine Wk.iconst (pc' := 3) C at_2 (v := (1 : Int32)) rfl rfl ?_
  obtain ⟨v616, hv616⟩ : ∃ z : Int32, p4 &&& (1 : Int32) = z := ⟨_, rfl⟩
  refine Wk.iand (pc' := 4) C at_3 hv616 rfl ?_
  refine Wk.if_eq C at_4 (by decide) (pcT := 11) (by decide) (pc' := 7) rfl (fun q617 => ?_) (fun q617 => ?_)
  · -- pc 4: taken
    refine Wk.iconst (pc' := 12) C at_11 (v := (0 : Int32)) rfl rfl ?_
    exact J12 (0 : Int32) (Or.inl rfl)
  · -- pc 4: not taken
    refine Wk.iconst (pc' := 8) C at_7 (v := (1 : Int32)) rfl rfl ?_
    refine Wk.goto C at_8 (by decide) (pc' := 12) (by decide) ?_
    exact J12 (1 : Int32) (Or.inr rfl)
set_option maxRecDepth 65536 in
set_option maxHeartbeats 40000000 in
theorem comes_1 {Post : Tables → Env → Array Value → State → Outcome → State → Prop} (hpost : ∀ tb e args s v u, (limb_1_1.after args s (.returned v) u = true ∧ limb_1_2.after args s (.returned v) u = true ∧ True) → FrameEnd s (.returned v) u (Jvm.fieldLocs frame_1_writes args s ++ Jvm.arrayLocs frame_1_arrays args s ++ Jvm.staticLocs frame_1_statics s) 40 192 → Post tb e args s (.returned v) u) :
    ArmFor flags0 classFile x code maxLocals ret World_1 tables_1 room_1 Calls_1 rest_1 Pre_1 Post := by
  intro l hfl _ _ p e ha hc hk s m args below hf hA hF happ hP
  obtain ⟨hcalls, hrest, hpre⟩ := hP
  obtain ⟨-, -, -, hnamed, -, -, -, hat⟩ := (Spec.applies_iff hf).mp happ
  obtain ⟨hg, hn⟩ := and_e (Cond.before_iff.mp (show (Jvm.Cond.and given_1 narrow_1).before args s = true from hpre))
  obtain ⟨gc0, gr0⟩ := and_e hg
  obtain ⟨gc1, gr1⟩ := and_e gr0
  obtain ⟨gc2, gr2⟩ := and_e gr1
  obtain ⟨gc3, gr3⟩ := and_e gr2
  obtain ⟨gc4, gr4⟩ := and_e gr3
  obtain ⟨w0, w1, w2, w3, w4, rfl⟩ : ∃ w0 w1 w2 w3 w4 : Value, args = #[w0, w1, w2, w3, w4] := by
    have hs : args.size = 5 := by simpa [Cond.value, given_1] using gc0
    obtain ⟨L⟩ := args
    match L, hs with
    | [w0, w1, w2, w3, w4], _ => exact ⟨w0, w1, w2, w3, w4, rfl⟩
  have hw : Ws _ s := fun d (hd : d ∈ tables_1) => atoms_spec (ws := Jvm.Cond.code x code maxLocals ret :: tables_1) hat d (List.mem_cons_of_mem _ hd)
  have hfit : Fit s := fun {y c} hc i hi => by
    obtain ⟨ha, rfl⟩ := Array.getElem?_eq_some_iff.mp hc
    have q := List.all_eq_true.mp ((Array.all_eq_true_iff_forall_mem.mp hF) _ (Array.getElem_mem ha)) i (List.mem_range.mpr hi)
    simpa [Array.getElem?_eq_getElem hi] using q
  obtain ⟨i0, ei0⟩ := is_v gc1
  obtain rfl : w0 = (.int i0) := Option.some.inj ei0
  obtain ⟨i1, ei1⟩ := is_v gc2
  obtain rfl : w1 = (.int i1) := Option.some.inj ei1
  obtain ⟨i2, ei2⟩ := is_v gc3
  obtain rfl : w2 = (.int i2) := Option.some.inj ei2
  obtain ⟨i3, ei3⟩ := is_v gc4
  obtain rfl : w3 = (.int i3) := Option.some.inj ei3
  obtain ⟨i4, ei4⟩ := is_v gr4
  obtain rfl : w4 = (.int i4) := Option.some.inj ei4
  obtain ⟨hsets, hown0⟩ := atoms_of _ (rest_1_c_eq ▸ (show rest_1_c.before _ s = true from hrest))
  have hS : Sets s := by
    have n5 := not_v (Cond.before_iff.mp (hsets _ (List.mem_of_getElem? (i := 2) rfl)))
    obtain ⟨zc, ez⟩ := is_v (Cond.before_iff.mp (hsets _ (List.mem_of_getElem? (i := 1) rfl)))
    obtain ⟨fm, ef, rf⟩ := isR_v (Cond.before_iff.mp (hsets _ (List.mem_of_getElem? (i := 8) rfl)))
    exact ⟨zc, fm, Sta.start ez (Or.inl (hsets _ (List.mem_of_getElem? (i := 0) rfl))), gotF (Cond.eq_ints ez (Term.int_eval (0))) n5, Sta.start ef (Or.inl (hsets _ (List.mem_of_getElem? (i := 7) rfl))), rf⟩
  obtain ⟨n, o, h1, h2, h3, _, L, rfl, ⟨rfl, -, N⟩, hq⟩ := own_law l hw i0 i1 i2 i3 i4 hS tables_1 p e ha hc hk s m _ below hf ((Spec.applies_iff_loose hf).mp happ).1 ⟨rfl, State.Warmed39.refl s, rfl⟩ trivial
  refine ⟨n, _, h1, h2, h3, hpost _ _ _ _ _ _ ⟨Cond.after_iff.mpr rfl, Cond.after_iff.mpr (eq_i res_at (Term.int_eval (1)) rfl), trivial⟩ ⟨hq.1, hq.2.1, (hq.2.2.sift fun y hy => Or.inr (N y hy)).mono (by decide) (by decide)⟩⟩
theorem main_1_1 : Claimed_1_1 := comes_1 fun _ _ _ _ _ _ h hF => ⟨h.1, hF⟩
theorem main_1_2 : Claimed_1_2 := comes_1 fun _ _ _ _ _ _ h hF => ⟨h.2.1, hF⟩
end Jvm.Pilot.@@N@@
namespace Jvm.Pilot.@@N@@
open Jvm Jvm.ClassFile Sem Op Lib Jvm.Free Jvm.Stand Jvm.Pilot.@@N@@.Jvm.D
/-! MADE BY PROGRAM (witnessworld.py) out of the Statement's table words and the real class files: 20 classes; the members and pool entries that the words name. The judged class is class 1, her method 2. -/
namespace start1
open Jvm.ClassFile
def u (s : String) : CpInfo := .utf8 (stringToUtf16 s)
/-- a pool by its gaps: so many unusable entries, then the entry; so many at the end -/
def gap : Nat → List CpInfo → List CpInfo
  | 0, r => r
  | n + 1, r => .unusable :: gap n r
def poolList (es : List (Nat × CpInfo)) (last : Nat) : List CpInfo := es.foldr (fun e r => gap e.1 (e.2 :: r)) (gap last [])
def pool (es : List (Nat × CpInfo)) (last : Nat) : Array CpInfo := ⟨poolList es last⟩
def fileOf (pool : Array CpInfo) (this : Nat) (attrs : Array Attribute := #[]) (ms : Array MethodInfo := #[]) (fl : Nat := 33) (sup : Nat := 0) (ifs : Array Nat := #[]) (fds : Array FieldInfo := #[]) : ClassFile where
  minorVersion := 0
  majorVersion := 65
  constantPool := pool
  accessFlags := fl
  thisClass := this
  superClass := sup
  interfaces := ifs
  fields := fds
  methods := ms
  attributes := attrs
def plain (name : String) (sup : Option ClassId) : Class where
  name := name
  kind := .ordinary
  loader := none
  accessFlags := 33
  super := sup
  interfaces := #[]
  cf := none
  fields := #[]
  methods := #[]
  instanceTypes := #[]
  staticTypes := #[]
  resolved := #[]
  callSites := []
  init := .initialized
  statics := none
  mirror := none

def pool0 : Array CpInfo := pool [(5, u "<init>"), (0, u "()V"), (1, .class_ 10), (1, u "java/lang/Object")] 113

def k0c0 : Code := { maxStack := 0, maxLocals := 1, code := object_method_1_code, exceptionTable := #[], attributes := #[] }
def k0m0 : Method := { name := "<init>", desc := "()V", sig := { parameters := [], returnType := none }, accessFlags := 1, code := some k0c0 }
/-- java/lang/Object -/
def k0 : Class := { plain "java/lang/Object" none with
  accessFlags := 33
  interfaces := #[]
  cf := some (fileOf pool0 8 #[] #[{ accessFlags := 1, nameIndex := 5, descriptorIndex := 6, attributes := #[] }] 33 0 #[] #[])
  fields := #[]
  methods := #[k0m0]
  instanceTypes := #[]
  staticTypes := #[]
  resolved := Array.replicate 124 none
  statics := none }

def pool1 : Array CpInfo := pool [(2, .class_ 4), (1, u "java/lang/Object"), (0, u "<init>"), (0, u "()V"), (0, .class_ 8), (0, u "java/lang/String"), (0, .methodref 7 10), (0, .nameAndType 5 11), (0, u "([C)V"), (0, .class_ 13), (0, u "com/example/consentry/consentry/server/Exchange"), (0, .methodref 12 15), (0, .nameAndType 5 16), (0, u "(Ljava/lang/String;Ljava/lang/String;Ljava/lang/String;Ljava/util/Map;[BZ)V"), (0, .methodref 12 18), (0, .nameAndType 19 20), (0, u "withBody"), (0, u "([BZ)Lcom/example/consentry/consentry/server/Exchange;"), (0, .methodref 12 22), (0, .nameAndType 23 24), (0, u "method"), (0, u "()Ljava/lang/String;"), (0, .methodref 7 26), (0, .nameAndType 27 28), (0, u "equals"), (0, u "(Ljava/lang/Object;)Z"), (0, .methodref 12 30), (0, .nameAndType 31 24), (0, u "rawPath"), (0, .methodref 12 33), (0, .nameAndType 34 24), (0, u "rawQuery"), (0, .methodref 12 36), (0, .nameAndType 37 38), (0, u "body"), (0, u "()[B"), (0, .methodref 40 41), (0, .class_ 42), (0, .nameAndType 43 44), (0, u "com/example/consentry/consentry/server/ExchangeWithBodyPinLaw"), (0, u "sameBytes"), (0, u "([B[B)Z"), (0, .methodref 12 46), (0, .nameAndType 47 48), (0, u "bodyCut"), (0, u "()Z"), (3, u "law"), (0, u "(IIIII)Z")] 4

def k1m0 : Method := { name := "<init>", desc := "()V", sig := { parameters := [], returnType := none }, accessFlags := 1, code := none }
def k1c1 : Code := { maxStack := 3, maxLocals := 2, code := method_2_code, exceptionTable := #[], attributes := #[] }
def k1m1 : Method := { name := "sameBytes", desc := "([B[B)Z", sig := { parameters := [(.array .byte), (.array .byte)], returnType := some .boolean }, accessFlags := 10, code := some k1c1 }
def k1c2 : Code := { maxStack := 8, maxLocals := 24, code := code, exceptionTable := #[], attributes := #[] }
def k1m2 : Method := { name := "law", desc := "(IIIII)Z", sig := { parameters := [.int, .int, .int, .int, .int], returnType := some .boolean }, accessFlags := 9, code := some k1c2 }
/-- com/example/consentry/consentry/server/ExchangeWithBodyPinLaw -/
def k1 : Class := { plain "com/example/consentry/consentry/server/ExchangeWithBodyPinLaw" (some 0) with
  accessFlags := 49
  interfaces := #[]
  cf := some (fileOf pool1 40 #[] #[{ accessFlags := 1, nameIndex := 5, descriptorIndex := 6, attributes := #[] }, { accessFlags := 10, nameIndex := 43, descriptorIndex := 44, attributes := #[] }, { accessFlags := 9, nameIndex := 52, descriptorIndex := 53, attributes := #[] }] 49 2 #[] #[])
  fields := #[]
  methods := #[k1m0, k1m1, k1m2]
  instanceTypes := #[]
  staticTypes := #[]
  resolved := Array.replicate 58 none
  statics := none }

def pool2 : Array CpInfo := pool [(1, .class_ 2), (0, u "java/io/Serializable"), (0, .class_ 4), (0, u "java/lang/Object")] 2

/-- java/io/Serializable -/
def k2 : Class := { plain "java/io/Serializable" (some 0) with
  accessFlags := 1537
  interfaces := #[]
  cf := some (fileOf pool2 1 #[] #[] 1537 3 #[] #[])
  fields := #[]
  methods := #[]
  instanceTypes := #[]
  staticTypes := #[]
  resolved := Array.replicate 7 none
  statics := none }

def pool3 : Array CpInfo := pool [(1, .class_ 2), (0, u "java/lang/Comparable"), (0, .class_ 4), (0, u "java/lang/Object")] 7

/-- java/lang/Comparable -/
def k3 : Class := { plain "java/lang/Comparable" (some 0) with
  accessFlags := 1537
  interfaces := #[]
  cf := some (fileOf pool3 1 #[] #[] 1537 3 #[] #[])
  fields := #[]
  methods := #[]
  instanceTypes := #[]
  staticTypes := #[]
  resolved := Array.replicate 12 none
  statics := none }

def pool4 : Array CpInfo := pool [(2, .class_ 4), (1, u "java/lang/CharSequence"), (42, .class_ 48), (0, u "java/lang/CharSequence$1CodePointIterator"), (10, .class_ 60), (0, u "java/lang/CharSequence$1CharIterator"), (5, .class_ 67), (0, u "java/lang/Object")] 63

/-- java/lang/CharSequence -/
def k4 : Class := { plain "java/lang/CharSequence" (some 0) with
  accessFlags := 1537
  interfaces := #[]
  cf := some (fileOf pool4 2 #[.nestMembers #[47, 59]] #[] 1537 66 #[] #[])
  fields := #[]
  methods := #[]
  instanceTypes := #[]
  staticTypes := #[]
  resolved := Array.replicate 131 none
  statics := none }

def pool5 : Array CpInfo := pool [(1, .class_ 2), (0, u "java/lang/constant/Constable"), (0, .class_ 4), (0, u "java/lang/Object")] 6

/-- java/lang/constant/Constable -/
def k5 : Class := { plain "java/lang/constant/Constable" (some 0) with
  accessFlags := 1537
  interfaces := #[]
  cf := some (fileOf pool5 1 #[] #[] 1537 3 #[] #[])
  fields := #[]
  methods := #[]
  instanceTypes := #[]
  staticTypes := #[]
  resolved := Array.replicate 11 none
  statics := none }

def pool6 : Array CpInfo := pool [(1, .class_ 2), (0, u "java/lang/constant/ConstantDesc"), (0, .class_ 4), (0, u "java/lang/Object")] 32

/-- java/lang/constant/ConstantDesc -/
def k6 : Class := { plain "java/lang/constant/ConstantDesc" (some 0) with
  accessFlags := 1537
  interfaces := #[]
  cf := some (fileOf pool6 1 #[] #[] 1537 3 #[] #[])
  fields := #[]
  methods := #[]
  instanceTypes := #[]
  staticTypes := #[]
  resolved := Array.replicate 37 none
  statics := none }

def pool7 : Array CpInfo := pool [(1, .methodref 2 3), (0, .class_ 4), (0, .nameAndType 5 6), (0, u "java/lang/Object"), (0, u "<init>"), (0, u "()V"), (2, .fieldref 10 11), (0, .class_ 12), (0, .nameAndType 13 14), (0, u "java/lang/String"), (0, u "value"), (0, u "[B"), (0, .fieldref 10 16), (0, .nameAndType 17 18), (0, u "coder"), (0, u "B"), (2, u "hash"), (0, u "I"), (2, u "hashIsZero"), (0, u "Z"), (0, .methodref 10 28), (0, .nameAndType 5 29), (0, u "([CIILjava/lang/Void;)V"), (8, .fieldref 10 39), (0, .nameAndType 40 26), (0, u "COMPACT_STRINGS"), (1, .class_ 44), (1, u "java/lang/StringUTF16"), (0, u "compress"), (1, .methodref 42 48), (0, .nameAndType 49 50), (0, u "coderFromArrayLen"), (0, u "([BI)B"), (126, .methodref 42 178), (0, .nameAndType 45 179), (0, u "([CII)[B"), (363, u "equals"), (29, u "(Ljava/lang/Object;)Z"), (1, .class_ 576), (0, u "java/lang/CharSequence"), (22, u "CASE_INSENSITIVE_ORDER"), (0, u "Ljava/util/Comparator;"), (409, u "([C)V"), (90, u "serialPersistentFields"), (0, u "[Ljava/io/ObjectStreamField;"), (0, .class_ 1104), (0, u "java/lang/String$CaseInsensitiveComparator"), (1, .class_ 1107), (0, u "java/io/Serializable"), (0, .class_ 1109), (0, u "java/lang/Comparable"), (0, .class_ 1111), (0, u "java/lang/constant/Constable"), (0, .class_ 1113), (0, u "java/lang/constant/ConstantDesc"), (2, u "serialVersionUID"), (0, u "J"), (3, u "REPL"), (0, u "C"), (2, u "LATIN1"), (1, u "UTF16")] 323

def k7m0 : Method := { name := "<init>", desc := "()V", sig := { parameters := [], returnType := none }, accessFlags := 1, code := none }
def k7c1 : Code := { maxStack := 5, maxLocals := 2, code := jdk_42_method_3_code, exceptionTable := #[], attributes := #[] }
def k7m1 : Method := { name := "<init>", desc := "([C)V", sig := { parameters := [(.array .char)], returnType := none }, accessFlags := 1, code := some k7c1 }
def k7c2 : Code := { maxStack := 2, maxLocals := 3, code := jdk_42_method_66_code, exceptionTable := #[], attributes := #[] }
def k7m2 : Method := { name := "equals", desc := "(Ljava/lang/Object;)Z", sig := { parameters := [(.object "java/lang/Object")], returnType := some .boolean }, accessFlags := 1, code := some k7c2 }
def k7c3 : Code := { maxStack := 4, maxLocals := 6, code := jdk_42_method_149_code, exceptionTable := #[], attributes := #[] }
def k7m3 : Method := { name := "<init>", desc := "([CIILjava/lang/Void;)V", sig := { parameters := [(.array .char), .int, .int, (.object "java/lang/Void")], returnType := none }, accessFlags := 2, code := some k7c3 }
/-- java/lang/String -/
def k7 : Class := { plain "java/lang/String" (some 0) with
  accessFlags := 49
  interfaces := #[2, 3, 4, 5, 6]
  cf := some (fileOf pool7 10 #[.nestMembers #[1103]] #[{ accessFlags := 1, nameIndex := 5, descriptorIndex := 6, attributes := #[] }, { accessFlags := 1, nameIndex := 5, descriptorIndex := 1010, attributes := #[] }, { accessFlags := 1, nameIndex := 543, descriptorIndex := 573, attributes := #[] }, { accessFlags := 2, nameIndex := 5, descriptorIndex := 29, attributes := #[] }] 49 2 #[1106, 1108, 575, 1110, 1112] #[{ accessFlags := 18, nameIndex := 13, descriptorIndex := 14, attributes := #[] }, { accessFlags := 18, nameIndex := 17, descriptorIndex := 18, attributes := #[] }, { accessFlags := 2, nameIndex := 21, descriptorIndex := 22, attributes := #[] }, { accessFlags := 2, nameIndex := 25, descriptorIndex := 26, attributes := #[] }, { accessFlags := 26, nameIndex := 1116, descriptorIndex := 1117, attributes := #[] }, { accessFlags := 24, nameIndex := 40, descriptorIndex := 26, attributes := #[] }, { accessFlags := 26, nameIndex := 1101, descriptorIndex := 1102, attributes := #[] }, { accessFlags := 26, nameIndex := 1121, descriptorIndex := 1122, attributes := #[] }, { accessFlags := 25, nameIndex := 599, descriptorIndex := 600, attributes := #[] }, { accessFlags := 24, nameIndex := 1125, descriptorIndex := 18, attributes := #[] }, { accessFlags := 24, nameIndex := 1127, descriptorIndex := 18, attributes := #[] }])
  fields := #[{ name := "value", type := (.array .byte), accessFlags := 18, slot := 0, constantValue := 0 }, { name := "coder", type := .byte, accessFlags := 18, slot := 1, constantValue := 0 }, { name := "hash", type := .int, accessFlags := 2, slot := 2, constantValue := 0 }, { name := "hashIsZero", type := .boolean, accessFlags := 2, slot := 3, constantValue := 0 }, { name := "serialVersionUID", type := .long, accessFlags := 26, slot := 0, constantValue := 0 }, { name := "COMPACT_STRINGS", type := .boolean, accessFlags := 24, slot := 1, constantValue := 0 }, { name := "serialPersistentFields", type := (.array (.object "java/io/ObjectStreamField")), accessFlags := 26, slot := 2, constantValue := 0 }, { name := "REPL", type := .char, accessFlags := 26, slot := 3, constantValue := 0 }, { name := "CASE_INSENSITIVE_ORDER", type := (.object "java/util/Comparator"), accessFlags := 25, slot := 4, constantValue := 0 }, { name := "LATIN1", type := .byte, accessFlags := 24, slot := 5, constantValue := 0 }, { name := "UTF16", type := .byte, accessFlags := 24, slot := 6, constantValue := 0 }]
  methods := #[k7m0, k7m1, k7m2, k7m3]
  instanceTypes := #[(.array .byte), .byte, .int, .boolean]
  staticTypes := #[.long, .boolean, (.array (.object "java/io/ObjectStreamField")), .char, (.object "java/util/Comparator"), .byte, .byte]
  resolved := Array.replicate 1451 none
  statics := some 0 }

def pool8 : Array CpInfo := pool [(6, .class_ 8), (1, u "java/lang/Object"), (0, u "<init>"), (0, u "()V"), (1, .class_ 14), (1, u "java/lang/StringUTF16"), (31, u "$assertionsDisabled"), (0, u "Z"), (13, u "HI_BYTE_SHIFT"), (0, u "I"), (2, u "LO_BYTE_SHIFT"), (49, .methodref 12 116), (0, .nameAndType 117 118), (0, u "compress"), (0, u "([CI[BII)I"), (3, u "([CII)[B"), (138, u "coderFromArrayLen"), (0, u "([BI)B"), (106, .class_ 371), (1, u "java/lang/StringUTF16$LinesSpliterator"), (58, u "MAX_LENGTH"), (196, .class_ 628), (0, u "java/lang/StringUTF16$CodePointsSpliterator"), (0, .class_ 630), (0, u "java/lang/StringUTF16$CharsSpliterator")] 4

def k8m0 : Method := { name := "<init>", desc := "()V", sig := { parameters := [], returnType := none }, accessFlags := 0, code := none }
def k8c1 : Code := { maxStack := 2, maxLocals := 2, code := jdk_52_method_15_code, exceptionTable := #[], attributes := #[] }
def k8m1 : Method := { name := "coderFromArrayLen", desc := "([BI)B", sig := { parameters := [(.array .byte), .int], returnType := some .byte }, accessFlags := 8, code := some k8c1 }
def k8c2 : Code := { maxStack := 5, maxLocals := 6, code := jdk_52_method_16_code, exceptionTable := #[], attributes := #[] }
def k8m2 : Method := { name := "compress", desc := "([CII)[B", sig := { parameters := [(.array .char), .int, .int], returnType := some (.array .byte) }, accessFlags := 9, code := some k8c2 }
def k8c3 : Code := { maxStack := 3, maxLocals := 7, code := jdk_52_method_21_code, exceptionTable := #[], attributes := #[] }
def k8m3 : Method := { name := "compress", desc := "([CI[BII)I", sig := { parameters := [(.array .char), .int, (.array .byte), .int, .int], returnType := some .int }, accessFlags := 9, code := some k8c3 }
/-- java/lang/StringUTF16 -/
def k8 : Class := { plain "java/lang/StringUTF16" (some 0) with
  accessFlags := 48
  interfaces := #[]
  cf := some (fileOf pool8 12 #[.nestMembers #[627, 629, 369]] #[{ accessFlags := 0, nameIndex := 9, descriptorIndex := 10, attributes := #[] }, { accessFlags := 8, nameIndex := 261, descriptorIndex := 262, attributes := #[] }, { accessFlags := 9, nameIndex := 117, descriptorIndex := 122, attributes := #[] }, { accessFlags := 9, nameIndex := 117, descriptorIndex := 118, attributes := #[] }] 48 6 #[] #[{ accessFlags := 26, nameIndex := 61, descriptorIndex := 62, attributes := #[] }, { accessFlags := 26, nameIndex := 65, descriptorIndex := 62, attributes := #[] }, { accessFlags := 24, nameIndex := 430, descriptorIndex := 62, attributes := #[] }, { accessFlags := 4120, nameIndex := 46, descriptorIndex := 47, attributes := #[] }])
  fields := #[{ name := "HI_BYTE_SHIFT", type := .int, accessFlags := 26, slot := 0, constantValue := 0 }, { name := "LO_BYTE_SHIFT", type := .int, accessFlags := 26, slot := 1, constantValue := 0 }, { name := "MAX_LENGTH", type := .int, accessFlags := 24, slot := 2, constantValue := 0 }, { name := "$assertionsDisabled", type := .boolean, accessFlags := 4120, slot := 3, constantValue := 0 }]
  methods := #[k8m0, k8m1, k8m2, k8m3]
  instanceTypes := #[]
  staticTypes := #[.int, .int, .int, .boolean]
  resolved := Array.replicate 635 none
  statics := none }

def pool9 : Array CpInfo := pool [(1, .methodref 2 3), (0, .class_ 4), (0, .nameAndType 5 6), (0, u "java/lang/Object"), (0, u "<init>"), (0, u "()V"), (0, .fieldref 8 9), (0, .class_ 10), (0, .nameAndType 11 12), (0, u "com/example/consentry/consentry/server/Exchange"), (0, u "method"), (0, u "Ljava/lang/String;"), (0, .fieldref 8 14), (0, .nameAndType 15 12), (0, u "rawPath"), (0, .fieldref 8 17), (0, .nameAndType 18 12), (0, u "rawQuery"), (0, .fieldref 8 20), (0, .nameAndType 21 22), (0, u "fields"), (0, u "Ljava/util/Map;"), (0, .fieldref 8 24), (0, .nameAndType 25 26), (0, u "body"), (0, u "[B"), (0, .fieldref 8 28), (0, .nameAndType 29 30), (0, u "bodyCut"), (0, u "Z"), (0, .methodref 8 32), (0, .nameAndType 5 33), (0, u "(Ljava/lang/String;Ljava/lang/String;Ljava/lang/String;Ljava/util/Map;[BZ)V"), (8, u "()Z"), (31, u "withBody"), (0, u "([BZ)Lcom/example/consentry/consentry/server/Exchange;"), (0, u "()Ljava/lang/String;"), (4, u "()[B")] 2

def k9c0 : Code := { maxStack := 2, maxLocals := 7, code := prog_60_method_1_code, exceptionTable := #[], attributes := #[] }
def k9m0 : Method := { name := "<init>", desc := "(Ljava/lang/String;Ljava/lang/String;Ljava/lang/String;Ljava/util/Map;[BZ)V", sig := { parameters := [(.object "java/lang/String"), (.object "java/lang/String"), (.object "java/lang/String"), (.object "java/util/Map"), (.array .byte), .boolean], returnType := none }, accessFlags := 0, code := some k9c0 }
def k9c1 : Code := { maxStack := 8, maxLocals := 3, code := prog_60_method_2_code, exceptionTable := #[], attributes := #[] }
def k9m1 : Method := { name := "withBody", desc := "([BZ)Lcom/example/consentry/consentry/server/Exchange;", sig := { parameters := [(.array .byte), .boolean], returnType := some (.object "com/example/consentry/consentry/server/Exchange") }, accessFlags := 0, code := some k9c1 }
def k9c2 : Code := { maxStack := 1, maxLocals := 1, code := prog_60_method_3_code, exceptionTable := #[], attributes := #[] }
def k9m2 : Method := { name := "method", desc := "()Ljava/lang/String;", sig := { parameters := [], returnType := some (.object "java/lang/String") }, accessFlags := 0, code := some k9c2 }
def k9c3 : Code := { maxStack := 1, maxLocals := 1, code := prog_60_method_4_code, exceptionTable := #[], attributes := #[] }
def k9m3 : Method := { name := "rawPath", desc := "()Ljava/lang/String;", sig := { parameters := [], returnType := some (.object "java/lang/String") }, accessFlags := 0, code := some k9c3 }
def k9c4 : Code := { maxStack := 1, maxLocals := 1, code := prog_60_method_5_code, exceptionTable := #[], attributes := #[] }
def k9m4 : Method := { name := "rawQuery", desc := "()Ljava/lang/String;", sig := { parameters := [], returnType := some (.object "java/lang/String") }, accessFlags := 0, code := some k9c4 }
def k9c5 : Code := { maxStack := 1, maxLocals := 1, code := prog_60_method_8_code, exceptionTable := #[], attributes := #[] }
def k9m5 : Method := { name := "body", desc := "()[B", sig := { parameters := [], returnType := some (.array .byte) }, accessFlags := 0, code := some k9c5 }
def k9c6 : Code := { maxStack := 1, maxLocals := 1, code := prog_60_method_9_code, exceptionTable := #[], attributes := #[] }
def k9m6 : Method := { name := "bodyCut", desc := "()Z", sig := { parameters := [], returnType := some .boolean }, accessFlags := 0, code := some k9c6 }
/-- com/example/consentry/consentry/server/Exchange -/
def k9 : Class := { plain "com/example/consentry/consentry/server/Exchange" (some 0) with
  accessFlags := 48
  interfaces := #[]
  cf := some (fileOf pool9 8 #[] #[{ accessFlags := 0, nameIndex := 5, descriptorIndex := 33, attributes := #[] }, { accessFlags := 0, nameIndex := 74, descriptorIndex := 75, attributes := #[] }, { accessFlags := 0, nameIndex := 11, descriptorIndex := 76, attributes := #[] }, { accessFlags := 0, nameIndex := 15, descriptorIndex := 76, attributes := #[] }, { accessFlags := 0, nameIndex := 18, descriptorIndex := 76, attributes := #[] }, { accessFlags := 0, nameIndex := 25, descriptorIndex := 81, attributes := #[] }, { accessFlags := 0, nameIndex := 29, descriptorIndex := 42, attributes := #[] }] 48 2 #[] #[{ accessFlags := 18, nameIndex := 11, descriptorIndex := 12, attributes := #[] }, { accessFlags := 18, nameIndex := 15, descriptorIndex := 12, attributes := #[] }, { accessFlags := 18, nameIndex := 18, descriptorIndex := 12, attributes := #[] }, { accessFlags := 18, nameIndex := 21, descriptorIndex := 22, attributes := #[] }, { accessFlags := 18, nameIndex := 25, descriptorIndex := 26, attributes := #[] }, { accessFlags := 18, nameIndex := 29, descriptorIndex := 30, attributes := #[] }])
  fields := #[{ name := "method", type := (.object "java/lang/String"), accessFlags := 18, slot := 0, constantValue := 0 }, { name := "rawPath", type := (.object "java/lang/String"), accessFlags := 18, slot := 1, constantValue := 0 }, { name := "rawQuery", type := (.object "java/lang/String"), accessFlags := 18, slot := 2, constantValue := 0 }, { name := "fields", type := (.object "java/util/Map"), accessFlags := 18, slot := 3, constantValue := 0 }, { name := "body", type := (.array .byte), accessFlags := 18, slot := 4, constantValue := 0 }, { name := "bodyCut", type := .boolean, accessFlags := 18, slot := 5, constantValue := 0 }]
  methods := #[k9m0, k9m1, k9m2, k9m3, k9m4, k9m5, k9m6]
  instanceTypes := #[(.object "java/lang/String"), (.object "java/lang/String"), (.object "java/lang/String"), (.object "java/util/Map"), (.array .byte), .boolean]
  staticTypes := #[]
  resolved := Array.replicate 84 none
  statics := none }

def pool10 : Array CpInfo := pool [(4, .class_ 6), (1, u "java/lang/Object"), (0, u "<init>"), (0, u "()V"), (5, .class_ 16), (1, u "java/lang/StringLatin1"), (104, u "$assertionsDisabled"), (0, u "Z"), (98, .class_ 223), (1, u "java/lang/StringLatin1$LinesSpliterator"), (166, .class_ 391), (0, u "java/lang/StringLatin1$CharsSpliterator")] 3

def k10m0 : Method := { name := "<init>", desc := "()V", sig := { parameters := [], returnType := none }, accessFlags := 0, code := none }
/-- java/lang/StringLatin1 -/
def k10 : Class := { plain "java/lang/StringLatin1" (some 0) with
  accessFlags := 48
  interfaces := #[]
  cf := some (fileOf pool10 14 #[.nestMembers #[390, 221]] #[{ accessFlags := 0, nameIndex := 7, descriptorIndex := 8, attributes := #[] }] 48 4 #[] #[{ accessFlags := 4120, nameIndex := 121, descriptorIndex := 122, attributes := #[] }])
  fields := #[{ name := "$assertionsDisabled", type := .boolean, accessFlags := 4120, slot := 0, constantValue := 0 }]
  methods := #[k10m0]
  instanceTypes := #[]
  staticTypes := #[.boolean]
  resolved := Array.replicate 395 none
  statics := none }

def pool11 : Array CpInfo := pool [(2, .class_ 4), (1, u "java/lang/Object"), (0, u "<init>"), (0, u "()V"), (17, .class_ 26), (1, u "jdk/internal/util/Preconditions"), (28, .class_ 56), (0, u "jdk/internal/util/Preconditions$4"), (57, .class_ 115), (0, u "jdk/internal/util/Preconditions$1"), (7, u "SIOOBE_FORMATTER"), (0, u "Ljava/util/function/BiFunction;"), (0, .class_ 126), (0, u "jdk/internal/util/Preconditions$2"), (3, u "AIOOBE_FORMATTER"), (0, .class_ 132), (0, u "jdk/internal/util/Preconditions$3"), (3, u "IOOBE_FORMATTER")] 57

def k11m0 : Method := { name := "<init>", desc := "()V", sig := { parameters := [], returnType := none }, accessFlags := 1, code := none }
/-- jdk/internal/util/Preconditions -/
def k11 : Class := { plain "jdk/internal/util/Preconditions" (some 0) with
  accessFlags := 33
  interfaces := #[]
  cf := some (fileOf pool11 24 #[.nestMembers #[55, 131, 125, 114]] #[{ accessFlags := 1, nameIndex := 5, descriptorIndex := 6, attributes := #[] }] 33 2 #[] #[{ accessFlags := 25, nameIndex := 123, descriptorIndex := 124, attributes := #[] }, { accessFlags := 25, nameIndex := 130, descriptorIndex := 124, attributes := #[] }, { accessFlags := 25, nameIndex := 136, descriptorIndex := 124, attributes := #[] }])
  fields := #[{ name := "SIOOBE_FORMATTER", type := (.object "java/util/function/BiFunction"), accessFlags := 25, slot := 0, constantValue := 0 }, { name := "AIOOBE_FORMATTER", type := (.object "java/util/function/BiFunction"), accessFlags := 25, slot := 1, constantValue := 0 }, { name := "IOOBE_FORMATTER", type := (.object "java/util/function/BiFunction"), accessFlags := 25, slot := 2, constantValue := 0 }]
  methods := #[k11m0]
  instanceTypes := #[]
  staticTypes := #[(.object "java/util/function/BiFunction"), (.object "java/util/function/BiFunction"), (.object "java/util/function/BiFunction")]
  resolved := Array.replicate 194 none
  statics := some 1 }

def pool12 : Array CpInfo := pool [(9, u "<init>"), (6, .class_ 18), (1, u "java/lang/Object"), (0, u "()V"), (1, .class_ 23), (1, u "jdk/internal/util/ArraysSupport"), (0, u "LOG2_ARRAY_LONG_INDEX_SCALE"), (0, u "I"), (2, u "U"), (0, u "Ljdk/internal/misc/Unsafe;"), (8, u "BIG_ENDIAN"), (0, u "Z"), (8, u "LOG2_BYTE_BIT_SIZE"), (4, u "LOG2_ARRAY_INT_INDEX_SCALE"), (54, u "JLA"), (0, u "Ljdk/internal/access/JavaLangAccess;"), (11, u "LOG2_ARRAY_BOOLEAN_INDEX_SCALE"), (9, u "LOG2_ARRAY_BYTE_INDEX_SCALE"), (5, u "LOG2_ARRAY_CHAR_INDEX_SCALE"), (5, u "LOG2_ARRAY_SHORT_INDEX_SCALE"), (18, u "LOG2_ARRAY_FLOAT_INDEX_SCALE"), (24, u "LOG2_ARRAY_DOUBLE_INDEX_SCALE"), (89, u "T_BOOLEAN"), (2, u "T_CHAR"), (1, u "T_FLOAT"), (1, u "T_DOUBLE"), (1, u "T_BYTE"), (1, u "T_SHORT"), (1, u "T_INT"), (1, u "T_LONG"), (1, u "SOFT_MAX_ARRAY_LENGTH")] 83

def k12m0 : Method := { name := "<init>", desc := "()V", sig := { parameters := [], returnType := none }, accessFlags := 2, code := none }
/-- jdk/internal/util/ArraysSupport -/
def k12 : Class := { plain "jdk/internal/util/ArraysSupport" (some 0) with
  accessFlags := 33
  interfaces := #[]
  cf := some (fileOf pool12 21 #[] #[{ accessFlags := 2, nameIndex := 9, descriptorIndex := 19, attributes := #[] }] 33 16 #[] #[{ accessFlags := 24, nameIndex := 28, descriptorIndex := 29, attributes := #[] }, { accessFlags := 26, nameIndex := 38, descriptorIndex := 39, attributes := #[] }, { accessFlags := 25, nameIndex := 121, descriptorIndex := 25, attributes := #[] }, { accessFlags := 25, nameIndex := 131, descriptorIndex := 25, attributes := #[] }, { accessFlags := 25, nameIndex := 137, descriptorIndex := 25, attributes := #[] }, { accessFlags := 25, nameIndex := 143, descriptorIndex := 25, attributes := #[] }, { accessFlags := 25, nameIndex := 53, descriptorIndex := 25, attributes := #[] }, { accessFlags := 25, nameIndex := 24, descriptorIndex := 25, attributes := #[] }, { accessFlags := 25, nameIndex := 162, descriptorIndex := 25, attributes := #[] }, { accessFlags := 25, nameIndex := 187, descriptorIndex := 25, attributes := #[] }, { accessFlags := 26, nameIndex := 48, descriptorIndex := 25, attributes := #[] }, { accessFlags := 25, nameIndex := 277, descriptorIndex := 25, attributes := #[] }, { accessFlags := 25, nameIndex := 280, descriptorIndex := 25, attributes := #[] }, { accessFlags := 25, nameIndex := 282, descriptorIndex := 25, attributes := #[] }, { accessFlags := 25, nameIndex := 284, descriptorIndex := 25, attributes := #[] }, { accessFlags := 25, nameIndex := 286, descriptorIndex := 25, attributes := #[] }, { accessFlags := 25, nameIndex := 288, descriptorIndex := 25, attributes := #[] }, { accessFlags := 25, nameIndex := 290, descriptorIndex := 25, attributes := #[] }, { accessFlags := 25, nameIndex := 292, descriptorIndex := 25, attributes := #[] }, { accessFlags := 26, nameIndex := 108, descriptorIndex := 109, attributes := #[] }, { accessFlags := 25, nameIndex := 294, descriptorIndex := 25, attributes := #[] }])
  fields := #[{ name := "U", type := (.object "jdk/internal/misc/Unsafe"), accessFlags := 24, slot := 0, constantValue := 0 }, { name := "BIG_ENDIAN", type := .boolean, accessFlags := 26, slot := 1, constantValue := 0 }, { name := "LOG2_ARRAY_BOOLEAN_INDEX_SCALE", type := .int, accessFlags := 25, slot := 2, constantValue := 0 }, { name := "LOG2_ARRAY_BYTE_INDEX_SCALE", type := .int, accessFlags := 25, slot := 3, constantValue := 0 }, { name := "LOG2_ARRAY_CHAR_INDEX_SCALE", type := .int, accessFlags := 25, slot := 4, constantValue := 0 }, { name := "LOG2_ARRAY_SHORT_INDEX_SCALE", type := .int, accessFlags := 25, slot := 5, constantValue := 0 }, { name := "LOG2_ARRAY_INT_INDEX_SCALE", type := .int, accessFlags := 25, slot := 6, constantValue := 0 }, { name := "LOG2_ARRAY_LONG_INDEX_SCALE", type := .int, accessFlags := 25, slot := 7, constantValue := 0 }, { name := "LOG2_ARRAY_FLOAT_INDEX_SCALE", type := .int, accessFlags := 25, slot := 8, constantValue := 0 }, { name := "LOG2_ARRAY_DOUBLE_INDEX_SCALE", type := .int, accessFlags := 25, slot := 9, constantValue := 0 }, { name := "LOG2_BYTE_BIT_SIZE", type := .int, accessFlags := 26, slot := 10, constantValue := 0 }, { name := "T_BOOLEAN", type := .int, accessFlags := 25, slot := 11, constantValue := 0 }, { name := "T_CHAR", type := .int, accessFlags := 25, slot := 12, constantValue := 0 }, { name := "T_FLOAT", type := .int, accessFlags := 25, slot := 13, constantValue := 0 }, { name := "T_DOUBLE", type := .int, accessFlags := 25, slot := 14, constantValue := 0 }, { name := "T_BYTE", type := .int, accessFlags := 25, slot := 15, constantValue := 0 }, { name := "T_SHORT", type := .int, accessFlags := 25, slot := 16, constantValue := 0 }, { name := "T_INT", type := .int, accessFlags := 25, slot := 17, constantValue := 0 }, { name := "T_LONG", type := .int, accessFlags := 25, slot := 18, constantValue := 0 }, { name := "JLA", type := (.object "jdk/internal/access/JavaLangAccess"), accessFlags := 26, slot := 19, constantValue := 0 }, { name := "SOFT_MAX_ARRAY_LENGTH", type := .int, accessFlags := 25, slot := 20, constantValue := 0 }]
  methods := #[k12m0]
  instanceTypes := #[]
  staticTypes := #[(.object "jdk/internal/misc/Unsafe"), .boolean, .int, .int, .int, .int, .int, .int, .int, .int, .int, .int, .int, .int, .int, .int, .int, .int, .int, (.object "jdk/internal/access/JavaLangAccess"), .int]
  resolved := Array.replicate 378 none
  statics := none }

def pool13 : Array CpInfo := pool [(1, u "java/lang/Cloneable"), (0, .class_ 1), (0, u "java/lang/Object"), (0, .class_ 3)] 3

/-- java/lang/Cloneable -/
def k13 : Class := { plain "java/lang/Cloneable" (some 0) with
  accessFlags := 1537
  interfaces := #[]
  cf := some (fileOf pool13 2 #[] #[] 1537 4 #[] #[])
  fields := #[]
  methods := #[]
  instanceTypes := #[]
  staticTypes := #[]
  resolved := Array.replicate 8 none
  statics := none }

/-- the primitive byte -/
def k14 : Class := { plain "byte" none with kind := .primitive 'B', accessFlags := 0x411 }
/-- [B -/
def k15 : Class := { plain "[B" (some 0) with kind := .array 14 .byte, interfaces := #[13, 2], accessFlags := 1041 }

/-- the primitive char -/
def k16 : Class := { plain "char" none with kind := .primitive 'C', accessFlags := 0x411 }
/-- [C -/
def k17 : Class := { plain "[C" (some 0) with kind := .array 16 .char, interfaces := #[13, 2], accessFlags := 1041 }

/-- the primitive int -/
def k18 : Class := { plain "int" none with kind := .primitive 'I', accessFlags := 0x411 }
/-- [I -/
def k19 : Class := { plain "[I" (some 0) with kind := .array 18 .int, interfaces := #[13, 2], accessFlags := 1041 }

def heap : Heap := #[{ cls := 7, slots := #[.long 0, .int 1, .null, .int 0, .null, .int 0, .int 0], vm := .statics 7 },
  { cls := 11, slots := #[.null, .null, .null], vm := .statics 11 }]
def classes : Array Class := #[k0, k1, k2, k3, k4, k5, k6, k7, k8, k9, k10, k11, k12, k13, k14, k15, k16, k17, k18, k19]
def interned : List (Array UInt16 × Addr) := []
def slotsUsed : Nat := 10
def theMethod : MethodId := ⟨1, 2⟩
def args0 : Array Value := #[.int 5, .int 1, .int 97, .int 98, .int 3]
def aboutOver (below : List Frame) : State where
  vm := { classes := classes, interned := interned.toArray }
  heap := heap
  slotsUsed := slotsUsed
  threads := #[{ frames := .invoking theMethod args0 :: below }]
def below0 : List Frame := [.native { method := ⟨0, 0⟩, args := #[] }]
def about1 : State := aboutOver below0
def p0 : Program := .bare "" "" ""
def e0 : Env := launch0.env 0 0 0
theorem w_frames : about1.frames = Frame.invoking theMethod args0 :: below0 := rfl
set_option maxRecDepth 65536 in
theorem w_args : argsFit about1.vm theMethod args0 = true := by decide +kernel
set_option maxRecDepth 65536 in
theorem w_heap : heapFits about1 = true := by decide +kernel
set_option maxRecDepth 65536 in
theorem w_runnable : about1.curStatus? = some .runnable := by decide +kernel
set_option maxRecDepth 65536 in
theorem w_alone : about1.alone = true := by decide +kernel
set_option maxRecDepth 65536 in
theorem w_named : about1.methodNamed? x = some theMethod := by decide +kernel
set_option maxRecDepth 65536 in
theorem w_hears : about1.hears theMethod below0 = true := by decide +kernel
set_option maxRecDepth 65536 in
theorem w_ripe : about1.ripe theMethod args0 below0 = true := by decide +kernel
theorem w_running : about1.status = .running := rfl
set_option maxRecDepth 65536 in
theorem w_room : about1.hasRoom e0.platform room_1 = true :=
  launch0.hasRoom_least _ room_1 (by decide +kernel) (by decide +kernel) (by decide +kernel) (by decide +kernel) (by decide +kernel) (by decide +kernel)
theorem allAtoms_all (ts : List Jvm.Cond) (a : Array Jvm.Value) (st : Jvm.State) : (allAtoms ts).before a st = ts.all (fun c => c.before a st) := by
  induction ts with
  | nil => rfl
  | cons c t ih =>
    show (Jvm.Cond.and c (allAtoms t)).before a st = _
    rw [Jvm.Cond.before_and, ih, List.all_cons]
def words1 : List Jvm.Cond := Jvm.Cond.code x code maxLocals ret :: tables_1
/-- a 'code' word, met by the world's own term for the bytes: nothing is compared byte by byte -/
theorem code_word {y : MethodName} {bytes : ByteArray} {mx : Nat} {rt : Option FieldType} {a : Array Value} {s : State} {m : MethodId} {meth : Method} {c : Code} (h1 : s.methodNamed? y = some m) (h2 : s.vm.method? m = some meth) (h3 : meth.code = some c) (h4 : c.code = bytes)
    (h5 : (c.maxLocals == mx && c.exceptionTable.isEmpty && decide (c.maxStack ≤ mostOperands) && decide (meth.sig.returnType = rt) && !meth.locks && decide (parseMethodDescriptor y.desc = some meth.sig)) = true) : (Jvm.Cond.code y bytes mx rt).before a s = true := by
  simp only [Bool.and_eq_true, beq_iff_eq, Bool.not_eq_true', decide_eq_true_eq] at h5
  obtain ⟨⟨⟨⟨⟨g1, g2⟩, g3⟩, g4⟩, g5⟩, g6⟩ := h5
  simp [Cond.before, Cond.holds, Cond.value, h1, h2, h3, h4, g1, g2, g3, g4, g5, g6]
def isCode : Jvm.Cond → Bool
  | .code _ _ _ _ => true
  | _ => false
theorem all_split {L : List Jvm.Cond} {P : Jvm.Cond → Bool} (h1 : L.all (fun c => isCode c || P c) = true) (h2 : ∀ c ∈ L.filter isCode, P c = true) : L.all P = true := by
  refine List.all_eq_true.mpr fun c hc => ?_
  have h := List.all_eq_true.mp h1 c hc
  rcases Bool.eq_false_or_eq_true (isCode c) with hi | hi
  · exact h2 c (List.mem_filter.mpr ⟨hc, hi⟩)
  · simpa [hi] using h
set_option maxRecDepth 65536 in
theorem w_c0 : (Jvm.Cond.code x code maxLocals ret).before args0 about1 = true := code_word (m := ⟨1, 2⟩) (meth := k1m2) (c := k1c2) (by decide +kernel) rfl rfl rfl (by decide +kernel)
set_option maxRecDepth 65536 in
theorem w_c1 : (Jvm.Cond.code ({ cls := "java/lang/String", name := "<init>", desc := "([C)V" } : Jvm.MethodName) jdk_42_method_3_code (2 : Nat) (Option.none : Option Jvm.ClassFile.FieldType)).before args0 about1 = true := code_word (m := ⟨7, 1⟩) (meth := k7m1) (c := k7c1) (by decide +kernel) rfl rfl rfl (by decide +kernel)
set_option maxRecDepth 65536 in
theorem w_c2 : (Jvm.Cond.code ({ cls := "java/lang/String", name := "<init>", desc := "([CIILjava/lang/Void;)V" } : Jvm.MethodName) jdk_42_method_149_code (6 : Nat) (Option.none : Option Jvm.ClassFile.FieldType)).before args0 about1 = true := code_word (m := ⟨7, 3⟩) (meth := k7m3) (c := k7c3) (by decide +kernel) rfl rfl rfl (by decide +kernel)
set_option maxRecDepth 65536 in
theorem w_c3 : (Jvm.Cond.code ({ cls := "java/lang/Object", name := "<init>", desc := "()V" } : Jvm.MethodName) object_method_1_code (1 : Nat) (Option.none : Option Jvm.ClassFile.FieldType)).before args0 about1 = true := code_word (m := ⟨0, 0⟩) (meth := k0m0) (c := k0c0) (by decide +kernel) rfl rfl rfl (by decide +kernel)
set_option maxRecDepth 65536 in
theorem w_c4 : (Jvm.Cond.code ({ cls := "java/lang/StringUTF16", name := "compress", desc := "([CII)[B" } : Jvm.MethodName) jdk_52_method_16_code (6 : Nat) (Option.some (Jvm.ClassFile.FieldType.array Jvm.ClassFile.FieldType.byte))).before args0 about1 = true := code_word (m := ⟨8, 2⟩) (meth := k8m2) (c := k8c2) (by decide +kernel) rfl rfl rfl (by decide +kernel)
set_option maxRecDepth 65536 in
theorem w_c5 : (Jvm.Cond.code ({ cls := "java/lang/StringUTF16", name := "compress", desc := "([CI[BII)I" } : Jvm.MethodName) jdk_52_method_21_code (7 : Nat) (Option.some Jvm.ClassFile.FieldType.int)).before args0 about1 = true := code_word (m := ⟨8, 3⟩) (meth := k8m3) (c := k8c3) (by decide +kernel) rfl rfl rfl (by decide +kernel)
set_option maxRecDepth 65536 in
theorem w_c6 : (Jvm.Cond.code ({ cls := "java/lang/StringUTF16", name := "coderFromArrayLen", desc := "([BI)B" } : Jvm.MethodName) jdk_52_method_15_code (2 : Nat) (Option.some Jvm.ClassFile.FieldType.byte)).before args0 about1 = true := code_word (m := ⟨8, 1⟩) (meth := k8m1) (c := k8c1) (by decide +kernel) rfl rfl rfl (by decide +kernel)
set_option maxRecDepth 65536 in
theorem w_c7 : (Jvm.Cond.code ({ cls := "com/example/consentry/consentry/server/Exchange", name := "<init>", desc := "(Ljava/lang/String;Ljava/lang/String;Ljava/lang/String;Ljava/util/Map;[BZ)V" } : Jvm.MethodName) prog_60_method_1_code (7 : Nat) (Option.none : Option Jvm.ClassFile.FieldType)).before args0 about1 = true := code_word (m := ⟨9, 0⟩) (meth := k9m0) (c := k9c0) (by decide +kernel) rfl rfl rfl (by decide +kernel)
set_option maxRecDepth 65536 in
theorem w_c8 : (Jvm.Cond.code ({ cls := "com/example/consentry/consentry/server/Exchange", name := "withBody", desc := "([BZ)Lcom/example/consentry/consentry/server/Exchange;" } : Jvm.MethodName) prog_60_method_2_code (3 : Nat) (Option.some (Jvm.ClassFile.FieldType.object "com/example/consentry/consentry/server/Exchange"))).before args0 about1 = true := code_word (m := ⟨9, 1⟩) (meth := k9m1) (c := k9c1) (by decide +kernel) rfl rfl rfl (by decide +kernel)
set_option maxRecDepth 65536 in
theorem w_c9 : (Jvm.Cond.code ({ cls := "com/example/consentry/consentry/server/Exchange", name := "method", desc := "()Ljava/lang/String;" } : Jvm.MethodName) prog_60_method_3_code (1 : Nat) (Option.some (Jvm.ClassFile.FieldType.object "java/lang/String"))).before args0 about1 = true := code_word (m := ⟨9, 2⟩) (meth := k9m2) (c := k9c2) (by decide +kernel) rfl rfl rfl (by decide +kernel)
set_option maxRecDepth 65536 in
theorem w_c10 : (Jvm.Cond.code ({ cls := "java/lang/String", name := "equals", desc := "(Ljava/lang/Object;)Z" } : Jvm.MethodName) jdk_42_method_66_code (3 : Nat) (Option.some Jvm.ClassFile.FieldType.boolean)).before args0 about1 = true := code_word (m := ⟨7, 2⟩) (meth := k7m2) (c := k7c2) (by decide +kernel) rfl rfl rfl (by decide +kernel)
set_option maxRecDepth 65536 in
theorem w_c11 : (Jvm.Cond.code ({ cls := "com/example/consentry/consentry/server/Exchange", name := "rawPath", desc := "()Ljava/lang/String;" } : Jvm.MethodName) prog_60_method_4_code (1 : Nat) (Option.some (Jvm.ClassFile.FieldType.object "java/lang/String"))).before args0 about1 = true := code_word (m := ⟨9, 3⟩) (meth := k9m3) (c := k9c3) (by decide +kernel) rfl rfl rfl (by decide +kernel)
set_option maxRecDepth 65536 in
theorem w_c12 : (Jvm.Cond.code ({ cls := "com/example/consentry/consentry/server/Exchange", name := "rawQuery", desc := "()Ljava/lang/String;" } : Jvm.MethodName) prog_60_method_5_code (1 : Nat) (Option.some (Jvm.ClassFile.FieldType.object "java/lang/String"))).before args0 about1 = true := code_word (m := ⟨9, 4⟩) (meth := k9m4) (c := k9c4) (by decide +kernel) rfl rfl rfl (by decide +kernel)
set_option maxRecDepth 65536 in
theorem w_c13 : (Jvm.Cond.code ({ cls := "com/example/consentry/consentry/server/Exchange", name := "body", desc := "()[B" } : Jvm.MethodName) prog_60_method_8_code (1 : Nat) (Option.some (Jvm.ClassFile.FieldType.array Jvm.ClassFile.FieldType.byte))).before args0 about1 = true := code_word (m := ⟨9, 5⟩) (meth := k9m5) (c := k9c5) (by decide +kernel) rfl rfl rfl (by decide +kernel)
set_option maxRecDepth 65536 in
theorem w_c14 : (Jvm.Cond.code ({ cls := "com/example/consentry/consentry/server/ExchangeWithBodyPinLaw", name := "sameBytes", desc := "([B[B)Z" } : Jvm.MethodName) method_2_code (2 : Nat) (Option.some Jvm.ClassFile.FieldType.boolean)).before args0 about1 = true := code_word (m := ⟨1, 1⟩) (meth := k1m1) (c := k1c1) (by decide +kernel) rfl rfl rfl (by decide +kernel)
set_option maxRecDepth 65536 in
theorem w_c15 : (Jvm.Cond.code ({ cls := "com/example/consentry/consentry/server/Exchange", name := "bodyCut", desc := "()Z" } : Jvm.MethodName) prog_60_method_9_code (1 : Nat) (Option.some Jvm.ClassFile.FieldType.boolean)).before args0 about1 = true := code_word (m := ⟨9, 6⟩) (meth := k9m6) (c := k9c6) (by decide +kernel) rfl rfl rfl (by decide +kernel)
def codes1 : List Jvm.Cond := [Jvm.Cond.code x code maxLocals ret, Jvm.Cond.code ({ cls := "java/lang/String", name := "<init>", desc := "([C)V" } : Jvm.MethodName) jdk_42_method_3_code (2 : Nat) (Option.none : Option Jvm.ClassFile.FieldType), Jvm.Cond.code ({ cls := "java/lang/String", name := "<init>", desc := "([CIILjava/lang/Void;)V" } : Jvm.MethodName) jdk_42_method_149_code (6 : Nat) (Option.none : Option Jvm.ClassFile.FieldType), Jvm.Cond.code ({ cls := "java/lang/Object", name := "<init>", desc := "()V" } : Jvm.MethodName) object_method_1_code (1 : Nat) (Option.none : Option Jvm.ClassFile.FieldType), Jvm.Cond.code ({ cls := "java/lang/StringUTF16", name := "compress", desc := "([CII)[B" } : Jvm.MethodName) jdk_52_method_16_code (6 : Nat) (Option.some (Jvm.ClassFile.FieldType.array Jvm.ClassFile.FieldType.byte)), Jvm.Cond.code ({ cls := "java/lang/StringUTF16", name := "compress", desc := "([CI[BII)I" } : Jvm.MethodName) jdk_52_method_21_code (7 : Nat) (Option.some Jvm.ClassFile.FieldType.int), Jvm.Cond.code ({ cls := "java/lang/StringUTF16", name := "coderFromArrayLen", desc := "([BI)B" } : Jvm.MethodName) jdk_52_method_15_code (2 : Nat) (Option.some Jvm.ClassFile.FieldType.byte), Jvm.Cond.code ({ cls := "com/example/consentry/consentry/server/Exchange", name := "<init>", desc := "(Ljava/lang/String;Ljava/lang/String;Ljava/lang/String;Ljava/util/Map;[BZ)V" } : Jvm.MethodName) prog_60_method_1_code (7 : Nat) (Option.none : Option Jvm.ClassFile.FieldType), Jvm.Cond.code ({ cls := "com/example/consentry/consentry/server/Exchange", name := "withBody", desc := "([BZ)Lcom/example/consentry/consentry/server/Exchange;" } : Jvm.MethodName) prog_60_method_2_code (3 : Nat) (Option.some (Jvm.ClassFile.FieldType.object "com/example/consentry/consentry/server/Exchange")), Jvm.Cond.code ({ cls := "com/example/consentry/consentry/server/Exchange", name := "method", desc := "()Ljava/lang/String;" } : Jvm.MethodName) prog_60_method_3_code (1 : Nat) (Option.some (Jvm.ClassFile.FieldType.object "java/lang/String")), Jvm.Cond.code ({ cls := "java/lang/String", name := "equals", desc := "(Ljava/lang/Object;)Z" } : Jvm.MethodName) jdk_42_method_66_code (3 : Nat) (Option.some Jvm.ClassFile.FieldType.boolean), Jvm.Cond.code ({ cls := "com/example/consentry/consentry/server/Exchange", name := "rawPath", desc := "()Ljava/lang/String;" } : Jvm.MethodName) prog_60_method_4_code (1 : Nat) (Option.some (Jvm.ClassFile.FieldType.object "java/lang/String")), Jvm.Cond.code ({ cls := "com/example/consentry/consentry/server/Exchange", name := "rawQuery", desc := "()Ljava/lang/String;" } : Jvm.MethodName) prog_60_method_5_code (1 : Nat) (Option.some (Jvm.ClassFile.FieldType.object "java/lang/String")), Jvm.Cond.code ({ cls := "com/example/consentry/consentry/server/Exchange", name := "body", desc := "()[B" } : Jvm.MethodName) prog_60_method_8_code (1 : Nat) (Option.some (Jvm.ClassFile.FieldType.array Jvm.ClassFile.FieldType.byte)), Jvm.Cond.code ({ cls := "com/example/consentry/consentry/server/ExchangeWithBodyPinLaw", name := "sameBytes", desc := "([B[B)Z" } : Jvm.MethodName) method_2_code (2 : Nat) (Option.some Jvm.ClassFile.FieldType.boolean), Jvm.Cond.code ({ cls := "com/example/consentry/consentry/server/Exchange", name := "bodyCut", desc := "()Z" } : Jvm.MethodName) prog_60_method_9_code (1 : Nat) (Option.some Jvm.ClassFile.FieldType.boolean)]
set_option maxRecDepth 65536 in
theorem codes_eq : words1.filter isCode = codes1 := rfl
theorem w_codes : ∀ c ∈ words1.filter isCode, c.before args0 about1 = true := by
  rw [codes_eq]
  intro c hc
  simp only [codes1, List.mem_cons, List.not_mem_nil, or_false] at hc
  rcases hc with rfl | rfl | rfl | rfl | rfl | rfl | rfl | rfl | rfl | rfl | rfl | rfl | rfl | rfl | rfl | rfl
  · exact w_c0
  · exact w_c1
  · exact w_c2
  · exact w_c3
  · exact w_c4
  · exact w_c5
  · exact w_c6
  · exact w_c7
  · exact w_c8
  · exact w_c9
  · exact w_c10
  · exact w_c11
  · exact w_c12
  · exact w_c13
  · exact w_c14
  · exact w_c15
set_option maxRecDepth 65536 in
theorem w_t1 : (words1.take 24).all (fun c => isCode c || c.before args0 about1) = true := by decide +kernel
set_option maxRecDepth 65536 in
theorem w_t2 : ((words1.drop 24).take 24).all (fun c => isCode c || c.before args0 about1) = true := by decide +kernel
set_option maxRecDepth 65536 in
theorem w_t3 : (((words1.drop 24).drop 24).take 24).all (fun c => isCode c || c.before args0 about1) = true := by decide +kernel
set_option maxRecDepth 65536 in
theorem w_t4 : (((words1.drop 24).drop 24).drop 24).all (fun c => isCode c || c.before args0 about1) = true := by decide +kernel
theorem w_tables : (allAtoms (Jvm.Cond.code x code maxLocals ret :: tables_1)).before args0 about1 = true := by
  rw [allAtoms_all]
  show words1.all (fun c => c.before args0 about1) = true
  refine all_split ?_ w_codes
  rw [← List.take_append_drop 24 words1, List.all_append, w_t1, ← List.take_append_drop 24 (words1.drop 24), List.all_append, w_t2, ← List.take_append_drop 24 ((words1.drop 24).drop 24), List.all_append, w_t3, w_t4]
  rfl
set_option maxRecDepth 65536 in
theorem w_rest : rest_1_c.before args0 about1 = true := by decide +kernel
set_option maxRecDepth 65536 in
theorem w_case : (Jvm.Cond.and given_1 narrow_1).before args0 about1 = true := by decide +kernel
theorem w_applies : (headSpec (Jvm.Cond.code x code maxLocals ret :: tables_1) room_1).applies x e0.platform about1 = true :=
  (Spec.applies_iff w_frames).mpr ⟨w_running, w_runnable, w_alone, w_named, w_hears, w_ripe, w_room, w_tables⟩
theorem atStart : AtStart classFile x code maxLocals ret World_1 tables_1 room_1 Calls_1 rest_1 Pre_1 launch0 p0 e0 about1 theMethod args0 below0 :=
  ⟨lists_1, trivial, launch0.admits_env _ _ _, launch0.least_env, fairChoices_fair.cas, fairChoices_fair.clock, w_frames, w_args, w_heap, w_applies, trivial, w_rest, w_case⟩
end start1
theorem witness_1 : WitnessClaimed_1 := ⟨start1.p0, start1.e0, start1.about1, start1.theMethod, start1.args0, start1.below0, start1.atStart⟩
end Jvm.Pilot.@@N@@
