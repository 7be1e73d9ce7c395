import JvmDerived
import JvmDerived.Pilot.@@N@@Statement
import JvmDerived.Pilot.@@N@@Code
set_option linter.unusedVariables false
set_option linter.unusedSimpArgs false
/- laws to paste: Road.backV (cut by pick.py; bodies as the Statement names them) -/
namespace Jvm.Pilot.@@N@@
namespace StrChars
open Jvm Sem ClassFile Op Lib Jvm.Stand Jvm.Free.XT Jvm.Free.ALB Jvm.Free.JM Jvm.Free
open Jvm.Lib.Cold (StaticIs)
/-- a char array whose places are chars -/
def Ch (a : Addr) (A : Cell) (U : State) : Prop := Arr .char a A U ∧ Typed .char A
theorem Ch.mv {a : Addr} {A : Cell} {U U' : State} (h : Ch a A U) (hal : U.vm.Alike U'.vm) (hh : U'.heap = U.heap) : Ch a A U' := ⟨h.1.mv hal hh, h.2⟩
theorem Ch.keep {a : Addr} {A : Cell} {U U' : State} (h : Ch a A U) (hal : U.vm.Alike U'.vm) (hk : U'.heap[a]? = some A) : Ch a A U' := ⟨h.1.keep hal hk, h.2⟩
/-- what place i of a char[]'s cell holds -/
def cv (A : Cell) (i : Nat) : Int32 := match A.slots[i]? with | some (.int x) => x | _ => 0
theorem Ch.get {a : Addr} {A : Cell} {U : State} (h : Ch a A U) {i : Nat} (hi : i < A.slots.size) : A.slots[i]? = some (.int (cv A i)) := by
  have e := Array.getElem?_eq_getElem hi
  have f := h.2 i _ e
  unfold cv; rw [e]
  generalize A.slots[i] = v at f
  cases v <;> simp [fits] at f ⊢
/-- the byte that i2b leaves of a char -/
def lo8 (x : Int32) : Int32 := x.toInt8.toInt32
theorem fits_lo8 (y : Int32) : fits .byte (.int (lo8 y)) = true := by
  have h1 := y.toInt8.le_toInt
  have h2 := y.toInt8.toInt_lt
  simp only [lo8, fits, Bool.and_eq_true, decide_eq_true_eq, Int32.le_iff_toInt_le, Int8.toInt_toInt32, show (-128 : Int32).toInt = -128 from by decide, show (127 : Int32).toInt = 127 from by decide]
  omega
/-- A' is A but that each place j of lo .. hi - 1 holds f j -/
def Laid (A A' : Cell) (lo hi : Nat) (f : Nat → Value) : Prop := A'.cls = A.cls ∧ A'.vm = A.vm ∧ A'.slots.size = A.slots.size ∧ ∀ i, A'.slots[i]? = if lo ≤ i ∧ i < hi then some (f i) else A.slots[i]?
theorem Laid.zero (A : Cell) (lo : Nat) (f : Nat → Value) : Laid A A lo (lo + 0) f := ⟨rfl, rfl, rfl, fun i => by rw [if_neg (by omega)]⟩
theorem Laid.step {A Ak : Cell} {lo k : Nat} {f : Nat → Value} {v : Value} (h : Laid A Ak lo k f) (hlo : lo ≤ k) (hk : k < Ak.slots.size) (hv : v = f k) : Laid A (Ak.setSlot k v) lo (k + 1) f := by
  refine ⟨h.1, h.2.1, by simpa [Cell.setSlot] using h.2.2.1, fun i => ?_⟩
  by_cases e : k = i
  · subst e; rw [Cell.slots_setSlot_self v hk, if_pos (by omega), hv]
  · rw [Cell.slots_setSlot_ne v e, h.2.2.2 i]
    by_cases q : lo ≤ i ∧ i < k
    · rw [if_pos q, if_pos (by omega)]
    · rw [if_neg q, if_neg (by omega)]
def U16 : String := "java/lang/StringUTF16"
namespace Cmp5
def yN : MethodName := ⟨"java/lang/StringUTF16", "compress", "([CI[BII)I"⟩
abbrev yB : ByteArray := jdk_52_method_21_code
theorem d0 : decode yB 0 = .ok (.iconst 0, 1) := by decide +kernel
theorem d1 : decode yB 1 = .ok (.istore 5, 2) := by decide +kernel
theorem d3 : decode yB 3 = .ok (.iload 5, 2) := by decide +kernel
theorem d5 : decode yB 5 = .ok (.iload 4, 2) := by decide +kernel
theorem d7 : decode yB 7 = .ok (.if_icmp (.ge) 37, 3) := by decide +kernel
theorem d10 : decode yB 10 = .ok (.aload_n 0, 1) := by decide +kernel
theorem d11 : decode yB 11 = .ok (.iload_n 1, 1) := by decide +kernel
theorem d12 : decode yB 12 = .ok (.caload, 1) := by decide +kernel
theorem d13 : decode yB 13 = .ok (.istore 6, 2) := by decide +kernel
theorem d15 : decode yB 15 = .ok (.iload 6, 2) := by decide +kernel
theorem d17 : decode yB 17 = .ok (.sipush 255, 3) := by decide +kernel
theorem d20 : decode yB 20 = .ok (.if_icmp (.le) 6, 3) := by decide +kernel
theorem d26 : decode yB 26 = .ok (.aload_n 2, 1) := by decide +kernel
theorem d27 : decode yB 27 = .ok (.iload_n 3, 1) := by decide +kernel
theorem d28 : decode yB 28 = .ok (.iload 6, 2) := by decide +kernel
theorem d30 : decode yB 30 = .ok (.i2b, 1) := by decide +kernel
theorem d31 : decode yB 31 = .ok (.bastore, 1) := by decide +kernel
theorem d32 : decode yB 32 = .ok (.iinc 1 1, 3) := by decide +kernel
theorem d35 : decode yB 35 = .ok (.iinc 3 1, 3) := by decide +kernel
theorem d38 : decode yB 38 = .ok (.iinc 5 1, 3) := by decide +kernel
theorem d41 : decode yB 41 = .ok (.goto (-38), 3) := by decide +kernel
theorem d44 : decode yB 44 = .ok (.iload 4, 2) := by decide +kernel
theorem d46 : decode yB 46 = .ok (.ireturn, 1) := by decide +kernel
def site : List Cond := []
def tab : Cond := tabOf yN yB 7 (some .int) site
def P (b : Addr) (A : Cell) (d : Addr) (B : Cell) (o q len : Nat) (args : Array Value) (s : State) : Prop := args = #[.ref b, .int (Int32.ofNat o), .ref d, .int (Int32.ofNat q), .int (Int32.ofNat len)] ∧ Ch b A s ∧ Arr .byte d B s ∧ b ≠ d ∧ o + len ≤ A.slots.size ∧ q + len ≤ B.slots.size ∧ ∀ i, i < len → ¬ 255 < cv A (o + i)
def E (b : Addr) (A : Cell) (d : Addr) (B : Cell) (o q len : Nat) (r : Option Value) (s u : State) : Prop := r = some (.int (Int32.ofNat len)) ∧ ∃ B', Put d B' s u ∧ Laid B B' q (q + len) (fun j => Value.int (lo8 (cv A (o + (j - q)))))
/-- no char of the range above 255: len; the places written hold each char's low byte -/
theorem law (l : Launch) (b : Addr) (A : Cell) (d : Addr) (B : Cell) (o q len : Nat) : Law l yN 5 5 0 0 yB 7 (some .int) site (P b A d B o q len) (E b A d B o q len) (copyLocs d q len) 0 0 := by
  refine Law.of_walk (plainFor_of_name (by decide +kernel)) (by decide +kernel) (by decide +kernel) (by decide) (fun _ _ h => by rw [h.1]; rfl) (fun _ U U' hal hh h => ⟨h.1, h.2.1.mv hal hh, h.2.2.1.mv hal hh, h.2.2.2⟩) (fun r U U' V V' h1 hal h2 h => ⟨h.1, h.2.elim fun B' q => ⟨B', q.1.mv h1 h2, q.2⟩⟩) ?_
  intro p e s m args below meth c s₁ X0 hexec hbytes hml hret hlk hnm hown hh0 W hP
  obtain ⟨rfl, hA, hB, hne, l1, l2, hp⟩ := hP
  have c1 : Steps p.tables e below (s₁.setTop (entryFrame m #[.ref b, .int (Int32.ofNat o), .ref d, .int (Int32.ofNat q), .int (Int32.ofNat len)] 7)) (s₁.setTop (mkF m 0 #[.val (.ref b), .val (.int (Int32.ofNat o)), .val (.ref d), .val (.int (Int32.ofNat q)), .val (.int (Int32.ofNat len)), .unset, .unset] [])) := entry rfl
  have hA0 := hA.1.mv X0.warmed.alike hh0
  have hB0 := hB.mv X0.warmed.alike hh0
  have a31 := hA.1.2.2.2
  have c2 : Steps p.tables e below (s₁.setTop (entryFrame m #[.ref b, .int (Int32.ofNat o), .ref d, .int (Int32.ofNat q), .int (Int32.ofNat len)] 7)) (s₁.setTop (mkF m 3 #[.val (.ref b), .val (.int (Int32.ofNat o)), .val (.ref d), .val (.int (Int32.ofNat q)), .val (.int (Int32.ofNat len)), .val (.int 0), .unset] [])) := c1.trans (by
    refine iconstV X0.here hexec rfl 0 (hb hbytes d0) (by decide) ?_
    refine XS.istore X0.here hexec rfl (hb hbytes d1) rfl rfl ?_
    exact Steps.refl _)
  have loop : ∀ (r i : Nat), i + r = len → ∀ (z : Slot), (z = .unset ∨ ∃ w, z = .val w ∧ w.category = 1) → ∀ (Tl : State) (Bk : Cell), Stand p l e { frames := 0, locals := 0, cells := 0, slots := 0 } s m #[.ref b, .int (Int32.ofNat o), .ref d, .int (Int32.ofNat q), .int (Int32.ofNat len)] below meth c Tl ([] ++ copyLocs d q i) 0 0 → Put d Bk s₁ Tl → Laid B Bk q (q + i) (fun j => Value.int (lo8 (cv A (o + (j - q))))) →
      Steps p.tables e below (s₁.setTop (entryFrame m #[.ref b, .int (Int32.ofNat o), .ref d, .int (Int32.ofNat q), .int (Int32.ofNat len)] 7)) (Tl.setTop (mkF m 3 #[.val (.ref b), .val (.int (Int32.ofNat (o + i))), .val (.ref d), .val (.int (Int32.ofNat (q + i))), .val (.int (Int32.ofNat len)), .val (.int (Int32.ofNat i)), z] [])) → ∃ (T' : State) (B' : Cell) (z' : Slot), Stand p l e { frames := 0, locals := 0, cells := 0, slots := 0 } s m #[.ref b, .int (Int32.ofNat o), .ref d, .int (Int32.ofNat q), .int (Int32.ofNat len)] below meth c T' ([] ++ copyLocs d q len) 0 0 ∧ Put d B' s₁ T' ∧ Laid B B' q (q + len) (fun j => Value.int (lo8 (cv A (o + (j - q))))) ∧
      Steps p.tables e below (s₁.setTop (entryFrame m #[.ref b, .int (Int32.ofNat o), .ref d, .int (Int32.ofNat q), .int (Int32.ofNat len)] 7)) (T'.setTop (mkF m 3 #[.val (.ref b), .val (.int (Int32.ofNat (o + len))), .val (.ref d), .val (.int (Int32.ofNat (q + len))), .val (.int (Int32.ofNat len)), .val (.int (Int32.ofNat len)), z'] [])) := by
    intro r
    induction r with
    | zero =>
      intro i hi z hz Tl Bk Xl pl fl cl
      have hil : i = len := by omega
      rw [hil] at Xl fl cl
      exact ⟨Tl, Bk, z, Xl, pl, fl, cl⟩
    | succ r ih =>
      intro i hi z hz Tl Bk Xl pl fl cl
      have all := X0.warmed.alike.symm.trans Xl.warmed.alike
      have hAl := hA0.keep all (pl.other hne hA0.1)
      have hBk := hB0.like all pl.1 fl.1 fl.2.1 fl.2.2.1
      have hlt : q + i < Bk.slots.size := by rw [fl.2.2.1]; omega
      have c3 : Steps p.tables e below (s₁.setTop (entryFrame m #[.ref b, .int (Int32.ofNat o), .ref d, .int (Int32.ofNat q), .int (Int32.ofNat len)] 7)) (Tl.setTop (mkF m 12 #[.val (.ref b), .val (.int (Int32.ofNat (o + i))), .val (.ref d), .val (.int (Int32.ofNat (q + i))), .val (.int (Int32.ofNat len)), .val (.int (Int32.ofNat i)), z] [.int (Int32.ofNat (o + i)), .ref b])) := cl.trans (by
        refine XS.iload Xl.here hexec rfl (hb hbytes d3) rfl ?_
        refine XS.iload Xl.here hexec rfl (hb hbytes d5) rfl ?_
        refine XS.icmpNo Xl.here hexec rfl (hb hbytes d7) rfl (ii_ge_f (lt32 (by omega) (by omega))) ?_
        refine XS.aloadN Xl.here hexec rfl (hb hbytes d10) rfl rfl ?_
        refine XS.iloadN Xl.here hexec rfl (hb hbytes d11) rfl ?_
        exact Steps.refl _)
      have c4 : Steps p.tables e below (s₁.setTop (entryFrame m #[.ref b, .int (Int32.ofNat o), .ref d, .int (Int32.ofNat q), .int (Int32.ofNat len)] 7)) (Tl.setTop (mkF m 13 #[.val (.ref b), .val (.int (Int32.ofNat (o + i))), .val (.ref d), .val (.int (Int32.ofNat (q + i))), .val (.int (Int32.ofNat len)), .val (.int (Int32.ofNat i)), z] [.int (cv A (o + i))])) := c3.trans (by
        refine Xl.aget hexec hAl rfl (hA.get (i := o + i) (by omega)) rfl rfl (hb hbytes d12) ?_
        exact Steps.refl _)
      have c5 : Steps p.tables e below (s₁.setTop (entryFrame m #[.ref b, .int (Int32.ofNat o), .ref d, .int (Int32.ofNat q), .int (Int32.ofNat len)] 7)) (Tl.setTop (mkF m 15 #[.val (.ref b), .val (.int (Int32.ofNat (o + i))), .val (.ref d), .val (.int (Int32.ofNat (q + i))), .val (.int (Int32.ofNat len)), .val (.int (Int32.ofNat i)), .val (.int (cv A (o + i)))] [])) := c4.trans (by
        refine XS.istoreS Xl.here hexec rfl (hb hbytes d13) rfl rfl hz ?_
        exact Steps.refl _)
      have c6 : Steps p.tables e below (s₁.setTop (entryFrame m #[.ref b, .int (Int32.ofNat o), .ref d, .int (Int32.ofNat q), .int (Int32.ofNat len)] 7)) (Tl.setTop (mkF m 31 #[.val (.ref b), .val (.int (Int32.ofNat (o + i))), .val (.ref d), .val (.int (Int32.ofNat (q + i))), .val (.int (Int32.ofNat len)), .val (.int (Int32.ofNat i)), .val (.int (cv A (o + i)))] [.int (lo8 (cv A (o + i))), .int (Int32.ofNat (q + i)), .ref d])) := c5.trans (by
        refine XS.iload Xl.here hexec rfl (hb hbytes d15) rfl ?_
        refine sipushV Xl.here hexec rfl 255 (hb hbytes d17) (by decide) ?_
        refine XS.icmpYes Xl.here hexec rfl (pc0 := 20) rfl (hb hbytes d20) rfl (ii_le_t (hp i (by omega))) (by decide) rfl ?_
        refine XS.aloadN Xl.here hexec rfl (hb hbytes d26) rfl rfl ?_
        refine XS.iloadN Xl.here hexec rfl (hb hbytes d27) rfl ?_
        refine XS.iload Xl.here hexec rfl (hb hbytes d28) rfl ?_
        refine i2b Xl.here hexec rfl (hb hbytes d30) rfl ?_
        exact Steps.refl _)
      obtain ⟨T7, X7, p7, st7⟩ := Xl.aput hexec hBk rfl hlt rfl (fits_lo8 (cv A (o + i))) (g := (mkF m 31 #[.val (.ref b), .val (.int (Int32.ofNat (o + i))), .val (.ref d), .val (.int (Int32.ofNat (q + i))), .val (.int (Int32.ofNat len)), .val (.int (Int32.ofNat i)), .val (.int (cv A (o + i)))] [.int (lo8 (cv A (o + i))), .int (Int32.ofNat (q + i)), .ref d])) rfl (rest := []) rfl (hb hbytes d31)
      have c8 : Steps p.tables e below (s₁.setTop (entryFrame m #[.ref b, .int (Int32.ofNat o), .ref d, .int (Int32.ofNat q), .int (Int32.ofNat len)] 7)) (T7.setTop (mkF m 32 #[.val (.ref b), .val (.int (Int32.ofNat (o + i))), .val (.ref d), .val (.int (Int32.ofNat (q + i))), .val (.int (Int32.ofNat len)), .val (.int (Int32.ofNat i)), .val (.int (cv A (o + i)))] [])) := c6.trans (st7 _ (Steps.refl _))
      have c9 : Steps p.tables e below (s₁.setTop (entryFrame m #[.ref b, .int (Int32.ofNat o), .ref d, .int (Int32.ofNat q), .int (Int32.ofNat len)] 7)) (T7.setTop (mkF m 3 #[.val (.ref b), .val (.int (Int32.ofNat (o + i) + 1)), .val (.ref d), .val (.int (Int32.ofNat (q + i) + 1)), .val (.int (Int32.ofNat len)), .val (.int (Int32.ofNat i + 1)), .val (.int (cv A (o + i)))] [])) := c8.trans (by
        refine iincV X7.here hexec rfl 1 (hb hbytes d32) (by decide) rfl rfl ?_
        refine iincV X7.here hexec rfl 1 (hb hbytes d35) (by decide) rfl rfl ?_
        refine iincV X7.here hexec rfl 1 (hb hbytes d38) (by decide) rfl rfl ?_
        refine XS.goto X7.here hexec rfl (pc0 := 41) rfl (hb hbytes d41) (by decide) rfl ?_
        exact Steps.refl _)
      have c10 : Steps p.tables e below (s₁.setTop (entryFrame m #[.ref b, .int (Int32.ofNat o), .ref d, .int (Int32.ofNat q), .int (Int32.ofNat len)] 7)) (T7.setTop (mkF m 3 #[.val (.ref b), .val (.int (Int32.ofNat (o + (i + 1)))), .val (.ref d), .val (.int (Int32.ofNat (q + (i + 1)))), .val (.int (Int32.ofNat len)), .val (.int (Int32.ofNat (i + 1))), .val (.int (cv A (o + i)))] [])) := by
        have := c9
        rw [succ32, succ32, succ32] at this
        exact this
      exact ih (i + 1) (by omega) _ (Or.inr ⟨_, rfl, rfl⟩) T7 _ (by rw [copyLocs_step, ← List.append_assoc]; exact X7) (pl.trans p7) (fl.step (by omega) hlt (by simp)) c10
  obtain ⟨T9, B9, z9, X9, p9, f9, g9⟩ := loop len 0 (by omega) .unset (Or.inl rfl) s₁ B (by simpa [copyLocs] using X0) ⟨hB0.1, fun _ _ => rfl, rfl⟩ (Laid.zero _ _ _) c2
  have c11 : Steps p.tables e below (s₁.setTop (entryFrame m #[.ref b, .int (Int32.ofNat o), .ref d, .int (Int32.ofNat q), .int (Int32.ofNat len)] 7)) (T9.setTop (mkF m 46 #[.val (.ref b), .val (.int (Int32.ofNat (o + len))), .val (.ref d), .val (.int (Int32.ofNat (q + len))), .val (.int (Int32.ofNat len)), .val (.int (Int32.ofNat len)), z9] [.int (Int32.ofNat len)])) := g9.trans (by
    refine XS.iload X9.here hexec rfl (hb hbytes d3) rfl ?_
    refine XS.iload X9.here hexec rfl (hb hbytes d5) rfl ?_
    refine XS.icmpYes X9.here hexec rfl (pc0 := 7) rfl (hb hbytes d7) rfl (ii_ge_t (nlt32 (by omega) (Nat.le_refl _))) (by decide) rfl ?_
    refine XS.iload X9.here hexec rfl (hb hbytes d44) rfl ?_
    exact Steps.refl _)
  exact ⟨T9, some (.int (Int32.ofNat len)), _, _, _, X9, by simp, rfl, rfl, (fun h => by cases h), ⟨rfl, B9, p9.from hh0, f9⟩, fun fs hl => c11.trans (X9.ireturnOut hexec hret rfl (Or.inl rfl) (hb hbytes d46) hl)⟩
end Cmp5
namespace Cmp3
def yN : MethodName := ⟨"java/lang/StringUTF16", "compress", "([CII)[B"⟩
abbrev yB : ByteArray := jdk_52_method_16_code
theorem d0 : decode yB 0 = .ok (.iload_n 2, 1) := by decide +kernel
theorem d1 : decode yB 1 = .ok (.newarray .byte, 2) := by decide +kernel
theorem d3 : decode yB 3 = .ok (.astore_n 3, 1) := by decide +kernel
theorem d4 : decode yB 4 = .ok (.aload_n 0, 1) := by decide +kernel
theorem d5 : decode yB 5 = .ok (.iload_n 1, 1) := by decide +kernel
theorem d6 : decode yB 6 = .ok (.aload_n 3, 1) := by decide +kernel
theorem d7 : decode yB 7 = .ok (.iconst 0, 1) := by decide +kernel
theorem d8 : decode yB 8 = .ok (.iload_n 2, 1) := by decide +kernel
theorem d9 : decode yB 9 = .ok (.invokestatic 115, 3) := by decide +kernel
theorem d12 : decode yB 12 = .ok (.istore 4, 2) := by decide +kernel
theorem d14 : decode yB 14 = .ok (.iload 4, 2) := by decide +kernel
theorem d16 : decode yB 16 = .ok (.iload_n 2, 1) := by decide +kernel
theorem d17 : decode yB 17 = .ok (.if_icmp (.eq) 40, 3) := by decide +kernel
theorem d57 : decode yB 57 = .ok (.aload_n 3, 1) := by decide +kernel
theorem d58 : decode yB 58 = .ok (.areturn, 1) := by decide +kernel
def site : List Cond := [.arrayClass .byte, Cmp5.tab] ++ staticW U16 115 Cmp5.yN
def tab : Cond := tabOf yN yB 6 (some (.array .byte)) site
def P (b : Addr) (A : Cell) (o len : Nat) (args : Array Value) (s : State) : Prop := args = #[.ref b, .int (Int32.ofNat o), .int (Int32.ofNat len)] ∧ Ch b A s ∧ o + len ≤ A.slots.size ∧ len ≤ 536870912 ∧ ∀ i, i < len → ¬ 255 < cv A (o + i)
def E (b : Addr) (A : Cell) (o len : Nat) (r : Option Value) (s u : State) : Prop := NewArr .byte "[B" len (fun j => .int (lo8 (cv A (o + j)))) r s u ∧ u.heap.size = s.heap.size + 1
/-- no char of the range above 255: a new byte[] of their low bytes -/
theorem law (l : Launch) (b : Addr) (A : Cell) (o len : Nat) : Law l yN 3 3 1 18 yB 6 (some (.array .byte)) site (P b A o len) (E b A o len) [] 1 len := by
  refine Law.of_walk (plainFor_of_name (by decide +kernel)) (by decide +kernel) (by decide +kernel) (by decide) (fun _ _ h => by rw [h.1]; rfl) (fun _ U U' hal hh h => ⟨h.1, h.2.1.mv hal hh, h.2.2⟩) (fun r U U' V V' h1 hal h2 h => ⟨NewArr.mv r U U' V V' h1 hal h2 h.1, by rw [h1, h2]; exact h.2⟩) ?_
  intro p e s m args below meth c s₁ X0 hexec hbytes hml hret hlk hnm hown hh0 W hP
  obtain ⟨rfl, hA, l1, l2, hp⟩ := hP
  have a31 := hA.1.2.2.2
  have c1 : Steps p.tables e below (s₁.setTop (entryFrame m #[.ref b, .int (Int32.ofNat o), .int (Int32.ofNat len)] 6)) (s₁.setTop (mkF m 0 #[.val (.ref b), .val (.int (Int32.ofNat o)), .val (.int (Int32.ofNat len)), .unset, .unset, .unset] [])) := entry rfl
  have c2 : Steps p.tables e below (s₁.setTop (entryFrame m #[.ref b, .int (Int32.ofNat o), .int (Int32.ofNat len)] 6)) (s₁.setTop (mkF m 1 #[.val (.ref b), .val (.int (Int32.ofNat o)), .val (.int (Int32.ofNat len)), .unset, .unset, .unset] [.int (Int32.ofNat len)])) := c1.trans (by
    refine XS.iloadN X0.here hexec rfl (hb hbytes d0) rfl ?_
    exact Steps.refl _)
  obtain ⟨T3, B3, X3, ba3, bs3, bv3, bh3, bf3, st3⟩ := X0.anew hexec (atype := .byte) (wk W (.arrayClass .byte)) rfl (by show len * 1 ≤ _; omega) (by omega) (g := (mkF m 1 #[.val (.ref b), .val (.int (Int32.ofNat o)), .val (.int (Int32.ofNat len)), .unset, .unset, .unset] [.int (Int32.ofNat len)])) rfl (hb hbytes d1) (rest := []) rfl (Nat.le_refl _) (by show 0 + len ≤ len; omega)
  rw [hh0] at ba3 st3
  have kp3 : XT.Kept s T3 := (XT.Kept.of_eq hh0).push bh3
  have hA3 := hA.keep X3.warmed.alike (kp3 _ _ hA.1.1)
  have hne : b ≠ s.heap.size := hA.1.ne
  have c4 : Steps p.tables e below (s₁.setTop (entryFrame m #[.ref b, .int (Int32.ofNat o), .int (Int32.ofNat len)] 6)) (T3.setTop (mkF m 3 #[.val (.ref b), .val (.int (Int32.ofNat o)), .val (.int (Int32.ofNat len)), .unset, .unset, .unset] [.ref s.heap.size])) := c2.trans (st3 _ (Steps.refl _))
  have c5 : Steps p.tables e below (s₁.setTop (entryFrame m #[.ref b, .int (Int32.ofNat o), .int (Int32.ofNat len)] 6)) (T3.setTop (mkF m 9 #[.val (.ref b), .val (.int (Int32.ofNat o)), .val (.int (Int32.ofNat len)), .val (.ref s.heap.size), .unset, .unset] [.int (Int32.ofNat len), .int 0, .ref s.heap.size, .int (Int32.ofNat o), .ref b])) := c4.trans (by
    refine XS.astoreN X3.here hexec rfl (hb hbytes d3) rfl rfl rfl ?_
    refine XS.aloadN X3.here hexec rfl (hb hbytes d4) rfl rfl ?_
    refine XS.iloadN X3.here hexec rfl (hb hbytes d5) rfl ?_
    refine XS.aloadN X3.here hexec rfl (hb hbytes d6) rfl rfl ?_
    refine iconstV X3.here hexec rfl 0 (hb hbytes d7) (by decide) ?_
    refine XS.iloadN X3.here hexec rfl (hb hbytes d8) rfl ?_
    exact Steps.refl _)
  obtain ⟨v6, T6, X6, E6, g6⟩ := X3.callS hexec (Cmp5.law l b A s.heap.size B3 o 0 len) hown (wks W (staticW U16 115 Cmp5.yN)) (wk W Cmp5.tab) (W := 0) (Nat.le_of_ble_eq_true rfl) (Nat.le_of_ble_eq_true rfl) (Nat.le_refl _) (by show 0 + len + 0 ≤ len; omega) (g := (mkF m 9 #[.val (.ref b), .val (.int (Int32.ofNat o)), .val (.int (Int32.ofNat len)), .val (.ref s.heap.size), .unset, .unset] [.int (Int32.ofNat len), .int (Int32.ofNat 0), .ref s.heap.size, .int (Int32.ofNat o), .ref b])) rfl (by rw [hml]; rfl) c5 (argsL := [.ref b, .int (Int32.ofNat o), .ref s.heap.size, .int (Int32.ofNat 0), .int (Int32.ofNat len)]) (rest := []) rfl rfl (by show 2 * 0 + 0 ≤ _; decide) (hb hbytes d9) (⟨rfl, hA3, ba3, hne, l1, by rw [bs3]; simp, hp⟩)
  obtain ⟨rfl, B6, p6, f6⟩ := E6
  have c7 : Steps p.tables e below (s₁.setTop (entryFrame m #[.ref b, .int (Int32.ofNat o), .int (Int32.ofNat len)] 6)) (T6.setTop (mkF m 12 #[.val (.ref b), .val (.int (Int32.ofNat o)), .val (.int (Int32.ofNat len)), .val (.ref s.heap.size), .unset, .unset] [.int (Int32.ofNat len)])) := g6
  have c8 : Steps p.tables e below (s₁.setTop (entryFrame m #[.ref b, .int (Int32.ofNat o), .int (Int32.ofNat len)] 6)) (T6.setTop (mkF m 58 #[.val (.ref b), .val (.int (Int32.ofNat o)), .val (.int (Int32.ofNat len)), .val (.ref s.heap.size), .val (.int (Int32.ofNat len)), .unset] [.ref s.heap.size])) := c7.trans (by
    refine XS.istore X6.here hexec rfl (hb hbytes d12) rfl rfl ?_
    refine XS.iload X6.here hexec rfl (hb hbytes d14) rfl ?_
    refine XS.iloadN X6.here hexec rfl (hb hbytes d16) rfl ?_
    refine XS.icmpYes X6.here hexec rfl (pc0 := 17) rfl (hb hbytes d17) rfl (ii_eq_t rfl) (by decide) rfl ?_
    refine XS.aloadN X6.here hexec rfl (hb hbytes d57) rfl rfl ?_
    exact Steps.refl _)
  have X8 := X6.wide (L' := []) (cells' := 1) (slots' := len) (fun x hx hlt => by
    simp only [List.nil_append, copyLocs, List.mem_map, List.mem_range] at hx
    obtain ⟨i, -, rfl⟩ := hx
    exact absurd hlt (Nat.lt_irrefl _)) (Nat.le_refl _) (by omega)
  exact ⟨T6, some (.ref s.heap.size), _, _, _, X8, rfl, rfl, rfl, (fun h => by cases h), ⟨⟨rfl, B6, ba3.like (X3.warmed.alike.symm.trans X6.warmed.alike) p6.1 f6.1 f6.2.1 f6.2.2.1, f6.2.1.trans bv3, by rw [X6.warmed.alike.findClass, f6.1]; exact bf3, by rw [f6.2.2.1, bs3]; simp, fun j hj => by rw [f6.2.2.2 j, if_pos (by omega)]; rfl, kp3.put p6 (Nat.le_refl _)⟩, by rw [p6.2.2, bh3, hh0]; simp⟩, fun fs hl => c8.trans (X8.areturnOut hexec rfl hret rfl (hb hbytes d58) hl)⟩
end Cmp3
namespace CodL
def yN : MethodName := ⟨"java/lang/StringUTF16", "coderFromArrayLen", "([BI)B"⟩
abbrev yB : ByteArray := jdk_52_method_15_code
theorem d0 : decode yB 0 = .ok (.iload_n 1, 1) := by decide +kernel
theorem d1 : decode yB 1 = .ok (.aload_n 0, 1) := by decide +kernel
theorem d2 : decode yB 2 = .ok (.arraylength, 1) := by decide +kernel
theorem d3 : decode yB 3 = .ok (.isub, 1) := by decide +kernel
theorem d4 : decode yB 4 = .ok (.bipush 31, 2) := by decide +kernel
theorem d6 : decode yB 6 = .ok (.iushr, 1) := by decide +kernel
theorem d7 : decode yB 7 = .ok (.i2b, 1) := by decide +kernel
theorem d8 : decode yB 8 = .ok (.ireturn, 1) := by decide +kernel
def site : List Cond := []
def tab : Cond := tabOf yN yB 2 (some .byte) site
def P (d : Addr) (B : Cell) (args : Array Value) (s : State) : Prop := args = #[.ref d, .int (Int32.ofNat B.slots.size)] ∧ Arr .byte d B s
def E (r : Option Value) (s u : State) : Prop := XT.PureE (some (.int 0)) r s u
/-- an array as long as the number of chars: LATIN1 -/
theorem law (l : Launch) (d : Addr) (B : Cell) : Law l yN 2 2 0 0 yB 2 (some .byte) site (P d B) E [] 0 0 := by
  refine Law.of_walk (plainFor_of_name (by decide +kernel)) (by decide +kernel) (by decide +kernel) (by decide) (fun _ _ h => by rw [h.1]; rfl) (fun _ U U' hal hh h => ⟨h.1, h.2.mv hal hh⟩) (fun r U U' V V' h1 hal h2 h => XT.PureE.mv r U U' V V' h1 hal h2 h) ?_
  intro p e s m args below meth c s₁ X0 hexec hbytes hml hret hlk hnm hown hh0 W hP
  obtain ⟨rfl, hB⟩ := hP
  have hB0 := hB.mv X0.warmed.alike hh0
  have c1 : Steps p.tables e below (s₁.setTop (entryFrame m #[.ref d, .int (Int32.ofNat B.slots.size)] 2)) (s₁.setTop (mkF m 0 #[.val (.ref d), .val (.int (Int32.ofNat B.slots.size))] [])) := entry rfl
  have c2 : Steps p.tables e below (s₁.setTop (entryFrame m #[.ref d, .int (Int32.ofNat B.slots.size)] 2)) (s₁.setTop (mkF m 2 #[.val (.ref d), .val (.int (Int32.ofNat B.slots.size))] [.ref d, .int (Int32.ofNat B.slots.size)])) := c1.trans (by
    refine XS.iloadN X0.here hexec rfl (hb hbytes d0) rfl ?_
    refine XS.aloadN X0.here hexec rfl (hb hbytes d1) rfl rfl ?_
    exact Steps.refl _)
  have c3 : Steps p.tables e below (s₁.setTop (entryFrame m #[.ref d, .int (Int32.ofNat B.slots.size)] 2)) (s₁.setTop (mkF m 8 #[.val (.ref d), .val (.int (Int32.ofNat B.slots.size))] [.int (lo8 (ushr (Int32.ofNat B.slots.size - Int32.ofNat B.slots.size) 31))])) := c2.trans (by
    refine X0.alen hexec hB0 rfl rfl (hb hbytes d2) ?_
    refine XS.isub X0.here hexec rfl (hb hbytes d3) rfl ?_
    refine bipushV X0.here hexec rfl 31 (hb hbytes d4) (by decide) ?_
    refine iushr X0.here hexec rfl (hb hbytes d6) rfl ?_
    refine i2b X0.here hexec rfl (hb hbytes d7) rfl ?_
    exact Steps.refl _)
  have e0 : lo8 (ushr (Int32.ofNat B.slots.size - Int32.ofNat B.slots.size) 31) = 0 := by rw [Int32.sub_self]; decide
  rw [e0] at c3
  exact ⟨s₁, some (.int 0), _, _, _, X0, rfl, rfl, rfl, (fun h => by cases h), ⟨rfl, hh0⟩, fun fs hl => c3.trans (X0.ireturnOut hexec hret rfl (Or.inr (Or.inr (Or.inl rfl))) (hb hbytes d8) hl)⟩
end CodL
/-- the String at a is Latin-1 over a new byte[] (the heap's one new cell): the low bytes of the len chars of A from o on; every cell but a is kept -/
def Got (a : Addr) (D : Cell) (fV fC : Field) (A : Cell) (o len : Nat) (r : Option Value) (s u : State) : Prop := r = none ∧ ∃ D' V : Cell, Blank "java/lang/String" a D' u ∧ Same D D' [fV.slot, fC.slot] ∧ D'.slots[fV.slot]? = some (.ref s.heap.size) ∧ D'.slots[fC.slot]? = some (.int 0) ∧ Arr .byte s.heap.size V u ∧ V.vm = .none ∧ u.vm.findClass "[B" = some V.cls ∧ V.slots.size = len ∧ (∀ j, j < len → V.slots[j]? = some (.int (lo8 (cv A (o + j))))) ∧ (∀ (y : Addr) (c : Cell), y ≠ a → s.heap[y]? = some c → u.heap[y]? = some c) ∧ u.heap.size = s.heap.size + 1
theorem Got.mv {a : Addr} {D A : Cell} {fV fC : Field} {o len : Nat} : ∀ r (U U' V V' : State), U'.heap = U.heap → V.vm.Alike V'.vm → V'.heap = V.heap → Got a D fV fC A o len r U V → Got a D fV fC A o len r U' V' :=
  fun r U U' V V' h1 hal h2 ⟨e0, D', X, a1, a2, a3, a4, a5, a6, a7, a8, a9, a10, a11⟩ => ⟨e0, D', X, a1.mv hal h2, a2, by rw [h1]; exact a3, a4, by rw [h1]; exact a5.mv hal h2, a6, by rw [hal.findClass]; exact a7, a8, a9, by rw [h1, h2]; exact a10, by rw [h1, h2]; exact a11⟩
namespace New4
def yN : MethodName := ⟨"java/lang/String", "<init>", "([CIILjava/lang/Void;)V"⟩
abbrev yB : ByteArray := jdk_42_method_149_code
theorem d0 : decode yB 0 = .ok (.aload_n 0, 1) := by decide +kernel
theorem d1 : decode yB 1 = .ok (.invokespecial 1, 3) := by decide +kernel
theorem d4 : decode yB 4 = .ok (.iload_n 3, 1) := by decide +kernel
theorem d5 : decode yB 5 = .ok (.ifCond (.ne) 22, 3) := by decide +kernel
theorem d27 : decode yB 27 = .ok (.getstatic 38, 3) := by decide +kernel
theorem d30 : decode yB 30 = .ok (.ifCond (.eq) 28, 3) := by decide +kernel
theorem d33 : decode yB 33 = .ok (.aload_n 1, 1) := by decide +kernel
theorem d34 : decode yB 34 = .ok (.iload_n 2, 1) := by decide +kernel
theorem d35 : decode yB 35 = .ok (.iload_n 3, 1) := by decide +kernel
theorem d36 : decode yB 36 = .ok (.invokestatic 177, 3) := by decide +kernel
theorem d39 : decode yB 39 = .ok (.astore 5, 2) := by decide +kernel
theorem d41 : decode yB 41 = .ok (.aload_n 0, 1) := by decide +kernel
theorem d42 : decode yB 42 = .ok (.aload 5, 2) := by decide +kernel
theorem d44 : decode yB 44 = .ok (.iload_n 3, 1) := by decide +kernel
theorem d45 : decode yB 45 = .ok (.invokestatic 47, 3) := by decide +kernel
theorem d48 : decode yB 48 = .ok (.putfield 15, 3) := by decide +kernel
theorem d51 : decode yB 51 = .ok (.aload_n 0, 1) := by decide +kernel
theorem d52 : decode yB 52 = .ok (.aload 5, 2) := by decide +kernel
theorem d54 : decode yB 54 = .ok (.putfield 9, 3) := by decide +kernel
theorem d57 : decode yB 57 = .ok (.return_, 1) := by decide +kernel
def site : List Cond := [.fieldLink "java/lang/String" 38 "java/lang/String" "COMPACT_STRINGS" "Z", Cmp3.tab, CodL.tab, .laysFinal "java/lang/String" "java/lang/String" "value" "[B", .fieldLink "java/lang/String" 9 "java/lang/String" "value" "[B", .laysFinal "java/lang/String" "java/lang/String" "coder" "B", .fieldLink "java/lang/String" 15 "java/lang/String" "coder" "B"] ++ objW "java/lang/String" 1 ++ staticW "java/lang/String" 177 Cmp3.yN ++ staticW "java/lang/String" 47 CodL.yN
def tab : Cond := tabOf yN yB 6 none site
def P (a : Addr) (D : Cell) (fV fC : Field) (b : Addr) (A : Cell) (z : Int32) (o len : Nat) (args : Array Value) (s : State) : Prop := args = #[.ref a, .ref b, .int (Int32.ofNat o), .int (Int32.ofNat len), .null] ∧ Blank "java/lang/String" a D s ∧ Found "java/lang/String" "value" "[B" fV s ∧ Found "java/lang/String" "coder" "B" fC s ∧ Ch b A s ∧ StaticIs s "java/lang/String" "COMPACT_STRINGS" "Z" (.int z) ∧ ¬ z = 0 ∧ 0 < len ∧ o + len ≤ A.slots.size ∧ len ≤ 536870912 ∧ ∀ i, i < len → ¬ 255 < cv A (o + i)
def E (a : Addr) (D : Cell) (fV fC : Field) (A : Cell) (o len : Nat) (r : Option Value) (s u : State) : Prop := Got a D fV fC A o len r s u
/-- len > 0, no char of the range above 255: a Latin-1 String of their low bytes -/
theorem law (l : Launch) (a : Addr) (D : Cell) (fV fC : Field) (b : Addr) (A : Cell) (z : Int32) (o len : Nat) : Law l yN 5 4 2 35 yB 6 none site (P a D fV fC b A z o len) (E a D fV fC A o len) [⟨a, fC.slot⟩, ⟨a, fV.slot⟩] 1 len := by
  refine Law.of_walk (plainFor_of_name (by decide +kernel)) (by decide +kernel) (by decide +kernel) (by decide) (fun _ _ h => by rw [h.1]; rfl) (fun _ U U' hal hh h => ⟨h.1, h.2.1.mv hal hh, h.2.2.1.al hal, h.2.2.2.1.al hal, h.2.2.2.2.1.mv hal hh, h.2.2.2.2.2.1.there hal hh, h.2.2.2.2.2.2⟩) (fun r U U' V V' h1 hal h2 h => Got.mv r U U' V V' h1 hal h2 h) ?_
  intro p e s m args below meth c s₁ X0 hexec hbytes hml hret hlk hnm hown hh0 W hP
  obtain ⟨rfl, hB, f1, f2, hA, s1, hz, l0, l1, l2, hp⟩ := hP
  have a31 := hA.1.2.2.2
  have c1 : Steps p.tables e below (s₁.setTop (entryFrame m #[.ref a, .ref b, .int (Int32.ofNat o), .int (Int32.ofNat len), .null] 6)) (s₁.setTop (mkF m 0 #[.val (.ref a), .val (.ref b), .val (.int (Int32.ofNat o)), .val (.int (Int32.ofNat len)), .val .null, .unset] [])) := entry rfl
  have c2 : Steps p.tables e below (s₁.setTop (entryFrame m #[.ref a, .ref b, .int (Int32.ofNat o), .int (Int32.ofNat len), .null] 6)) (s₁.setTop (mkF m 1 #[.val (.ref a), .val (.ref b), .val (.int (Int32.ofNat o)), .val (.int (Int32.ofNat len)), .val .null, .unset] [.ref a])) := c1.trans (by
    refine XS.aloadN X0.here hexec rfl (hb hbytes d0) rfl rfl ?_
    exact Steps.refl _)
  obtain ⟨T3, X3, q3, st3⟩ := X0.oinit hexec hown (wks W (objW "java/lang/String" 1)) (g := (mkF m 1 #[.val (.ref a), .val (.ref b), .val (.int (Int32.ofNat o)), .val (.int (Int32.ofNat len)), .val .null, .unset] [.ref a])) rfl (by rw [hml]; rfl) (rest := []) rfl (hb hbytes d1) (W := 0) (by show 2 * 0 + 0 ≤ _; decide) (Nat.le_of_ble_eq_true rfl) (Nat.le_of_ble_eq_true rfl)
  have hh3 := q3.trans hh0
  have c4 : Steps p.tables e below (s₁.setTop (entryFrame m #[.ref a, .ref b, .int (Int32.ofNat o), .int (Int32.ofNat len), .null] 6)) (T3.setTop (mkF m 27 #[.val (.ref a), .val (.ref b), .val (.int (Int32.ofNat o)), .val (.int (Int32.ofNat len)), .val .null, .unset] [])) := (c2.trans (st3 _ (Steps.refl _))).trans (by
    refine XS.iloadN X3.here hexec rfl (hb hbytes d4) rfl ?_
    refine XS.ifYes X3.here hexec rfl (pc0 := 5) rfl (hb hbytes d5) rfl (i0_ne_t (nz32 (by omega) l0)) (by decide) rfl ?_
    exact Steps.refl _)
  obtain ⟨T5, X5, q5, st5⟩ := X3.sget hexec hown (wk W (.fieldLink "java/lang/String" 38 "java/lang/String" "COMPACT_STRINGS" "Z")) s1 (fun _ _ h => by rw [hh3]; exact h) (g := (mkF m 27 #[.val (.ref a), .val (.ref b), .val (.int (Int32.ofNat o)), .val (.int (Int32.ofNat len)), .val .null, .unset] [])) rfl (hb hbytes d27)
  have hh5 := q5.trans hh3
  have c6 : Steps p.tables e below (s₁.setTop (entryFrame m #[.ref a, .ref b, .int (Int32.ofNat o), .int (Int32.ofNat len), .null] 6)) (T5.setTop (mkF m 30 #[.val (.ref a), .val (.ref b), .val (.int (Int32.ofNat o)), .val (.int (Int32.ofNat len)), .val .null, .unset] [.int z])) := c4.trans (st5 _ (Steps.refl _))
  have c7 : Steps p.tables e below (s₁.setTop (entryFrame m #[.ref a, .ref b, .int (Int32.ofNat o), .int (Int32.ofNat len), .null] 6)) (T5.setTop (mkF m 36 #[.val (.ref a), .val (.ref b), .val (.int (Int32.ofNat o)), .val (.int (Int32.ofNat len)), .val .null, .unset] [.int (Int32.ofNat len), .int (Int32.ofNat o), .ref b])) := c6.trans (by
    refine XS.ifNo X5.here hexec rfl (hb hbytes d30) rfl (i0_eq_f hz) ?_
    refine XS.aloadN X5.here hexec rfl (hb hbytes d33) rfl rfl ?_
    refine XS.iloadN X5.here hexec rfl (hb hbytes d34) rfl ?_
    refine XS.iloadN X5.here hexec rfl (hb hbytes d35) rfl ?_
    exact Steps.refl _)
  obtain ⟨v8, T8, X8, E8, g8⟩ := X5.callS hexec (Cmp3.law l b A o len) hown (wks W (staticW "java/lang/String" 177 Cmp3.yN)) (wk W Cmp3.tab) (W := 0) (Nat.le_of_ble_eq_true rfl) (Nat.le_of_ble_eq_true rfl) (Nat.le_refl _) (by show 0 + len ≤ len; omega) (g := (mkF m 36 #[.val (.ref a), .val (.ref b), .val (.int (Int32.ofNat o)), .val (.int (Int32.ofNat len)), .val .null, .unset] [.int (Int32.ofNat len), .int (Int32.ofNat o), .ref b])) rfl (by rw [hml]; rfl) c7 (argsL := [.ref b, .int (Int32.ofNat o), .int (Int32.ofNat len)]) (rest := []) rfl rfl (by show 2 * 0 + 0 ≤ _; decide) (hb hbytes d36) (⟨rfl, hA.mv X5.warmed.alike hh5, l1, l2, hp⟩)
  obtain ⟨e8, z8⟩ := E8
  obtain ⟨rfl, N, n1, n2, n3, n4, n5, n6⟩ := NewArr.mv _ T5 s _ _ hh5.symm (Vm.Alike.refl _) rfl e8
  rw [hh5] at z8
  have hB1 := hB.keep X8.warmed.alike (n6 _ _ hB.1)
  have hne : s.heap.size ≠ a := (Nat.ne_of_lt (Array.getElem?_eq_some_iff.mp hB.1).1).symm
  have c9 : Steps p.tables e below (s₁.setTop (entryFrame m #[.ref a, .ref b, .int (Int32.ofNat o), .int (Int32.ofNat len), .null] 6)) (T8.setTop (mkF m 39 #[.val (.ref a), .val (.ref b), .val (.int (Int32.ofNat o)), .val (.int (Int32.ofNat len)), .val .null, .unset] [.ref s.heap.size])) := g8
  have c10 : Steps p.tables e below (s₁.setTop (entryFrame m #[.ref a, .ref b, .int (Int32.ofNat o), .int (Int32.ofNat len), .null] 6)) (T8.setTop (mkF m 45 #[.val (.ref a), .val (.ref b), .val (.int (Int32.ofNat o)), .val (.int (Int32.ofNat len)), .val .null, .val (.ref s.heap.size)] [.int (Int32.ofNat N.slots.size), .ref s.heap.size, .ref a])) := by
    have hc : Steps p.tables e below (s₁.setTop (entryFrame m #[.ref a, .ref b, .int (Int32.ofNat o), .int (Int32.ofNat len), .null] 6)) (T8.setTop (mkF m 45 #[.val (.ref a), .val (.ref b), .val (.int (Int32.ofNat o)), .val (.int (Int32.ofNat len)), .val .null, .val (.ref s.heap.size)] [.int (Int32.ofNat len), .ref s.heap.size, .ref a])) := c9.trans (by
      refine XS.astore X8.here hexec rfl (hb hbytes d39) rfl rfl rfl ?_
      refine XS.aloadN X8.here hexec rfl (hb hbytes d41) rfl rfl ?_
      refine XS.aload X8.here hexec rfl (hb hbytes d42) rfl rfl ?_
      refine XS.iloadN X8.here hexec rfl (hb hbytes d44) rfl ?_
      exact Steps.refl _)
    rw [n4]; exact hc
  obtain ⟨v11, T11, X11, E11, g11⟩ := X8.callS hexec (CodL.law l s.heap.size N) hown (wks W (staticW "java/lang/String" 47 CodL.yN)) (wk W CodL.tab) (W := 1) (Nat.le_of_ble_eq_true rfl) (Nat.le_of_ble_eq_true rfl) (Nat.le_refl _) (by show 0 + len + 0 ≤ len; omega) (g := (mkF m 45 #[.val (.ref a), .val (.ref b), .val (.int (Int32.ofNat o)), .val (.int (Int32.ofNat len)), .val .null, .val (.ref s.heap.size)] [.int (Int32.ofNat N.slots.size), .ref s.heap.size, .ref a])) rfl (by rw [hml]; rfl) c10 (argsL := [.ref s.heap.size, .int (Int32.ofNat N.slots.size)]) (rest := [.ref a]) rfl rfl (by show 2 * 0 + (1 + 0) ≤ _; decide) (hb hbytes d45) (⟨rfl, n1⟩)
  obtain ⟨rfl, q11⟩ := E11
  have hB11 := hB1.mv (X8.warmed.alike.symm.trans X11.warmed.alike) q11
  have c12 : Steps p.tables e below (s₁.setTop (entryFrame m #[.ref a, .ref b, .int (Int32.ofNat o), .int (Int32.ofNat len), .null] 6)) (T11.setTop (mkF m 48 #[.val (.ref a), .val (.ref b), .val (.int (Int32.ofNat o)), .val (.int (Int32.ofNat len)), .val .null, .val (.ref s.heap.size)] [.int 0, .ref a])) := g11
  obtain ⟨T13, X13, p13, bl13, sl13, st13⟩ := X11.finit hexec hown (wk W (.fieldLink "java/lang/String" 15 "java/lang/String" "coder" "B")) (Or.inr ⟨_, (wk W (.laysFinal "java/lang/String" "java/lang/String" "coder" "B"))⟩) (Or.inl ⟨rfl, hnm⟩) f2 (Or.inl rfl) hB11 (t := .byte) (by decide +kernel) rfl (g := (mkF m 48 #[.val (.ref a), .val (.ref b), .val (.int (Int32.ofNat o)), .val (.int (Int32.ofNat len)), .val .null, .val (.ref s.heap.size)] [.int 0, .ref a])) rfl (rest := []) rfl (hb hbytes d48)
  have c14 : Steps p.tables e below (s₁.setTop (entryFrame m #[.ref a, .ref b, .int (Int32.ofNat o), .int (Int32.ofNat len), .null] 6)) (T13.setTop (mkF m 54 #[.val (.ref a), .val (.ref b), .val (.int (Int32.ofNat o)), .val (.int (Int32.ofNat len)), .val .null, .val (.ref s.heap.size)] [.ref s.heap.size, .ref a])) := (c12.trans (st13 _ (Steps.refl _))).trans (by
    refine XS.aloadN X13.here hexec rfl (hb hbytes d51) rfl rfl ?_
    refine XS.aload X13.here hexec rfl (hb hbytes d52) rfl rfl ?_
    exact Steps.refl _)
  obtain ⟨T15, X15, p15, bl15, sl15, st15⟩ := X13.finit hexec hown (wk W (.fieldLink "java/lang/String" 9 "java/lang/String" "value" "[B")) (Or.inr ⟨_, (wk W (.laysFinal "java/lang/String" "java/lang/String" "value" "[B"))⟩) (Or.inl ⟨rfl, hnm⟩) f1 (Or.inl rfl) bl13 (t := (.array .byte)) (by decide +kernel) rfl (g := (mkF m 54 #[.val (.ref a), .val (.ref b), .val (.int (Int32.ofNat o)), .val (.int (Int32.ofNat len)), .val .null, .val (.ref s.heap.size)] [.ref s.heap.size, .ref a])) rfl (rest := []) rfl (hb hbytes d54)
  have c16 : Steps p.tables e below (s₁.setTop (entryFrame m #[.ref a, .ref b, .int (Int32.ofNat o), .int (Int32.ofNat len), .null] 6)) (T15.setTop (mkF m 57 #[.val (.ref a), .val (.ref b), .val (.int (Int32.ofNat o)), .val (.int (Int32.ofNat len)), .val .null, .val (.ref s.heap.size)] [])) := c14.trans (st15 _ (Steps.refl _))
  have ap := apart (Or.inr ⟨_, (wk W (.laysFinal "java/lang/String" "java/lang/String" "value" "[B"))⟩) (Or.inr ⟨_, (wk W (.laysFinal "java/lang/String" "java/lang/String" "coder" "B"))⟩) f1 f2 (t₁ := .array .byte) (t₂ := .byte) (by decide +kernel) (by decide +kernel) (by decide)
  have al := X8.warmed.alike.symm.trans X15.warmed.alike
  have n7 : T11.heap[s.heap.size]? = some N := by rw [q11]; exact n1.1
  exact ⟨T15, none, _, _, _, X15, by simp, rfl, by omega, (fun _ => rfl), ⟨rfl, _, N, bl15, ((Same.refl D _).set _ (by simp)).set _ (by simp), sl15, (Cell.slots_setSlot_ne _ ap).trans sl13, n1.keep al (p15.other hne (p13.other hne n7)), n2, by rw [al.findClass]; exact n3, n4, n5, fun y c h1 h2 => p15.other h1 (p13.other h1 (by rw [q11]; exact n6 y c h2)), by rw [p15.2.2, p13.2.2, q11]; exact z8⟩, fun fs hl => c16.trans (X15.returnOut hexec hret (hb hbytes d57) hl)⟩
end New4
namespace New1
def yN : MethodName := ⟨"java/lang/String", "<init>", "([C)V"⟩
abbrev yB : ByteArray := jdk_42_method_3_code
theorem d0 : decode yB 0 = .ok (.aload_n 0, 1) := by decide +kernel
theorem d1 : decode yB 1 = .ok (.aload_n 1, 1) := by decide +kernel
theorem d2 : decode yB 2 = .ok (.iconst 0, 1) := by decide +kernel
theorem d3 : decode yB 3 = .ok (.aload_n 1, 1) := by decide +kernel
theorem d4 : decode yB 4 = .ok (.arraylength, 1) := by decide +kernel
theorem d5 : decode yB 5 = .ok (.aconst_null, 1) := by decide +kernel
theorem d6 : decode yB 6 = .ok (.invokespecial 27, 3) := by decide +kernel
theorem d9 : decode yB 9 = .ok (.return_, 1) := by decide +kernel
def site : List Cond := [New4.tab] ++ initW "java/lang/String" 27 New4.yN
def tab : Cond := tabOf yN yB 2 none site
def P (a : Addr) (D : Cell) (fV fC : Field) (b : Addr) (A : Cell) (z : Int32) (args : Array Value) (s : State) : Prop := args = #[.ref a, .ref b] ∧ Blank "java/lang/String" a D s ∧ Found "java/lang/String" "value" "[B" fV s ∧ Found "java/lang/String" "coder" "B" fC s ∧ Ch b A s ∧ StaticIs s "java/lang/String" "COMPACT_STRINGS" "Z" (.int z) ∧ ¬ z = 0 ∧ 0 < A.slots.size ∧ A.slots.size ≤ 536870912 ∧ ∀ i, i < A.slots.size → ¬ 255 < cv A i
def E (a : Addr) (D : Cell) (fV fC : Field) (A : Cell) (r : Option Value) (s u : State) : Prop := Got a D fV fC A 0 A.slots.size r s u
/-- new String(chars), not empty, no char above 255: a Latin-1 String of their low bytes -/
theorem law (l : Launch) (a : Addr) (D : Cell) (fV fC : Field) (b : Addr) (A : Cell) (z : Int32) : Law l yN 2 1 3 52 yB 2 none site (P a D fV fC b A z) (E a D fV fC A) [⟨a, fC.slot⟩, ⟨a, fV.slot⟩] 1 A.slots.size := by
  refine Law.of_walk (plainFor_of_name (by decide +kernel)) (by decide +kernel) (by decide +kernel) (by decide) (fun _ _ h => by rw [h.1]; rfl) (fun _ U U' hal hh h => ⟨h.1, h.2.1.mv hal hh, h.2.2.1.al hal, h.2.2.2.1.al hal, h.2.2.2.2.1.mv hal hh, h.2.2.2.2.2.1.there hal hh, h.2.2.2.2.2.2⟩) (fun r U U' V V' h1 hal h2 h => Got.mv r U U' V V' h1 hal h2 h) ?_
  intro p e s m args below meth c s₁ X0 hexec hbytes hml hret hlk hnm hown hh0 W hP
  obtain ⟨rfl, hB, f1, f2, hA, s1, hz, l0, l2, hp⟩ := hP
  have c1 : Steps p.tables e below (s₁.setTop (entryFrame m #[.ref a, .ref b] 2)) (s₁.setTop (mkF m 0 #[.val (.ref a), .val (.ref b)] [])) := entry rfl
  have c2 : Steps p.tables e below (s₁.setTop (entryFrame m #[.ref a, .ref b] 2)) (s₁.setTop (mkF m 6 #[.val (.ref a), .val (.ref b)] [.null, .int (Int32.ofNat A.slots.size), .int 0, .ref b, .ref a])) := c1.trans (by
    refine XS.aloadN X0.here hexec rfl (hb hbytes d0) rfl rfl ?_
    refine XS.aloadN X0.here hexec rfl (hb hbytes d1) rfl rfl ?_
    refine iconstV X0.here hexec rfl 0 (hb hbytes d2) (by decide) ?_
    refine XS.aloadN X0.here hexec rfl (hb hbytes d3) rfl rfl ?_
    refine X0.alen hexec (hA.1.mv X0.warmed.alike hh0) rfl rfl (hb hbytes d4) ?_
    refine XS.aconstNull X0.here hexec rfl (hb hbytes d5) ?_
    exact Steps.refl _)
  obtain ⟨v3, T3, X3, E3, g3⟩ := X0.callN hexec (New4.law l a D fV fC b A z 0 A.slots.size) rfl hown (wks W (initW "java/lang/String" 27 New4.yN)) (W New4.tab (by simp only [site, List.mem_cons, List.mem_append, true_or, or_true])) (W := 0) (Nat.le_of_ble_eq_true rfl) (Nat.le_of_ble_eq_true rfl) (Nat.le_refl _) (by show 0 + A.slots.size ≤ A.slots.size; omega) (g := (mkF m 6 #[.val (.ref a), .val (.ref b)] [.null, .int (Int32.ofNat A.slots.size), .int (Int32.ofNat 0), .ref b, .ref a])) rfl (by rw [hml]; rfl) c2 (argsL := [.ref b, .int (Int32.ofNat 0), .int (Int32.ofNat A.slots.size), .null]) (rest := []) rfl rfl (by show 2 * 0 + 0 ≤ _; decide) (hb hbytes d6) (⟨rfl, hB.mv X0.warmed.alike hh0, f1.al X0.warmed.alike, f2.al X0.warmed.alike, hA.mv X0.warmed.alike hh0, s1.there X0.warmed.alike hh0, hz, l0, by omega, l2, fun i hi => by rw [Nat.zero_add]; exact hp i hi⟩)
  have e0 := Got.mv _ s₁ s _ _ hh0.symm (Vm.Alike.refl _) rfl E3
  obtain rfl := e0.1
  have c4 : Steps p.tables e below (s₁.setTop (entryFrame m #[.ref a, .ref b] 2)) (T3.setTop (mkF m 9 #[.val (.ref a), .val (.ref b)] [])) := g3
  exact ⟨T3, none, _, _, _, X3, by simp, rfl, by omega, (fun _ => rfl), e0, fun fs hl => c4.trans (X3.returnOut hexec hret (hb hbytes d9) hl)⟩
theorem pays {l : Launch} {R : Room} {p : Program} {e : Env} {below : List Frame} {s : State} {sargs : Array Value} {len W : Nat} (a : Addr) (D : Cell) (fV fC : Field) (b : Addr) (A : Cell) (z : Int32) (htab : tab.before sargs s = true) (hfr : 4 ≤ R.frames) (hlo : W + 65 ≤ R.locals) :
    Back l R p e below s sargs yN len W (fun A₁ a₁ => A₁.cells + 1 ≤ R.cells ∧ A₁.slots + A.slots.size ≤ R.slots ∧ P a D fV fC b A z a₁ A₁.U) (fun A₁ _ v₁ B₁ => E a D fV fC A v₁ A₁.U B₁.U ∧ B₁.locs = A₁.locs ++ [⟨a, fC.slot⟩, ⟨a, fV.slot⟩] ∧ B₁.cells = A₁.cells + 1 ∧ B₁.slots = A₁.slots + A.slots.size) :=
  (law l a D fV fC b A z).pays htab hfr (by omega)
end New1
end StrChars
namespace StrChars.Road
open Jvm Sem ClassFile Op Lib Jvm.Stand Jvm.Free Jvm.Free.XT
open Jvm.Lib.Cold (StaticIs)
abbrev ST : String := "java/lang/String"
/-- every table word that New1's law asks, flat -/
abbrev words : List Jvm.Cond := [.code New1.yN New1.yB 2 none, .initialized ST, .methodLink ST 27 New4.yN, .instanceMethod New4.yN,
  .code New4.yN New4.yB 6 none, .fieldLink ST 38 ST "COMPACT_STRINGS" "Z", .laysFinal ST ST "value" "[B", .fieldLink ST 9 ST "value" "[B", .laysFinal ST ST "coder" "B", .fieldLink ST 15 ST "coder" "B",
  .methodLink ST 1 Lib.objectInit, .instanceMethod Lib.objectInit, .code Lib.objectInit ⟨#[0xb1]⟩ 1 none, .methodLink ST 177 Cmp3.yN, .static Cmp3.yN, .methodLink ST 47 CodL.yN, .static CodL.yN,
  .code Cmp3.yN Cmp3.yB 6 (some (.array .byte)), .initialized U16, .arrayClass .byte, .methodLink U16 115 Cmp5.yN, .static Cmp5.yN, .code Cmp5.yN Cmp5.yB 7 (some .int), .code CodL.yN CodL.yB 2 (some .byte)]
theorem tab_of {a : Array Value} {s : State} (h : ∀ w ∈ words, w.before a s = true) : New1.tab.before a s = true := by
  have h5 : Cmp5.tab.before a s = true := unparts (wk h (.code Cmp5.yN Cmp5.yB 7 (some .int))) (wks h (.initialized Cmp5.yN.cls :: Cmp5.site))
  have hc : CodL.tab.before a s = true := unparts (wk h (.code CodL.yN CodL.yB 2 (some .byte))) (wks h (.initialized CodL.yN.cls :: CodL.site))
  have q5 : ∀ w ∈ Cmp5.tab :: words, w.before a s = true := fun w hw => (List.mem_cons.mp hw).elim (fun e => e ▸ h5) (h w)
  have h3 : Cmp3.tab.before a s = true := unparts (wk q5 (.code Cmp3.yN Cmp3.yB 6 (some (.array .byte)))) (wks q5 (.initialized Cmp3.yN.cls :: Cmp3.site))
  have q3 : ∀ w ∈ Cmp3.tab :: CodL.tab :: words, w.before a s = true := fun w hw => (List.mem_cons.mp hw).elim (fun e => e ▸ h3) fun hw => (List.mem_cons.mp hw).elim (fun e => e ▸ hc) (h w)
  have h4 : New4.tab.before a s = true := unparts (wk q3 (.code New4.yN New4.yB 6 none)) (wks q3 (.initialized New4.yN.cls :: New4.site))
  have q4 : ∀ w ∈ New4.tab :: words, w.before a s = true := fun w hw => (List.mem_cons.mp hw).elim (fun e => e ▸ h4) (h w)
  exact unparts (wk q4 (.code New1.yN New1.yB 2 none)) (wks q4 (.initialized New1.yN.cls :: New1.site))
/-- the words ride from the start Z to the walk's own state -/
theorem moved {Z s : State} {a0 args : Array Value} (hZ : Z.Warmed39 s.vm) (hw : ∀ d ∈ words, d.before a0 Z = true) : ∀ d ∈ words, d.before args s = true := fun d hd => by
  have q := hw d hd
  have t : ∀ d ∈ words, d = .arrayClass .byte ∨ (d.onTables && d.keepsFace) = true := by decide +kernel
  rcases t d hd with rfl | t
  · exact RoadKit.mvA hZ q
  · exact RoadKit.mv hZ q t
/-- WHAT COMES BACK, over the tables of the start Z: h the heap at the call, h' behind it -/
def Q (Z : State) (x : Addr) (A : Cell) (h : Heap) (v : Option Value) (h' : Heap) (L : List Loc) : Prop := v = none ∧ (∀ y ∈ L, y.base = x) ∧ RoadKit.Keep h h' [x] ∧ h'.size = h.size + 1 ∧ RoadKit.Exa Z h' x ST ∧ RoadKit.Fld Z h' x ST "value" "[B" (.ref h.size) ∧ RoadKit.Fld Z h' x ST "coder" "B" (.int 0) ∧
  (∃ V : Cell, RoadKit.Arr Z h' h.size V .byte ∧ V.vm = .none ∧ Z.vm.findClass "[B" = some V.cls ∧ V.slots.size = A.slots.size ∧ ∀ j, j < A.slots.size → V.slots[j]? = some (.int (lo8 (cv A j)))) ∧
  ∀ (O n d : String) (w : Value), RoadKit.Fld Z h x O n d w → RoadKit.slotOf Z O n d ≠ RoadKit.slotOf Z ST "value" "[B" → RoadKit.slotOf Z O n d ≠ RoadKit.slotOf Z ST "coder" "B" → RoadKit.Fld Z h' x O n d w
/-- **new String(chars) AT A CALL, IN THE ROAD'S FORM**: for specialBack behind newO: x the fresh String, b the char[] with the cell A -/
theorem back {p : Program} {l : Launch} {e : Env} {R : Room} {s : State} {args : Array Value} {below : List Frame} {len W : Nat} {Z : State} {a0 : Array Value} {h : Heap} (hZ : Z.Warmed39 s.vm) (hw : ∀ d ∈ words, d.before a0 Z = true) {kI : Nat} (wi : (Jvm.Cond.instantiable ST kI).before a0 Z = true)
    {x b : Addr} {A : Cell} {z : Int32} {v0 c0 : Value} (E : RoadKit.Exa Z h x ST) (V : RoadKit.Fld Z h x ST "value" "[B" v0) (C : RoadKit.Fld Z h x ST "coder" "B" c0) (K : RoadKit.Arr Z h b A .char) (hty : Typed .char A) (S : RoadKit.Sta Z h ST "COMPACT_STRINGS" "Z" (.int z)) (hz : ¬ z = 0)
    (l0 : 0 < A.slots.size) (l2 : A.slots.size ≤ 536870912) (hp : ∀ i, i < A.slots.size → ¬ 255 < cv A i) (hfr : 4 ≤ R.frames) (hlo : W + 65 ≤ R.locals) :
    Back l R p e below s args New1.yN len W (fun P a => a = #[.ref x, .ref b] ∧ P.U.heap = h ∧ P.cells + 1 ≤ R.cells ∧ P.slots + A.slots.size ≤ R.slots)
      (fun P _ v B => ∃ L, Q Z x A h v B.U.heap L ∧ B.locs = P.locs ++ L ∧ B.cells = P.cells + 1 ∧ B.slots = P.slots + A.slots.size) := by
  intro m meth c P g ig mk a X hg hsize hdg hW hn hp'
  obtain ⟨rfl, rfl, r1, r2⟩ := hp'
  have al : Z.vm.Alike P.U.vm := hZ.alike.trans X.warmed.alike
  obtain ⟨D, cfV, kV, iV, fV, hD, gV, stV, knV, obV, asV, slV⟩ := id V
  obtain ⟨D', cfC, kC, iC, fC, hD', gC, stC, -, -, asC, slC⟩ := id C
  cases hD.symm.trans hD'
  obtain ⟨D2, kD, e1, e2, e3, e4, e5⟩ := id E
  cases hD.symm.trans e1
  obtain ⟨c2, k2, i1, i2, i3, -⟩ := Cond.instantiable_spec wi
  cases e2.symm.trans i1
  cases e3.symm.trans i2
  obtain ⟨kU, u1, u2⟩ := al.2.2 _ _ e3
  have hB : Blank ST x D P.U := ⟨hD, ⟨knV, fun q hq => by rw [hq] at obV; cases obV⟩, by rw [al.findClass]; exact e2, kU, u1, by rw [u2]; exact i3, by rw [u2]; exact e5 i3⟩
  have F1 : Found ST "value" "[B" fV P.U := ⟨SBG.found_only al ⟨cfV, kV, iV, gV⟩, stV⟩
  have F2 : Found ST "coder" "B" fC P.U := ⟨SBG.found_only al ⟨cfC, kC, iC, gC⟩, stC⟩
  have hA : Ch b A P.U := ⟨⟨K.1, State.isArrayOf_alike al K.2.1, K.2.2, by omega⟩, hty⟩
  have hS : StaticIs P.U ST "COMPACT_STRINGS" "Z" (.int z) := by
    obtain ⟨cfS, iS, kS, fS, st, cS, t1, t2, t3, t4, t5, t6, t7⟩ := S
    exact StaticIs.there (s := { Z with heap := P.U.heap }) ⟨cfS, iS, kS, fS, st, cS, t1, t2, t3, t4, t5, (fun q => by rw [q] at t6; cases t6), t7⟩ al rfl
  obtain ⟨v, B, X', ⟨⟨hv, E', V', q1, q2, q3, q4, q5, q6, q7, q8, q9, q10, q11⟩, hl, hc, hs⟩, st⟩ := New1.pays x D fV fC b A z (tab_of (moved hZ hw)) hfr hlo m meth c P g ig mk _ X hg hsize hdg hW hn ⟨r1, r2, rfl, hB, F1, F2, hA, hS, hz, l0, l2, hp⟩
  have al' : Z.vm.Alike B.U.vm := hZ.alike.trans X'.warmed.alike
  have hsz : E'.slots.size = D.slots.size := by
    obtain ⟨-, -, -, kB, w1, w2, w3⟩ := q1
    obtain ⟨kB', y1, y2⟩ := al'.2.2 _ _ e3
    rw [q2.2.1] at w1
    cases w1.symm.trans y1
    rw [w3, e5 i3, y2]
  refine ⟨v, B, X', ⟨_, ⟨hv, ?_, ⟨by omega, fun y cy hy hn' => q10 y cy (by simpa using hn') hy, fun y cy hy => ?_⟩, q11, ⟨E', _, q1.1, by rw [q2.2.1]; exact e2, by rw [q2.2.1]; exact e3, by rw [q2.1]; exact obV, fun _ => by rw [hsz]; exact e5 i3⟩,
    ⟨E', cfV, kV, iV, fV, q1.1, gV, stV, by rw [q2.1]; exact knV, by rw [q2.1]; exact obV, by rw [q2.2.1]; exact asV, q3⟩, ⟨E', cfC, kC, iC, fC, q1.1, gC, stC, by rw [q2.1]; exact knV, by rw [q2.1]; exact obV, by rw [q2.2.1]; exact asC, q4⟩,
    ⟨V', ⟨q5.1, State.isArrayOf_alike al'.symm q5.2.1, q5.2.2.1⟩, q6, by rw [← al'.findClass]; exact q7, q8, fun j hj => by have := q9 j hj; rwa [Nat.zero_add] at this⟩, fun O n d w F n1 n2 => ?_⟩, hl, hc, hs⟩, st⟩
  · intro y hy
    simp only [List.mem_cons, List.not_mem_nil, or_false] at hy
    rcases hy with rfl | rfl <;> rfl
  · by_cases q : y = x
    · subst q
      cases hD.symm.trans hy
      exact ⟨E', q1.1, q2.2.1, q2.1, hsz⟩
    · exact ⟨cy, q10 y cy q hy, rfl, rfl, rfl⟩
  · obtain ⟨D3, cf, k, i, f, g1, g2, g3, g4, g5, g6, g7⟩ := F
    cases hD.symm.trans g1
    simp only [RoadKit.slotOf, g2, gV, gC, Option.map_some, Option.getD_some] at n1 n2
    exact ⟨E', cf, k, i, f, q1.1, g2, g3, by rw [q2.1]; exact g4, by rw [q2.1]; exact g5, by rw [q2.2.1]; exact g6, by rw [q2.2.2 f.slot (by simp [n1, n2])]; exact g7⟩
end StrChars.Road
namespace StrChars.Road
open Jvm Sem ClassFile Op Lib Jvm.Stand Jvm.Free Jvm.Free.XT
/-- WHAT COMES BACK, the byte[] as a list of values -/
def QA (Z : State) (x : Addr) (zn : Int32) (cs : List Int32) (h : Heap) (v : Option Value) (h' : Heap) (L : List Loc) : Prop := v = none ∧ (∀ y ∈ L, y.base = x) ∧ RoadKit.Keep h h' [x] ∧ h'.size = h.size + 1 ∧ RoadKit.Exa Z h' x ST ∧ RoadKit.Fld Z h' x ST "value" "[B" (.ref h.size) ∧ RoadKit.Fld Z h' x ST "coder" "B" (.int 0) ∧
  (∃ kb, Z.vm.findClass "[B" = some kb ∧ RoadKit.Arv Z h' h.size kb .byte zn (cs.map fun c => .int (lo8 c)) (.int 0)) ∧
  ∀ (O n d : String) (w : Value), RoadKit.Fld Z h x O n d w → RoadKit.slotOf Z O n d ≠ RoadKit.slotOf Z ST "value" "[B" → RoadKit.slotOf Z O n d ≠ RoadKit.slotOf Z ST "coder" "B" → RoadKit.Fld Z h' x O n d w
/-- **new String(chars) AT A CALL, THE ARRAYS AS LISTS**: the char[] at b holds cs, not empty, no char above 255 -/
theorem backArv {p : Program} {l : Launch} {e : Env} {R : Room} {s : State} {args : Array Value} {below : List Frame} {len W : Nat} {Z : State} {a0 : Array Value} {h : Heap} (hZ : Z.Warmed39 s.vm) (hw : ∀ d ∈ words, d.before a0 Z = true) {kI : Nat} (wi : (Jvm.Cond.instantiable ST kI).before a0 Z = true)
    {x b : Addr} {k : ClassId} {zn z : Int32} {cs : List Int32} {dv v0 c0 : Value} (E : RoadKit.Exa Z h x ST) (V : RoadKit.Fld Z h x ST "value" "[B" v0) (C : RoadKit.Fld Z h x ST "coder" "B" c0) (K : RoadKit.Arv Z h b k .char zn (cs.map Value.int) dv) (S : RoadKit.Sta Z h ST "COMPACT_STRINGS" "Z" (.int z)) (hz : ¬ z = 0)
    (hlen : zn.toNatClampNeg = cs.length) (h0 : 0 < cs.length) (hbig : cs.length ≤ 536870912) (hall : ∀ c ∈ cs, ¬ 255 < c) (hfr : 4 ≤ R.frames) (hlo : W + 65 ≤ R.locals) :
    Back l R p e below s args New1.yN len W (fun P a => a = #[.ref x, .ref b] ∧ P.U.heap = h ∧ P.cells + 1 ≤ R.cells ∧ P.slots + cs.length ≤ R.slots)
      (fun P _ v B => ∃ L, QA Z x zn cs h v B.U.heap L ∧ B.locs = P.locs ++ L ∧ B.cells = P.cells + 1 ∧ B.slots = P.slots + cs.length) := by
  obtain ⟨A, K1, K2, K3, K4, K5, K6⟩ := K
  have e : A.slots.size = cs.length := K3.trans hlen
  have hat : ∀ (i : Nat) (hi : i < cs.length), A.slots[i]? = some (.int cs[i]) := fun i hi => by rw [K5 i (by omega)]; simp [List.getD_eq_getElem?_getD, hi]
  have hcv : ∀ (i : Nat) (hi : i < cs.length), cv A i = cs[i] := fun i hi => by unfold cv; rw [hat i hi]
  have hty : Typed .char A := fun i v hv => by
    have hi : i < A.slots.size := (Array.getElem?_eq_some_iff.mp hv).1
    have q := K5 i hi
    rw [hv] at q
    rw [Option.some.inj q]
    exact K6 i hi
  refine Back.mono (back hZ hw wi E V C K1 hty S hz (by omega) (by omega) (fun i hi => by rw [hcv i (by omega)]; exact hall _ (List.getElem_mem _)) hfr hlo) (fun P a hp => ⟨hp.1, hp.2.1, hp.2.2.1, by rw [e]; exact hp.2.2.2⟩) (fun P a v B hp hq => ?_)
  obtain ⟨L, ⟨q1, q2, q3, q4, q5, q6, q7, ⟨V', v1, v2, v3, v4, v5⟩, q9⟩, hl, hc, hs⟩ := hq
  refine ⟨L, ⟨q1, q2, q3, q4, q5, q6, q7, ⟨V'.cls, v3, V', v1, rfl, by rw [v4, e, hlen], K4, fun i hi => ?_, fun i hi => ?_⟩, q9⟩, hl, hc, by rw [hs, e]⟩
  · have hi' : i < cs.length := by omega
    rw [v5 i (by omega), hcv i hi']; simp [List.getD_eq_getElem?_getD, hi']
  · have hi' : i < cs.length := by omega
    simp only [List.getD_eq_getElem?_getD, List.getElem?_map, List.getElem?_eq_getElem hi', Option.map_some, Option.getD_some]
    exact fits_lo8 _
end StrChars.Road
namespace StrChars.Road
open Jvm Sem ClassFile Op Lib Jvm.Stand Jvm.Free Jvm.Free.XT
/-- WHAT COMES BACK, in the writer's own shape -/
def QV (Z : State) (x : Addr) (N : Int32) (bs : List Int32) (h : Heap) (n0 : Nat) (v : Option Value) (h' : Heap) (L : List Loc) : Prop := v = none ∧ RoadKit.Fr n0 L ∧ RoadKit.Keep h h' [x] ∧ RoadKit.Exa Z h' x ST ∧ RoadKit.Fld Z h' x ST "coder" "B" (.int 0) ∧
  ∃ (t : Addr) (kb : ClassId), n0 ≤ t ∧ h.size ≤ t ∧ ¬ t = x ∧ RoadKit.Fld Z h' x ST "value" "[B" (.ref t) ∧ RoadKit.Arv Z h' t kb .byte N (bs.map Value.int) (.int 0)
/-- **new String(chars) AT A CALL, FOR THE WRITER**: a char[] of n known ints, each 0 to 255 -/
theorem backV {p : Program} {l : Launch} {e : Env} {R : Room} {s : State} {args : Array Value} {below : List Frame} {len W : Nat} {Z : State} {a0 : Array Value} {h : Heap} (hZ : Z.Warmed39 s.vm) (hw : ∀ d ∈ words, d.before a0 Z = true) {kI : Nat} (wi : (Jvm.Cond.instantiable ST kI).before a0 Z = true)
    {x b : Addr} {kC : ClassId} {cs bs : List Int32} {d v0 c0 : Value} {z N : Int32} {n n0 : Nat} (hx0 : n0 ≤ x) (hh0 : n0 ≤ h.size) (E : RoadKit.Exa Z h x ST) (V : RoadKit.Fld Z h x ST "value" "[B" v0) (C : RoadKit.Fld Z h x ST "coder" "B" c0) (K : RoadKit.Arv Z h b kC .char N (cs.map Value.int) d) (S : RoadKit.Sta Z h ST "COMPACT_STRINGS" "Z" (.int z)) (hz : ¬ z = 0)
    (hn : cs.length = n) (hN : N = Int32.ofNat n) (l0 : 0 < n) (l2 : n ≤ 4000) (hp : ∀ c ∈ cs, ¬ c < 0 ∧ ¬ (255 : Int32) < c) (hb : bs = cs.map (fun c => c.toInt8.toInt32)) (hfr : 4 ≤ R.frames) (hlo : W + 65 ≤ R.locals) :
    Back l R p e below s args (⟨"java/lang/String", "<init>", "([C)V"⟩ : MethodName) len W (fun P a => a = #[.ref x, .ref b] ∧ P.U.heap = h ∧ P.cells + 1 ≤ R.cells ∧ P.slots + n ≤ R.slots)
      (fun P _ v B => ∃ L, QV Z x N bs h n0 v B.U.heap L ∧ B.locs = P.locs ++ L ∧ B.cells = P.cells + 1 ∧ B.slots = P.slots + n) := by
  subst hn hN hb
  refine Back.mono (backArv hZ hw wi E V C K S hz (n32 (by omega)) l0 (by omega) (fun c hc => (hp c hc).2) hfr hlo) (fun P a hp => hp) (fun P a v B hp hq => ?_)
  obtain ⟨L, ⟨q1, q2, q3, q4, q5, q6, q7, ⟨kb, v1, v2⟩, q9⟩, hl, hc, hs⟩ := hq
  exact ⟨L, ⟨q1, fun y hy => by rw [q2 y hy]; exact hx0, q3, q5, q7, h.size, kb, hh0, Nat.le_refl _, Nat.ne_of_gt E.lt, q6, by rw [List.map_map]; exact v2⟩, hl, hc, hs⟩
end StrChars.Road
end Jvm.Pilot.@@N@@
namespace Jvm.Pilot.@@N@@
open Jvm Jvm.ClassFile Sem Op Lib Jvm.Free Jvm.Stand Jvm.LawKit Jvm.RoadKit Bundle Jvm.Pilot.@@N@@.Jvm.D
namespace Wk
open Jvm Jvm.ClassFile Sem Op Lib Jvm.Free Jvm.Stand Jvm.LawKit Jvm.RoadKit
/-- the fixed part of a walk: program, environment, the state at the invocation, the method, its arguments, the frames below, the method's record, its code -/
abbrev Wd : Type := Program × Env × State × MethodId × Array Value × List Frame × Method × Code
abbrev Wd.p (W : Wd) : Program := W.1
abbrev Wd.e (W : Wd) : Env := W.2.1
abbrev Wd.s (W : Wd) : State := W.2.2.1
abbrev Wd.m (W : Wd) : MethodId := W.2.2.2.1
abbrev Wd.a (W : Wd) : Array Value := W.2.2.2.2.1
abbrev Wd.b (W : Wd) : List Frame := W.2.2.2.2.2.1
abbrev Wd.t (W : Wd) : Method := W.2.2.2.2.2.2.1
abbrev Wd.c (W : Wd) : Code := W.2.2.2.2.2.2.2
abbrev Post : Type := Option Value → Heap → Prop
def Go (R : Room) (Z : State) (W : Wd) (Q : Post) (A : State) : Prop :=
  ∃ s₂ o, Steps W.p.tables W.e W.b A s₂ ∧ s₂.status = .running ∧ Ended s₂ W.b o ∧ ∃ v L, o = .returned v ∧ (Q v s₂.heap ∧ Ext Z.heap s₂.heap ∧ Fr Z.heap.size L) ∧ FrameEnd W.s o s₂ L R.cells R.slots
abbrev Std (l : Launch) (R : Room) (W : Wd) (T : State) (locs : List Loc) (k n : Nat) : Prop := Stand W.p l W.e R W.s W.m W.a W.b W.t W.c T locs k n
def Run (l : Launch) (R : Room) (Z : State) (W : Wd) (Q : Post) (h : Heap) (k n : Nat) (f : JFrame) : Prop :=
  ∀ T locs, Std l R W T locs k n → T.heap = h → Fr Z.heap.size locs → Ext Z.heap h → Go R Z W Q (T.setTop f)
def Cx (Z : State) (W : Wd) (own nm : String) (code : ByteArray) (maxL : Nat) (ret : Option FieldType) : Prop :=
  W.p.tables.exec = Jvm.exec ∧ W.c.code = code ∧ W.c.maxLocals = maxL ∧ W.s.vm.findClass own = some W.m.cls ∧ Z.Warmed39 W.s.vm ∧ W.t.sig.returnType = ret ∧ W.t.name = nm ∧ W.t.locks = false
section Kit
variable {l : Launch} {R : Room} {Z : State} {W : Wd} {Q : Post} {h : Heap} {k n : Nat} {own nm : String} {code : ByteArray} {maxL : Nat} {ret : Option FieldType} {a0 : Array Value} {pc pc' : Nat} {Ls : Array Slot} {st : List Value}
theorem Cx.hx (C : Cx Z W own nm code maxL ret) : W.p.tables.exec = Jvm.exec := C.1
theorem Cx.hb (C : Cx Z W own nm code maxL ret) {pc : Nat} {r : Except ClassFile.DecodeError (ClassFile.Instr × Nat)} (h2 : decode code pc = r) : decode W.c.code pc = r := C.2.1 ▸ h2
theorem Cx.ow (C : Cx Z W own nm code maxL ret) : W.s.vm.findClass own = some W.m.cls := C.2.2.2.1
theorem Cx.hZ (C : Cx Z W own nm code maxL ret) : Z.Warmed39 W.s.vm := C.2.2.2.2.1
theorem Cx.ml (C : Cx Z W own nm code maxL ret) : W.c.maxLocals = maxL := C.2.2.1
theorem Cx.rt (C : Cx Z W own nm code maxL ret) : W.t.sig.returnType = ret := C.2.2.2.2.2.1
theorem Cx.nme (C : Cx Z W own nm code maxL ret) : W.t.name = nm := C.2.2.2.2.2.2.1
theorem Cx.lk (C : Cx Z W own nm code maxL ret) : W.t.locks = false := C.2.2.2.2.2.2.2
theorem old_of (O : Ext Z.heap h) : Old Z Z.heap.size h := ⟨rfl, O⟩
theorem Go.step {A B : State} (f : ∀ t, Steps W.p.tables W.e W.b B t → Steps W.p.tables W.e W.b A t) (g : Go R Z W Q B) : Go R Z W Q A := by
  obtain ⟨t, o, h1, r⟩ := g
  exact ⟨t, o, f t h1, r⟩
theorem Run.one {g g' : JFrame} (f : ∀ T locs, Std l R W T locs k n → T.heap = h → ∀ t, Steps W.p.tables W.e W.b (T.setTop g') t → Steps W.p.tables W.e W.b (T.setTop g) t) (r : Run l R Z W Q h k n g') : Run l R Z W Q h k n g :=
  fun T locs X eT N O => Go.step (f T locs X eT) (r T locs X eT N O)
theorem Run.old {f : JFrame} (r : Ext Z.heap h → Run l R Z W Q h k n f) : Run l R Z W Q h k n f := fun T locs X eT N O => r O T locs X eT N O
theorem Run.grow {f : JFrame} {k' n' : Nat} (hk : k ≤ k') (hn : n ≤ n') (r : Run l R Z W Q h k' n' f) : Run l R Z W Q h k n f := fun T locs X eT N O =>
  r T locs ⟨X.admits, X.cas, X.clock, X.frames, X.room, X.hears, X.method, X.code, X.here, X.tail, X.warmed, X.limits, X.bytes, X.same.mono hk hn⟩ eT N O

theorem iloadN (C : Cx Z W own nm code maxL ret) {i : Fin 4} {v : Int32} (hd : decode code pc = .ok (.iload_n i, 1)) (hl : Ls[i.val]? = some (.val (.int v))) (hp : pc + 1 = pc')
    (r : Run l R Z W Q h k n (mkF W.m pc' Ls (.int v :: st))) : Run l R Z W Q h k n (mkF W.m pc Ls (st)) := by
  subst hp
  exact Run.one (fun T locs X _ t g => XS.iloadN X.here C.hx rfl (C.hb hd) hl g) r
theorem iload (C : Cx Z W own nm code maxL ret) {i : Nat} {v : Int32} (hd : decode code pc = .ok (.iload i, 2)) (hl : Ls[i]? = some (.val (.int v))) (hp : pc + 2 = pc')
    (r : Run l R Z W Q h k n (mkF W.m pc' Ls (.int v :: st))) : Run l R Z W Q h k n (mkF W.m pc Ls (st)) := by
  subst hp
  exact Run.one (fun T locs X _ t g => XS.iload X.here C.hx rfl (C.hb hd) hl g) r
theorem lloadN (C : Cx Z W own nm code maxL ret) {i : Fin 4} {v : Int64} (hd : decode code pc = .ok (.lload_n i, 1)) (hl : Ls[i.val]? = some (.val (.long v))) (hp : pc + 1 = pc')
    (r : Run l R Z W Q h k n (mkF W.m pc' Ls (.long v :: st))) : Run l R Z W Q h k n (mkF W.m pc Ls (st)) := by
  subst hp
  exact Run.one (fun T locs X _ t g => XS.lloadN X.here C.hx rfl (C.hb hd) hl g) r
theorem lload (C : Cx Z W own nm code maxL ret) {i : Nat} {v : Int64} (hd : decode code pc = .ok (.lload i, 2)) (hl : Ls[i]? = some (.val (.long v))) (hp : pc + 2 = pc')
    (r : Run l R Z W Q h k n (mkF W.m pc' Ls (.long v :: st))) : Run l R Z W Q h k n (mkF W.m pc Ls (st)) := by
  subst hp
  exact Run.one (fun T locs X _ t g => XS.lload X.here C.hx rfl (C.hb hd) hl g) r
theorem aloadN (C : Cx Z W own nm code maxL ret) {i : Fin 4} {v : Value} (hd : decode code pc = .ok (.aload_n i, 1)) (hl : Ls[i.val]? = some (.val v)) (hv : v.isRef = true) (hp : pc + 1 = pc')
    (r : Run l R Z W Q h k n (mkF W.m pc' Ls (v :: st))) : Run l R Z W Q h k n (mkF W.m pc Ls (st)) := by
  subst hp
  exact Run.one (fun T locs X _ t g => XS.aloadN X.here C.hx rfl (C.hb hd) hl hv g) r
theorem aload (C : Cx Z W own nm code maxL ret) {i : Nat} {v : Value} (hd : decode code pc = .ok (.aload i, 2)) (hl : Ls[i]? = some (.val v)) (hv : v.isRef = true) (hp : pc + 2 = pc')
    (r : Run l R Z W Q h k n (mkF W.m pc' Ls (v :: st))) : Run l R Z W Q h k n (mkF W.m pc Ls (st)) := by
  subst hp
  exact Run.one (fun T locs X _ t g => XS.aload X.here C.hx rfl (C.hb hd) hl hv g) r
theorem istoreN (C : Cx Z W own nm code maxL ret) {i : Fin 4} {v : Int32} {Ls' : Array Slot} (hd : decode code pc = .ok (.istore_n i, 1)) (hl : storeLocals Ls i.val (.int v) = some Ls') (hp : pc + 1 = pc')
    (r : Run l R Z W Q h k n (mkF W.m pc' Ls' (st))) : Run l R Z W Q h k n (mkF W.m pc Ls (.int v :: st)) := by
  subst hp
  exact Run.one (fun T locs X _ t g => XS.istoreN X.here C.hx rfl (C.hb hd) rfl hl g) r
theorem istore (C : Cx Z W own nm code maxL ret) {i : Nat} {v : Int32} {Ls' : Array Slot} (hd : decode code pc = .ok (.istore i, 2)) (hl : storeLocals Ls i (.int v) = some Ls') (hp : pc + 2 = pc')
    (r : Run l R Z W Q h k n (mkF W.m pc' Ls' (st))) : Run l R Z W Q h k n (mkF W.m pc Ls (.int v :: st)) := by
  subst hp
  exact Run.one (fun T locs X _ t g => XS.istore X.here C.hx rfl (C.hb hd) rfl hl g) r
theorem lstoreN (C : Cx Z W own nm code maxL ret) {i : Fin 4} {v : Int64} {Ls' : Array Slot} (hd : decode code pc = .ok (.lstore_n i, 1)) (hl : storeLocals Ls i.val (.long v) = some Ls') (hp : pc + 1 = pc')
    (r : Run l R Z W Q h k n (mkF W.m pc' Ls' (st))) : Run l R Z W Q h k n (mkF W.m pc Ls (.long v :: st)) := by
  subst hp
  exact Run.one (fun T locs X _ t g => XS.lstoreN X.here C.hx rfl (C.hb hd) rfl hl g) r
theorem lstore (C : Cx Z W own nm code maxL ret) {i : Nat} {v : Int64} {Ls' : Array Slot} (hd : decode code pc = .ok (.lstore i, 2)) (hl : storeLocals Ls i (.long v) = some Ls') (hp : pc + 2 = pc')
    (r : Run l R Z W Q h k n (mkF W.m pc' Ls' (st))) : Run l R Z W Q h k n (mkF W.m pc Ls (.long v :: st)) := by
  subst hp
  exact Run.one (fun T locs X _ t g => XS.lstore X.here C.hx rfl (C.hb hd) rfl hl g) r
theorem astoreN (C : Cx Z W own nm code maxL ret) {i : Fin 4} {v : Value} {Ls' : Array Slot} (hd : decode code pc = .ok (.astore_n i, 1)) (hv : v.isRef = true) (hl : storeLocals Ls i.val v = some Ls') (hp : pc + 1 = pc')
    (r : Run l R Z W Q h k n (mkF W.m pc' Ls' (st))) : Run l R Z W Q h k n (mkF W.m pc Ls (v :: st)) := by
  subst hp
  exact Run.one (fun T locs X _ t g => XS.astoreN X.here C.hx rfl (C.hb hd) rfl hv hl g) r
theorem astore (C : Cx Z W own nm code maxL ret) {i : Nat} {v : Value} {Ls' : Array Slot} (hd : decode code pc = .ok (.astore i, 2)) (hv : v.isRef = true) (hl : storeLocals Ls i v = some Ls') (hp : pc + 2 = pc')
    (r : Run l R Z W Q h k n (mkF W.m pc' Ls' (st))) : Run l R Z W Q h k n (mkF W.m pc Ls (v :: st)) := by
  subst hp
  exact Run.one (fun T locs X _ t g => XS.astore X.here C.hx rfl (C.hb hd) rfl hv hl g) r
theorem iconst (C : Cx Z W own nm code maxL ret) {i : Int} {v : Int32} (hd : decode code pc = .ok (.iconst i, 1)) (hv : Int32.ofInt i = v) (hp : pc + 1 = pc')
    (r : Run l R Z W Q h k n (mkF W.m pc' Ls (.int v :: st))) : Run l R Z W Q h k n (mkF W.m pc Ls (st)) := by
  subst hp
  exact Run.one (fun T locs X _ t g => XS.iconst X.here C.hx rfl (C.hb hd) (hv ▸ g)) r
theorem bipush (C : Cx Z W own nm code maxL ret) {i : Int} {v : Int32} (hd : decode code pc = .ok (.bipush i, 2)) (hv : (Int8.ofInt i).toInt32 = v) (hp : pc + 2 = pc')
    (r : Run l R Z W Q h k n (mkF W.m pc' Ls (.int v :: st))) : Run l R Z W Q h k n (mkF W.m pc Ls (st)) := by
  subst hp
  exact Run.one (fun T locs X _ t g => XS.bipush X.here C.hx rfl (C.hb hd) (hv ▸ g)) r
theorem sipush (C : Cx Z W own nm code maxL ret) {i : Int} {v : Int32} (hd : decode code pc = .ok (.sipush i, 3)) (hv : (Int16.ofInt i).toInt32 = v) (hp : pc + 3 = pc')
    (r : Run l R Z W Q h k n (mkF W.m pc' Ls (.int v :: st))) : Run l R Z W Q h k n (mkF W.m pc Ls (st)) := by
  subst hp
  exact Run.one (fun T locs X _ t g => XS.sipush X.here C.hx rfl (C.hb hd) (hv ▸ g)) r
theorem lconst (C : Cx Z W own nm code maxL ret) {i : Fin 2} {v : Int64} (hd : decode code pc = .ok (.lconst i, 1)) (hv : Int64.ofNat i = v) (hp : pc + 1 = pc')
    (r : Run l R Z W Q h k n (mkF W.m pc' Ls (.long v :: st))) : Run l R Z W Q h k n (mkF W.m pc Ls (st)) := by
  subst hp
  exact Run.one (fun T locs X _ t g => XS.lconst X.here C.hx rfl (C.hb hd) (hv ▸ g)) r
theorem aconstNull (C : Cx Z W own nm code maxL ret)  (hd : decode code pc = .ok (.aconst_null, 1)) (hp : pc + 1 = pc')
    (r : Run l R Z W Q h k n (mkF W.m pc' Ls (.null :: st))) : Run l R Z W Q h k n (mkF W.m pc Ls (st)) := by
  subst hp
  exact Run.one (fun T locs X _ t g => XS.aconstNull X.here C.hx rfl (C.hb hd) g) r
theorem iadd (C : Cx Z W own nm code maxL ret) {x y v : Int32} (hd : decode code pc = .ok (.iadd, 1)) (hv : x + y = v) (hp : pc + 1 = pc')
    (r : Run l R Z W Q h k n (mkF W.m pc' Ls (.int v :: st))) : Run l R Z W Q h k n (mkF W.m pc Ls (.int y :: .int x :: st)) := by
  subst hp
  exact Run.one (fun T locs X _ t g => XS.iadd X.here C.hx rfl (C.hb hd) rfl (hv ▸ g)) r
theorem isub (C : Cx Z W own nm code maxL ret) {x y v : Int32} (hd : decode code pc = .ok (.isub, 1)) (hv : x - y = v) (hp : pc + 1 = pc')
    (r : Run l R Z W Q h k n (mkF W.m pc' Ls (.int v :: st))) : Run l R Z W Q h k n (mkF W.m pc Ls (.int y :: .int x :: st)) := by
  subst hp
  exact Run.one (fun T locs X _ t g => XS.isub X.here C.hx rfl (C.hb hd) rfl (hv ▸ g)) r
theorem imul (C : Cx Z W own nm code maxL ret) {x y v : Int32} (hd : decode code pc = .ok (.imul, 1)) (hv : x * y = v) (hp : pc + 1 = pc')
    (r : Run l R Z W Q h k n (mkF W.m pc' Ls (.int v :: st))) : Run l R Z W Q h k n (mkF W.m pc Ls (.int y :: .int x :: st)) := by
  subst hp
  exact Run.one (fun T locs X _ t g => XS.imul X.here C.hx rfl (C.hb hd) rfl (hv ▸ g)) r
theorem iand (C : Cx Z W own nm code maxL ret) {x y v : Int32} (hd : decode code pc = .ok (.iand, 1)) (hv : x &&& y = v) (hp : pc + 1 = pc')
    (r : Run l R Z W Q h k n (mkF W.m pc' Ls (.int v :: st))) : Run l R Z W Q h k n (mkF W.m pc Ls (.int y :: .int x :: st)) := by
  subst hp
  exact Run.one (fun T locs X _ t g => XS.iand X.here C.hx rfl (C.hb hd) rfl (hv ▸ g)) r
theorem ior (C : Cx Z W own nm code maxL ret) {x y v : Int32} (hd : decode code pc = .ok (.ior, 1)) (hv : x ||| y = v) (hp : pc + 1 = pc')
    (r : Run l R Z W Q h k n (mkF W.m pc' Ls (.int v :: st))) : Run l R Z W Q h k n (mkF W.m pc Ls (.int y :: .int x :: st)) := by
  subst hp
  exact Run.one (fun T locs X _ t g => XS.ior X.here C.hx rfl (C.hb hd) rfl (hv ▸ g)) r
theorem ixor (C : Cx Z W own nm code maxL ret) {x y v : Int32} (hd : decode code pc = .ok (.ixor, 1)) (hv : x ^^^ y = v) (hp : pc + 1 = pc')
    (r : Run l R Z W Q h k n (mkF W.m pc' Ls (.int v :: st))) : Run l R Z W Q h k n (mkF W.m pc Ls (.int y :: .int x :: st)) := by
  subst hp
  exact Run.one (fun T locs X _ t g => XS.ixor X.here C.hx rfl (C.hb hd) rfl (hv ▸ g)) r
theorem ladd (C : Cx Z W own nm code maxL ret) {x y v : Int64} (hd : decode code pc = .ok (.ladd, 1)) (hv : x + y = v) (hp : pc + 1 = pc')
    (r : Run l R Z W Q h k n (mkF W.m pc' Ls (.long v :: st))) : Run l R Z W Q h k n (mkF W.m pc Ls (.long y :: .long x :: st)) := by
  subst hp
  exact Run.one (fun T locs X _ t g => XS.ladd X.here C.hx rfl (C.hb hd) rfl (hv ▸ g)) r
theorem lsub (C : Cx Z W own nm code maxL ret) {x y v : Int64} (hd : decode code pc = .ok (.lsub, 1)) (hv : x - y = v) (hp : pc + 1 = pc')
    (r : Run l R Z W Q h k n (mkF W.m pc' Ls (.long v :: st))) : Run l R Z W Q h k n (mkF W.m pc Ls (.long y :: .long x :: st)) := by
  subst hp
  exact Run.one (fun T locs X _ t g => XS.lsub X.here C.hx rfl (C.hb hd) rfl (hv ▸ g)) r
theorem lmul (C : Cx Z W own nm code maxL ret) {x y v : Int64} (hd : decode code pc = .ok (.lmul, 1)) (hv : x * y = v) (hp : pc + 1 = pc')
    (r : Run l R Z W Q h k n (mkF W.m pc' Ls (.long v :: st))) : Run l R Z W Q h k n (mkF W.m pc Ls (.long y :: .long x :: st)) := by
  subst hp
  exact Run.one (fun T locs X _ t g => XS.lmul X.here C.hx rfl (C.hb hd) rfl (hv ▸ g)) r
theorem land (C : Cx Z W own nm code maxL ret) {x y v : Int64} (hd : decode code pc = .ok (.land, 1)) (hv : x &&& y = v) (hp : pc + 1 = pc')
    (r : Run l R Z W Q h k n (mkF W.m pc' Ls (.long v :: st))) : Run l R Z W Q h k n (mkF W.m pc Ls (.long y :: .long x :: st)) := by
  subst hp
  exact Run.one (fun T locs X _ t g => XS.land X.here C.hx rfl (C.hb hd) rfl (hv ▸ g)) r
theorem lor (C : Cx Z W own nm code maxL ret) {x y v : Int64} (hd : decode code pc = .ok (.lor, 1)) (hv : x ||| y = v) (hp : pc + 1 = pc')
    (r : Run l R Z W Q h k n (mkF W.m pc' Ls (.long v :: st))) : Run l R Z W Q h k n (mkF W.m pc Ls (.long y :: .long x :: st)) := by
  subst hp
  exact Run.one (fun T locs X _ t g => XS.lor X.here C.hx rfl (C.hb hd) rfl (hv ▸ g)) r
theorem lxor (C : Cx Z W own nm code maxL ret) {x y v : Int64} (hd : decode code pc = .ok (.lxor, 1)) (hv : x ^^^ y = v) (hp : pc + 1 = pc')
    (r : Run l R Z W Q h k n (mkF W.m pc' Ls (.long v :: st))) : Run l R Z W Q h k n (mkF W.m pc Ls (.long y :: .long x :: st)) := by
  subst hp
  exact Run.one (fun T locs X _ t g => XS.lxor X.here C.hx rfl (C.hb hd) rfl (hv ▸ g)) r
theorem idiv (C : Cx Z W own nm code maxL ret) {x y v : Int32} (hd : decode code pc = .ok (.idiv, 1)) (hy : ¬ y = 0) (hv : x / y = v) (hp : pc + 1 = pc')
    (r : Run l R Z W Q h k n (mkF W.m pc' Ls (.int v :: st))) : Run l R Z W Q h k n (mkF W.m pc Ls (.int y :: .int x :: st)) := by
  subst hp
  exact Run.one (fun T locs X _ t g => XS.idiv X.here C.hx rfl (C.hb hd) rfl hy (hv ▸ g)) r
theorem irem (C : Cx Z W own nm code maxL ret) {x y v : Int32} (hd : decode code pc = .ok (.irem, 1)) (hy : ¬ y = 0) (hv : x % y = v) (hp : pc + 1 = pc')
    (r : Run l R Z W Q h k n (mkF W.m pc' Ls (.int v :: st))) : Run l R Z W Q h k n (mkF W.m pc Ls (.int y :: .int x :: st)) := by
  subst hp
  exact Run.one (fun T locs X _ t g => iremM X C.hx rfl (C.hb hd) rfl hy (hv ▸ g)) r
theorem ineg (C : Cx Z W own nm code maxL ret) {x v : Int32} (hd : decode code pc = .ok (.ineg, 1)) (hv : -x = v) (hp : pc + 1 = pc')
    (r : Run l R Z W Q h k n (mkF W.m pc' Ls (.int v :: st))) : Run l R Z W Q h k n (mkF W.m pc Ls (.int x :: st)) := by
  subst hp
  exact Run.one (fun T locs X _ t g => XS.ineg X.here C.hx rfl (C.hb hd) rfl (hv ▸ g)) r
theorem ishl (C : Cx Z W own nm code maxL ret) {x y v : Int32} (hd : decode code pc = .ok (.ishl, 1)) (hv : x <<< (y &&& 31) = v) (hp : pc + 1 = pc')
    (r : Run l R Z W Q h k n (mkF W.m pc' Ls (.int v :: st))) : Run l R Z W Q h k n (mkF W.m pc Ls (.int y :: .int x :: st)) := by
  subst hp
  exact Run.one (fun T locs X _ t g => XS.ishl X.here C.hx rfl (C.hb hd) rfl (hv ▸ g)) r
theorem ishr (C : Cx Z W own nm code maxL ret) {x y v : Int32} (hd : decode code pc = .ok (.ishr, 1)) (hv : x >>> (y &&& 31) = v) (hp : pc + 1 = pc')
    (r : Run l R Z W Q h k n (mkF W.m pc' Ls (.int v :: st))) : Run l R Z W Q h k n (mkF W.m pc Ls (.int y :: .int x :: st)) := by
  subst hp
  exact Run.one (fun T locs X _ t g => XS.ishr X.here C.hx rfl (C.hb hd) rfl (hv ▸ g)) r
theorem iushr (C : Cx Z W own nm code maxL ret) {x y v : Int32} (hd : decode code pc = .ok (.iushr, 1)) (hv : (x.toUInt32 >>> (y &&& 31).toUInt32).toInt32 = v) (hp : pc + 1 = pc')
    (r : Run l R Z W Q h k n (mkF W.m pc' Ls (.int v :: st))) : Run l R Z W Q h k n (mkF W.m pc Ls (.int y :: .int x :: st)) := by
  subst hp
  exact Run.one (fun T locs X _ t g => XS.iushr X.here C.hx rfl (C.hb hd) rfl (hv ▸ g)) r
theorem lshl (C : Cx Z W own nm code maxL ret) {x : Int64} {y : Int32} {v : Int64} (hd : decode code pc = .ok (.lshl, 1)) (hv : x <<< (y &&& 0x3f).toInt64 = v) (hp : pc + 1 = pc')
    (r : Run l R Z W Q h k n (mkF W.m pc' Ls (.long v :: st))) : Run l R Z W Q h k n (mkF W.m pc Ls (.int y :: .long x :: st)) := by
  subst hp
  exact Run.one (fun T locs X _ t g => XS.lshl X.here C.hx rfl (C.hb hd) rfl (hv ▸ g)) r
theorem lshr (C : Cx Z W own nm code maxL ret) {x : Int64} {y : Int32} {v : Int64} (hd : decode code pc = .ok (.lshr, 1)) (hv : x >>> (y &&& 0x3f).toInt64 = v) (hp : pc + 1 = pc')
    (r : Run l R Z W Q h k n (mkF W.m pc' Ls (.long v :: st))) : Run l R Z W Q h k n (mkF W.m pc Ls (.int y :: .long x :: st)) := by
  subst hp
  exact Run.one (fun T locs X _ t g => XS.lshr X.here C.hx rfl (C.hb hd) rfl (hv ▸ g)) r
theorem lushr (C : Cx Z W own nm code maxL ret) {x : Int64} {y : Int32} {v : Int64} (hd : decode code pc = .ok (.lushr, 1)) (hv : (x.toUInt64 >>> (y &&& 0x3f).toInt64.toUInt64).toInt64 = v) (hp : pc + 1 = pc')
    (r : Run l R Z W Q h k n (mkF W.m pc' Ls (.long v :: st))) : Run l R Z W Q h k n (mkF W.m pc Ls (.int y :: .long x :: st)) := by
  subst hp
  exact Run.one (fun T locs X _ t g => XS.lushr X.here C.hx rfl (C.hb hd) rfl (hv ▸ g)) r
theorem i2l (C : Cx Z W own nm code maxL ret) {x : Int32} {v : Int64} (hd : decode code pc = .ok (.i2l, 1)) (hv : x.toInt64 = v) (hp : pc + 1 = pc')
    (r : Run l R Z W Q h k n (mkF W.m pc' Ls (.long v :: st))) : Run l R Z W Q h k n (mkF W.m pc Ls (.int x :: st)) := by
  subst hp
  exact Run.one (fun T locs X _ t g => XS.i2l X.here C.hx rfl (C.hb hd) rfl (hv ▸ g)) r
theorem l2i (C : Cx Z W own nm code maxL ret) {x : Int64} {v : Int32} (hd : decode code pc = .ok (.l2i, 1)) (hv : x.toInt32 = v) (hp : pc + 1 = pc')
    (r : Run l R Z W Q h k n (mkF W.m pc' Ls (.int v :: st))) : Run l R Z W Q h k n (mkF W.m pc Ls (.long x :: st)) := by
  subst hp
  exact Run.one (fun T locs X _ t g => XS.l2i X.here C.hx rfl (C.hb hd) rfl (hv ▸ g)) r
theorem i2b (C : Cx Z W own nm code maxL ret) {x : Int32} {v : Int32} (hd : decode code pc = .ok (.i2b, 1)) (hv : x.toInt8.toInt32 = v) (hp : pc + 1 = pc')
    (r : Run l R Z W Q h k n (mkF W.m pc' Ls (.int v :: st))) : Run l R Z W Q h k n (mkF W.m pc Ls (.int x :: st)) := by
  subst hp
  exact Run.one (fun T locs X _ t g => XS.i2b X.here C.hx rfl (C.hb hd) rfl (hv ▸ g)) r
theorem i2c (C : Cx Z W own nm code maxL ret) {x : Int32} {v : Int32} (hd : decode code pc = .ok (.i2c, 1)) (hv : x.toUInt32.toUInt16.toUInt32.toInt32 = v) (hp : pc + 1 = pc')
    (r : Run l R Z W Q h k n (mkF W.m pc' Ls (.int v :: st))) : Run l R Z W Q h k n (mkF W.m pc Ls (.int x :: st)) := by
  subst hp
  exact Run.one (fun T locs X _ t g => XS.i2c X.here C.hx rfl (C.hb hd) rfl (hv ▸ g)) r
theorem i2s (C : Cx Z W own nm code maxL ret) {x : Int32} {v : Int32} (hd : decode code pc = .ok (.i2s, 1)) (hv : x.toInt16.toInt32 = v) (hp : pc + 1 = pc')
    (r : Run l R Z W Q h k n (mkF W.m pc' Ls (.int v :: st))) : Run l R Z W Q h k n (mkF W.m pc Ls (.int x :: st)) := by
  subst hp
  exact Run.one (fun T locs X _ t g => XS.i2s X.here C.hx rfl (C.hb hd) rfl (hv ▸ g)) r
theorem lcmp (C : Cx Z W own nm code maxL ret) {x y : Int64} (hd : decode code pc = .ok (.lcmp, 1)) (hp : pc + 1 = pc')
    (r : Run l R Z W Q h k n (mkF W.m pc' Ls (.int (lcmpW x y) :: st))) : Run l R Z W Q h k n (mkF W.m pc Ls (.long y :: .long x :: st)) := by
  subst hp
  exact Run.one (fun T locs X _ t g => XS.lcmp X.here C.hx rfl (C.hb hd) rfl g) r
theorem dup (C : Cx Z W own nm code maxL ret) {v : Value} (hd : decode code pc = .ok (.dup, 1)) (hc : v.category = 1) (hp : pc + 1 = pc')
    (r : Run l R Z W Q h k n (mkF W.m pc' Ls (v :: v :: st))) : Run l R Z W Q h k n (mkF W.m pc Ls (v :: st)) := by
  subst hp
  exact Run.one (fun T locs X _ t g => XS.dup X.here C.hx rfl (C.hb hd) rfl hc g) r
theorem dupX1 (C : Cx Z W own nm code maxL ret) {v w : Value} (hd : decode code pc = .ok (.dup_x1, 1)) (hc : v.category = 1) (hc' : w.category = 1) (hp : pc + 1 = pc')
    (r : Run l R Z W Q h k n (mkF W.m pc' Ls (v :: w :: v :: st))) : Run l R Z W Q h k n (mkF W.m pc Ls (v :: w :: st)) := by
  subst hp
  exact Run.one (fun T locs X _ t g => XS.dupX1 X.here C.hx rfl (C.hb hd) rfl hc hc' g) r
theorem dup2 (C : Cx Z W own nm code maxL ret) {v w : Value} (hd : decode code pc = .ok (.dup2, 1)) (hc : v.category = 1) (hc' : w.category = 1) (hp : pc + 1 = pc')
    (r : Run l R Z W Q h k n (mkF W.m pc' Ls (v :: w :: v :: w :: st))) : Run l R Z W Q h k n (mkF W.m pc Ls (v :: w :: st)) := by
  subst hp
  exact Run.one (fun T locs X _ t g => XT.dup2 X.here C.hx rfl (C.hb hd) rfl hc hc' g) r
theorem pop (C : Cx Z W own nm code maxL ret) {v : Value} (hd : decode code pc = .ok (.pop, 1)) (hc : v.category = 1) (hp : pc + 1 = pc')
    (r : Run l R Z W Q h k n (mkF W.m pc' Ls (st))) : Run l R Z W Q h k n (mkF W.m pc Ls (v :: st)) := by
  subst hp
  exact Run.one (fun T locs X _ t g => XS.pop X.here C.hx rfl (C.hb hd) rfl hc g) r
theorem swap (C : Cx Z W own nm code maxL ret) {v w : Value} (hd : decode code pc = .ok (.swap, 1)) (hc : v.category = 1) (hc' : w.category = 1) (hp : pc + 1 = pc')
    (r : Run l R Z W Q h k n (mkF W.m pc' Ls (w :: v :: st))) : Run l R Z W Q h k n (mkF W.m pc Ls (v :: w :: st)) := by
  subst hp
  exact Run.one (fun T locs X _ t g => XS.swap X.here C.hx rfl (C.hb hd) rfl hc hc' g) r
theorem iinc (C : Cx Z W own nm code maxL ret) {i : Nat} {d : Int} {x v : Int32} {Ls' : Array Slot} (hd : decode code pc = .ok (.iinc i d, 3)) (hl : Ls[i]? = some (.val (.int x))) (hv : x + Int32.ofInt d = v) (hl' : storeLocals Ls i (.int v) = some Ls') (hp : pc + 3 = pc')
    (r : Run l R Z W Q h k n (mkF W.m pc' Ls' st)) : Run l R Z W Q h k n (mkF W.m pc Ls st) := by
  subst hp hv
  exact Run.one (fun T locs X _ t g => XS.iinc X.here C.hx rfl (C.hb hd) hl hl' g) r
theorem goto (C : Cx Z W own nm code maxL ret) {o : Int} (hd : decode code pc = .ok (.goto o, 3)) (ho : 0 ≤ (pc : Int) + o) (hp : ((pc : Int) + o).toNat = pc')
    (r : Run l R Z W Q h k n (mkF W.m pc' Ls st)) : Run l R Z W Q h k n (mkF W.m pc Ls st) :=
  Run.one (fun T locs X _ t g => XS.goto X.here C.hx rfl rfl (C.hb hd) ho hp g) r
theorem icmp_eq (C : Cx Z W own nm code maxL ret) {x y : Int32} {o : Int} {pcT : Nat} (hd : decode code pc = .ok (.if_icmp .eq o, 3)) (ho : 0 ≤ (pc : Int) + o) (hp : ((pc : Int) + o).toNat = pcT) (hp' : pc + 3 = pc')
    (rt : x = y → Run l R Z W Q h k n (mkF W.m pcT Ls st)) (rf : ¬ x = y → Run l R Z W Q h k n (mkF W.m pc' Ls st)) : Run l R Z W Q h k n (mkF W.m pc Ls (.int y :: .int x :: st)) := by
  subst hp'
  by_cases q : x = y
  · exact Run.one (fun T locs X _ t g => XS.icmpYes X.here C.hx rfl rfl (C.hb hd) rfl (teq q).1 ho hp g) (rt q)
  · exact Run.one (fun T locs X _ t g => XS.icmpNo X.here C.hx rfl (C.hb hd) rfl (feq q).1 g) (rf q)
theorem if_eq (C : Cx Z W own nm code maxL ret) {x : Int32} {o : Int} {pcT : Nat} (hd : decode code pc = .ok (.ifCond .eq o, 3)) (ho : 0 ≤ (pc : Int) + o) (hp : ((pc : Int) + o).toNat = pcT) (hp' : pc + 3 = pc')
    (rt : x = (0 : Int32) → Run l R Z W Q h k n (mkF W.m pcT Ls st)) (rf : ¬ x = (0 : Int32) → Run l R Z W Q h k n (mkF W.m pc' Ls st)) : Run l R Z W Q h k n (mkF W.m pc Ls (.int x :: st)) := by
  subst hp'
  by_cases q : x = (0 : Int32)
  · exact Run.one (fun T locs X _ t g => XS.ifYes X.here C.hx rfl rfl (C.hb hd) rfl ((if0 _ _).trans (teq q).1) ho hp g) (rt q)
  · exact Run.one (fun T locs X _ t g => XS.ifNo X.here C.hx rfl (C.hb hd) rfl ((if0 _ _).trans (feq q).1) g) (rf q)
theorem icmp_ne (C : Cx Z W own nm code maxL ret) {x y : Int32} {o : Int} {pcT : Nat} (hd : decode code pc = .ok (.if_icmp .ne o, 3)) (ho : 0 ≤ (pc : Int) + o) (hp : ((pc : Int) + o).toNat = pcT) (hp' : pc + 3 = pc')
    (rt : ¬ x = y → Run l R Z W Q h k n (mkF W.m pcT Ls st)) (rf : x = y → Run l R Z W Q h k n (mkF W.m pc' Ls st)) : Run l R Z W Q h k n (mkF W.m pc Ls (.int y :: .int x :: st)) := by
  subst hp'
  by_cases q : x = y
  · exact Run.one (fun T locs X _ t g => XS.icmpNo X.here C.hx rfl (C.hb hd) rfl (teq q).2 g) (rf q)
  · exact Run.one (fun T locs X _ t g => XS.icmpYes X.here C.hx rfl rfl (C.hb hd) rfl (feq q).2 ho hp g) (rt q)
theorem if_ne (C : Cx Z W own nm code maxL ret) {x : Int32} {o : Int} {pcT : Nat} (hd : decode code pc = .ok (.ifCond .ne o, 3)) (ho : 0 ≤ (pc : Int) + o) (hp : ((pc : Int) + o).toNat = pcT) (hp' : pc + 3 = pc')
    (rt : ¬ x = (0 : Int32) → Run l R Z W Q h k n (mkF W.m pcT Ls st)) (rf : x = (0 : Int32) → Run l R Z W Q h k n (mkF W.m pc' Ls st)) : Run l R Z W Q h k n (mkF W.m pc Ls (.int x :: st)) := by
  subst hp'
  by_cases q : x = (0 : Int32)
  · exact Run.one (fun T locs X _ t g => XS.ifNo X.here C.hx rfl (C.hb hd) rfl ((if0 _ _).trans (teq q).2) g) (rf q)
  · exact Run.one (fun T locs X _ t g => XS.ifYes X.here C.hx rfl rfl (C.hb hd) rfl ((if0 _ _).trans (feq q).2) ho hp g) (rt q)
theorem icmp_lt (C : Cx Z W own nm code maxL ret) {x y : Int32} {o : Int} {pcT : Nat} (hd : decode code pc = .ok (.if_icmp .lt o, 3)) (ho : 0 ≤ (pc : Int) + o) (hp : ((pc : Int) + o).toNat = pcT) (hp' : pc + 3 = pc')
    (rt : x < y → Run l R Z W Q h k n (mkF W.m pcT Ls st)) (rf : ¬ x < y → Run l R Z W Q h k n (mkF W.m pc' Ls st)) : Run l R Z W Q h k n (mkF W.m pc Ls (.int y :: .int x :: st)) := by
  subst hp'
  by_cases q : x < y
  · exact Run.one (fun T locs X _ t g => XS.icmpYes X.here C.hx rfl rfl (C.hb hd) rfl (tlt q).1 ho hp g) (rt q)
  · exact Run.one (fun T locs X _ t g => XS.icmpNo X.here C.hx rfl (C.hb hd) rfl (flt q).1 g) (rf q)
theorem if_lt (C : Cx Z W own nm code maxL ret) {x : Int32} {o : Int} {pcT : Nat} (hd : decode code pc = .ok (.ifCond .lt o, 3)) (ho : 0 ≤ (pc : Int) + o) (hp : ((pc : Int) + o).toNat = pcT) (hp' : pc + 3 = pc')
    (rt : x < (0 : Int32) → Run l R Z W Q h k n (mkF W.m pcT Ls st)) (rf : ¬ x < (0 : Int32) → Run l R Z W Q h k n (mkF W.m pc' Ls st)) : Run l R Z W Q h k n (mkF W.m pc Ls (.int x :: st)) := by
  subst hp'
  by_cases q : x < (0 : Int32)
  · exact Run.one (fun T locs X _ t g => XS.ifYes X.here C.hx rfl rfl (C.hb hd) rfl ((if0 _ _).trans (tlt q).1) ho hp g) (rt q)
  · exact Run.one (fun T locs X _ t g => XS.ifNo X.here C.hx rfl (C.hb hd) rfl ((if0 _ _).trans (flt q).1) g) (rf q)
theorem icmp_ge (C : Cx Z W own nm code maxL ret) {x y : Int32} {o : Int} {pcT : Nat} (hd : decode code pc = .ok (.if_icmp .ge o, 3)) (ho : 0 ≤ (pc : Int) + o) (hp : ((pc : Int) + o).toNat = pcT) (hp' : pc + 3 = pc')
    (rt : ¬ x < y → Run l R Z W Q h k n (mkF W.m pcT Ls st)) (rf : x < y → Run l R Z W Q h k n (mkF W.m pc' Ls st)) : Run l R Z W Q h k n (mkF W.m pc Ls (.int y :: .int x :: st)) := by
  subst hp'
  by_cases q : x < y
  · exact Run.one (fun T locs X _ t g => XS.icmpNo X.here C.hx rfl (C.hb hd) rfl (tlt q).2.1 g) (rf q)
  · exact Run.one (fun T locs X _ t g => XS.icmpYes X.here C.hx rfl rfl (C.hb hd) rfl (flt q).2.1 ho hp g) (rt q)
theorem if_ge (C : Cx Z W own nm code maxL ret) {x : Int32} {o : Int} {pcT : Nat} (hd : decode code pc = .ok (.ifCond .ge o, 3)) (ho : 0 ≤ (pc : Int) + o) (hp : ((pc : Int) + o).toNat = pcT) (hp' : pc + 3 = pc')
    (rt : ¬ x < (0 : Int32) → Run l R Z W Q h k n (mkF W.m pcT Ls st)) (rf : x < (0 : Int32) → Run l R Z W Q h k n (mkF W.m pc' Ls st)) : Run l R Z W Q h k n (mkF W.m pc Ls (.int x :: st)) := by
  subst hp'
  by_cases q : x < (0 : Int32)
  · exact Run.one (fun T locs X _ t g => XS.ifNo X.here C.hx rfl (C.hb hd) rfl ((if0 _ _).trans (tlt q).2.1) g) (rf q)
  · exact Run.one (fun T locs X _ t g => XS.ifYes X.here C.hx rfl rfl (C.hb hd) rfl ((if0 _ _).trans (flt q).2.1) ho hp g) (rt q)
theorem icmp_gt (C : Cx Z W own nm code maxL ret) {x y : Int32} {o : Int} {pcT : Nat} (hd : decode code pc = .ok (.if_icmp .gt o, 3)) (ho : 0 ≤ (pc : Int) + o) (hp : ((pc : Int) + o).toNat = pcT) (hp' : pc + 3 = pc')
    (rt : y < x → Run l R Z W Q h k n (mkF W.m pcT Ls st)) (rf : ¬ y < x → Run l R Z W Q h k n (mkF W.m pc' Ls st)) : Run l R Z W Q h k n (mkF W.m pc Ls (.int y :: .int x :: st)) := by
  subst hp'
  by_cases q : y < x
  · exact Run.one (fun T locs X _ t g => XS.icmpYes X.here C.hx rfl rfl (C.hb hd) rfl (tlt q).2.2.1 ho hp g) (rt q)
  · exact Run.one (fun T locs X _ t g => XS.icmpNo X.here C.hx rfl (C.hb hd) rfl (flt q).2.2.1 g) (rf q)
theorem if_gt (C : Cx Z W own nm code maxL ret) {x : Int32} {o : Int} {pcT : Nat} (hd : decode code pc = .ok (.ifCond .gt o, 3)) (ho : 0 ≤ (pc : Int) + o) (hp : ((pc : Int) + o).toNat = pcT) (hp' : pc + 3 = pc')
    (rt : (0 : Int32) < x → Run l R Z W Q h k n (mkF W.m pcT Ls st)) (rf : ¬ (0 : Int32) < x → Run l R Z W Q h k n (mkF W.m pc' Ls st)) : Run l R Z W Q h k n (mkF W.m pc Ls (.int x :: st)) := by
  subst hp'
  by_cases q : (0 : Int32) < x
  · exact Run.one (fun T locs X _ t g => XS.ifYes X.here C.hx rfl rfl (C.hb hd) rfl ((if0 _ _).trans (tlt q).2.2.1) ho hp g) (rt q)
  · exact Run.one (fun T locs X _ t g => XS.ifNo X.here C.hx rfl (C.hb hd) rfl ((if0 _ _).trans (flt q).2.2.1) g) (rf q)
theorem icmp_le (C : Cx Z W own nm code maxL ret) {x y : Int32} {o : Int} {pcT : Nat} (hd : decode code pc = .ok (.if_icmp .le o, 3)) (ho : 0 ≤ (pc : Int) + o) (hp : ((pc : Int) + o).toNat = pcT) (hp' : pc + 3 = pc')
    (rt : ¬ y < x → Run l R Z W Q h k n (mkF W.m pcT Ls st)) (rf : y < x → Run l R Z W Q h k n (mkF W.m pc' Ls st)) : Run l R Z W Q h k n (mkF W.m pc Ls (.int y :: .int x :: st)) := by
  subst hp'
  by_cases q : y < x
  · exact Run.one (fun T locs X _ t g => XS.icmpNo X.here C.hx rfl (C.hb hd) rfl (tlt q).2.2.2 g) (rf q)
  · exact Run.one (fun T locs X _ t g => XS.icmpYes X.here C.hx rfl rfl (C.hb hd) rfl (flt q).2.2.2 ho hp g) (rt q)
theorem if_le (C : Cx Z W own nm code maxL ret) {x : Int32} {o : Int} {pcT : Nat} (hd : decode code pc = .ok (.ifCond .le o, 3)) (ho : 0 ≤ (pc : Int) + o) (hp : ((pc : Int) + o).toNat = pcT) (hp' : pc + 3 = pc')
    (rt : ¬ (0 : Int32) < x → Run l R Z W Q h k n (mkF W.m pcT Ls st)) (rf : (0 : Int32) < x → Run l R Z W Q h k n (mkF W.m pc' Ls st)) : Run l R Z W Q h k n (mkF W.m pc Ls (.int x :: st)) := by
  subst hp'
  by_cases q : (0 : Int32) < x
  · exact Run.one (fun T locs X _ t g => XS.ifNo X.here C.hx rfl (C.hb hd) rfl ((if0 _ _).trans (tlt q).2.2.2) g) (rf q)
  · exact Run.one (fun T locs X _ t g => XS.ifYes X.here C.hx rfl rfl (C.hb hd) rfl ((if0 _ _).trans (flt q).2.2.2) ho hp g) (rt q)
theorem ifnullY (C : Cx Z W own nm code maxL ret) {o : Int} (hd : decode code pc = .ok (.ifnull o, 3)) (ho : 0 ≤ (pc : Int) + o) (hp : ((pc : Int) + o).toNat = pc') (r : Run l R Z W Q h k n (mkF W.m pc' Ls st)) : Run l R Z W Q h k n (mkF W.m pc Ls (.null :: st)) :=
  Run.one (fun T locs X _ t g => XS.ifnullYes X.here C.hx rfl rfl (C.hb hd) rfl ho hp g) r
theorem ifnullN (C : Cx Z W own nm code maxL ret) {o : Int} {b : Addr} (hd : decode code pc = .ok (.ifnull o, 3)) (hp : pc + 3 = pc') (r : Run l R Z W Q h k n (mkF W.m pc' Ls st)) : Run l R Z W Q h k n (mkF W.m pc Ls (.ref b :: st)) := by
  subst hp
  exact Run.one (fun T locs X _ t g => XS.ifnullNo X.here C.hx rfl (C.hb hd) rfl g) r
theorem ifnonnullY (C : Cx Z W own nm code maxL ret) {o : Int} {b : Addr} (hd : decode code pc = .ok (.ifnonnull o, 3)) (ho : 0 ≤ (pc : Int) + o) (hp : ((pc : Int) + o).toNat = pc') (r : Run l R Z W Q h k n (mkF W.m pc' Ls st)) : Run l R Z W Q h k n (mkF W.m pc Ls (.ref b :: st)) :=
  Run.one (fun T locs X _ t g => XS.ifnonnullYes X.here C.hx rfl rfl (C.hb hd) rfl ho hp g) r
theorem ifnonnullN (C : Cx Z W own nm code maxL ret) {o : Int} (hd : decode code pc = .ok (.ifnonnull o, 3)) (hp : pc + 3 = pc') (r : Run l R Z W Q h k n (mkF W.m pc' Ls st)) : Run l R Z W Q h k n (mkF W.m pc Ls (.null :: st)) := by
  subst hp
  exact Run.one (fun T locs X _ t g => XS.ifnonnullNo X.here C.hx rfl (C.hb hd) rfl g) r
theorem acmp_eq (C : Cx Z W own nm code maxL ret) {o : Int} {x y : Value} {pcT : Nat} (hd : decode code pc = .ok (.if_acmp .eq o, 3)) (hx' : x.isRef = true) (hy' : y.isRef = true) (ho : 0 ≤ (pc : Int) + o) (hp : ((pc : Int) + o).toNat = pcT) (hp' : pc + 3 = pc')
    (rt : x = y → Run l R Z W Q h k n (mkF W.m pcT Ls st)) (rf : ¬ x = y → Run l R Z W Q h k n (mkF W.m pc' Ls st)) : Run l R Z W Q h k n (mkF W.m pc Ls (y :: x :: st)) := by
  subst hp'
  by_cases q : x = y
  · exact Run.one (fun T locs X _ t g => XT.acmpYes X.here C.hx rfl rfl (C.hb hd) rfl hx' hy' (XT.aa_eq_t q) ho hp g) (rt q)
  · exact Run.one (fun T locs X _ t g => XT.acmpNo X.here C.hx rfl (C.hb hd) rfl hx' hy' (XT.aa_eq_f q) g) (rf q)
theorem acmp_ne (C : Cx Z W own nm code maxL ret) {o : Int} {x y : Value} {pcT : Nat} (hd : decode code pc = .ok (.if_acmp .ne o, 3)) (hx' : x.isRef = true) (hy' : y.isRef = true) (ho : 0 ≤ (pc : Int) + o) (hp : ((pc : Int) + o).toNat = pcT) (hp' : pc + 3 = pc')
    (rt : ¬ x = y → Run l R Z W Q h k n (mkF W.m pcT Ls st)) (rf : x = y → Run l R Z W Q h k n (mkF W.m pc' Ls st)) : Run l R Z W Q h k n (mkF W.m pc Ls (y :: x :: st)) := by
  subst hp'
  by_cases q : x = y
  · exact Run.one (fun T locs X _ t g => XT.acmpNo X.here C.hx rfl (C.hb hd) rfl hx' hy' (XT.aa_ne_f q) g) (rf q)
  · exact Run.one (fun T locs X _ t g => XT.acmpYes X.here C.hx rfl rfl (C.hb hd) rfl hx' hy' (XT.aa_ne_t q) ho hp g) (rt q)
theorem tswIn (C : Cx Z W own nm code maxL ret) {d lo hi o : Int} {offs : Array Int} {ln : Nat} {i : Int32} (hd : decode code pc = .ok (.tableswitch d lo hi offs, ln)) (hin : ¬ (i.toInt < lo ∨ i.toInt > hi)) (ho : offs[(i.toInt - lo).toNat]? = some o) (h0 : 0 ≤ (pc : Int) + o) (hp : ((pc : Int) + o).toNat = pc')
    (r : Run l R Z W Q h k n (mkF W.m pc' Ls st)) : Run l R Z W Q h k n (mkF W.m pc Ls (.int i :: st)) :=
  Run.one (fun T locs X _ t g => XS.tswIn X.here C.hx rfl rfl (C.hb hd) rfl hin ho h0 hp g) r
theorem ldcI (C : Cx Z W own nm code maxL ret) {ix : Nat} {v : Int32} (hd : decode code pc = .ok (.ldc ix, 2)) (w : (Cond.constant own ix v).before a0 Z = true) (hp : pc + 2 = pc') (r : Run l R Z W Q h k n (mkF W.m pc' Ls (.int v :: st))) : Run l R Z W Q h k n (mkF W.m pc Ls st) := by
  subst hp
  exact Run.one (fun T locs X _ t g => X.ldcInt C.hx C.ow (mvT C.hZ w) (g := mkF W.m pc Ls st) rfl (C.hb hd) t g) r
theorem ldc2J (C : Cx Z W own nm code maxL ret) {ix : Nat} {v : Int64} (hd : decode code pc = .ok (.ldc2_w ix, 3)) (w : (Cond.constantLong own ix v).before a0 Z = true) (hp : pc + 3 = pc') (r : Run l R Z W Q h k n (mkF W.m pc' Ls (.long v :: st))) : Run l R Z W Q h k n (mkF W.m pc Ls st) := by
  subst hp
  exact Run.one (fun T locs X _ t g => X.ldc2Long C.hx C.ow (mvT C.hZ w) (g := mkF W.m pc Ls st) rfl (C.hb hd) t g) r
theorem Run.via {g g' : JFrame} (f : ∀ T locs, Std l R W T locs k n → T.heap = h → ∃ T', Std l R W T' locs k n ∧ T'.heap = h ∧ ∀ t, Steps W.p.tables W.e W.b (T'.setTop g') t → Steps W.p.tables W.e W.b (T.setTop g) t) (r : Run l R Z W Q h k n g') : Run l R Z W Q h k n g :=
  fun T locs X eT N O => by
    obtain ⟨T', X', e', s'⟩ := f T locs X eT
    exact Go.step s' (r T' locs X' e' N O)
theorem getF (C : Cx Z W own nm code maxL ret) {R0 O nmF d : String} {ix : Nat} (hd : decode code pc = .ok (.getfield ix, 3)) (w : (Cond.fieldLink own ix R0 nmF d).before a0 Z = true) (via : Via Z R0 O nmF d) {a : Addr} {v : Value} (F : Fld Z h a O nmF d v) (hp : pc + 3 = pc')
    (r : Run l R Z W Q h k n (mkF W.m pc' Ls (v :: st))) : Run l R Z W Q h k n (mkF W.m pc Ls (.ref a :: st)) := by
  subst hp
  exact Run.via (fun T locs X eT => RoadKit.getF X C.hx C.hZ C.ow (host := "") (Or.inl w) via eT F (g := mkF W.m pc Ls (.ref a :: st)) rfl rfl (C.hb hd)) r
theorem getFN (C : Cx Z W own nm code maxL ret) {R0 O nmF d host : String} {ix : Nat} (hd : decode code pc = .ok (.getfield ix, 3)) (w : (Cond.fieldLinkNest own ix R0 nmF d host).before a0 Z = true) (via : Via Z R0 O nmF d) {a : Addr} {v : Value} (F : Fld Z h a O nmF d v) (hp : pc + 3 = pc')
    (r : Run l R Z W Q h k n (mkF W.m pc' Ls (v :: st))) : Run l R Z W Q h k n (mkF W.m pc Ls (.ref a :: st)) := by
  subst hp
  exact Run.via (fun T locs X eT => RoadKit.getF X C.hx C.hZ C.ow (Or.inr w) via eT F (g := mkF W.m pc Ls (.ref a :: st)) rfl rfl (C.hb hd)) r
theorem getS (C : Cx Z W own nm code maxL ret) {R0 O nmF d : String} {ix : Nat} (hd : decode code pc = .ok (.getstatic ix, 3)) (w : (Cond.fieldLink own ix R0 nmF d).before a0 Z = true) (via : Via Z R0 O nmF d) {v : Value} (F : Sta Z h O nmF d v) (hp : pc + 3 = pc')
    (r : Run l R Z W Q h k n (mkF W.m pc' Ls (v :: st))) : Run l R Z W Q h k n (mkF W.m pc Ls st) := by
  subst hp
  exact Run.via (fun T locs X eT => getS2 X C.hx C.hZ C.ow (host := "") (Or.inl w) via eT F (g := mkF W.m pc Ls st) rfl (C.hb hd)) r
theorem getSN (C : Cx Z W own nm code maxL ret) {R0 O nmF d host : String} {ix : Nat} (hd : decode code pc = .ok (.getstatic ix, 3)) (w : (Cond.fieldLinkNest own ix R0 nmF d host).before a0 Z = true) (via : Via Z R0 O nmF d) {v : Value} (F : Sta Z h O nmF d v) (hp : pc + 3 = pc')
    (r : Run l R Z W Q h k n (mkF W.m pc' Ls (v :: st))) : Run l R Z W Q h k n (mkF W.m pc Ls st) := by
  subst hp
  exact Run.via (fun T locs X eT => getS2 X C.hx C.hZ C.ow (Or.inr w) via eT F (g := mkF W.m pc Ls st) rfl (C.hb hd)) r
theorem castY (C : Cx Z W own nm code maxL ret) {K : String} {ix : Nat} (hd : decode code pc = .ok (.checkcast ix, 3)) (w : (Cond.classLink own ix K).before a0 Z = true) {a : Addr} (F : Ins Z h a K true) (hp : pc + 3 = pc')
    (r : Run l R Z W Q h k n (mkF W.m pc' Ls (.ref a :: st))) : Run l R Z W Q h k n (mkF W.m pc Ls (.ref a :: st)) := by
  subst hp
  exact Run.via (fun T locs X eT => RoadKit.castY X C.hx C.hZ C.ow w eT F (g := mkF W.m pc Ls (.ref a :: st)) rfl rfl (C.hb hd)) r
theorem instY (C : Cx Z W own nm code maxL ret) {K : String} {ix : Nat} (hd : decode code pc = .ok (.instanceof ix, 3)) (w : (Cond.classLink own ix K).before a0 Z = true) {a : Addr} (F : Ins Z h a K true) (hp : pc + 3 = pc')
    (r : Run l R Z W Q h k n (mkF W.m pc' Ls (.int 1 :: st))) : Run l R Z W Q h k n (mkF W.m pc Ls (.ref a :: st)) := by
  subst hp
  exact Run.via (fun T locs X eT => RoadKit.instY X C.hx C.hZ C.ow w eT F (g := mkF W.m pc Ls (.ref a :: st)) rfl rfl (C.hb hd)) r
theorem instNull (C : Cx Z W own nm code maxL ret) {ix : Nat} (hd : decode code pc = .ok (.instanceof ix, 3)) (hp : pc + 3 = pc')
    (r : Run l R Z W Q h k n (mkF W.m pc' Ls (.int 0 :: st))) : Run l R Z W Q h k n (mkF W.m pc Ls (.null :: st)) := by
  subst hp
  exact Run.one (fun T locs X eT t g => X.instanceofNull C.hx (g := mkF W.m pc Ls (.null :: st)) rfl rfl (C.hb hd) t g) r
theorem castNull (C : Cx Z W own nm code maxL ret) {ix : Nat} (hd : decode code pc = .ok (.checkcast ix, 3)) (hp : pc + 3 = pc')
    (r : Run l R Z W Q h k n (mkF W.m pc' Ls (.null :: st))) : Run l R Z W Q h k n (mkF W.m pc Ls (.null :: st)) := by
  subst hp
  exact Run.one (fun T locs X eT t g => X.checkcastNull C.hx (g := mkF W.m pc Ls (.null :: st)) rfl rfl (C.hb hd) t g) r
/-- an array as a list: its kind, its length, its elements -/
def Ary (Z : State) (h : Heap) (a : Addr) (ty : FieldType) (vs : List Value) : Prop := ∃ c : Cell, Arr Z h a c ty ∧ c.slots = vs.toArray ∧ vs.length < 2 ^ 31 ∧ ∀ v ∈ vs, fits ty v = true
theorem Ary.lt {a : Addr} {ty : FieldType} {vs : List Value} (F : Ary Z h a ty vs) : a < h.size := by obtain ⟨c, A, -⟩ := F; exact A.lt
theorem Ary.ext {h' : Heap} {a : Addr} {ty : FieldType} {vs : List Value} (F : Ary Z h a ty vs) (E : Ext h h') : Ary Z h' a ty vs := by obtain ⟨c, A, r⟩ := F; exact ⟨c, A.ext E, r⟩
theorem Ary.other {h' : Heap} {a b : Addr} {sl : Nat} {v : Value} {ty : FieldType} {vs : List Value} (F : Ary Z h b ty vs) (X : Wr h h' a sl v) (q : b ≠ a) : Ary Z h' b ty vs := by obtain ⟨c, A, r⟩ := F; exact ⟨c, A.other X q, r⟩
theorem Ary.keep {h' : Heap} {a : Addr} {ws : List Addr} {ty : FieldType} {vs : List Value} (F : Ary Z h a ty vs) (K : Keep h h' ws) (q : a ∉ ws) : Ary Z h' a ty vs := by obtain ⟨c, A, r⟩ := F; exact ⟨c, ⟨K.2.1 a c A.1 q, A.2⟩, r⟩
theorem Ary.set {h' : Heap} {a : Addr} {i : Nat} {v : Value} {ty : FieldType} {vs : List Value} (F : Ary Z h a ty vs) (X : Wr h h' a i v) (hv : fits ty v = true) : Ary Z h' a ty (vs.set i v) := by
  obtain ⟨c, A, e, q, f⟩ := F
  refine ⟨_, A.same X, ?_, by simpa using q, fun w hw => ?_⟩
  · show (c.slots.setIfInBounds i v) = _
    rw [e]; simp
  · rcases List.mem_or_eq_of_mem_set hw with hw | rfl
    · exact f w hw
    · exact hv
theorem Ary.inb {a : Addr} {ty : FieldType} {vs : List Value} {c : Cell} {j : Int32} (e : c.slots = vs.toArray) (h0 : ¬ j < 0) (h1 : j.toNatClampNeg < vs.length) : ¬ (j < 0 ∨ c.slots.size ≤ j.toNatClampNeg) := by
  rw [e]
  rintro (q | q)
  · exact h0 q
  · simp at q; omega
theorem Ary.arv {a : Addr} {ty : FieldType} {vs : List Value} {d : Value} (F : Ary Z h a ty vs) : ∃ kc, Arv Z h a kc ty (Int32.ofNat vs.length) vs d := by
  obtain ⟨c, A, e, q, f⟩ := F
  have hn : (Int32.ofNat vs.length).toNatClampNeg = vs.length := by
    rw [Int32.toNatClampNeg_ofNat_of_lt q]
  refine ⟨c.cls, c, A, rfl, by rw [hn, e]; simp, ?_, fun i hi => ?_, fun i hi => ?_⟩
  · rw [Int32.lt_iff_toInt_lt, Int32.toInt_ofNat_of_lt q]; simp
  · have hi' : i < vs.length := by rw [e] at hi; simpa using hi
    rw [e]; simp [List.getD_eq_getElem?_getD, hi']
  · have hi' : i < vs.length := by rw [e] at hi; simpa using hi
    have := f _ (List.getElem_mem hi')
    simpa [List.getD_eq_getElem?_getD, hi'] using this
theorem Ary.of_arv {a : Addr} {kc : ClassId} {ty : FieldType} {z : Int32} {vs : List Value} {d : Value} (F : Arv Z h a kc ty z vs d) (hz : z.toNatClampNeg = vs.length) : Ary Z h a ty vs := by
  obtain ⟨c, A, -, S, z0, H, G⟩ := F
  have hs : c.slots.size = vs.length := S.trans hz
  refine ⟨c, A, ?_, by rw [← hz]; exact (back32 z0).2, fun v hv => ?_⟩
  · apply Array.ext
    · simpa using hs
    · intro i h1 h2
      have q := H i h1
      rw [Array.getElem?_eq_getElem h1] at q
      have h3 : i < vs.length := by omega
      simpa [List.getD_eq_getElem?_getD, h3] using q
  · obtain ⟨i, hi, rfl⟩ := List.getElem_of_mem hv
    have := G i (by omega)
    simpa [List.getD_eq_getElem?_getD, hi] using this
theorem alen (C : Cx Z W own nm code maxL ret) (hd : decode code pc = .ok (.arraylength, 1)) {a : Addr} {ty : FieldType} {vs : List Value} {z : Int32} (F : Ary Z h a ty vs) (hz : Int32.ofNat vs.length = z) (hp : pc + 1 = pc')
    (r : Run l R Z W Q h k n (mkF W.m pc' Ls (.int z :: st))) : Run l R Z W Q h k n (mkF W.m pc Ls (.ref a :: st)) := by
  subst hp hz
  obtain ⟨c, A, e, -⟩ := F
  have e2 : c.slots.size.toInt32 = Int32.ofNat vs.length := by rw [e]; simp
  exact Run.one (fun T locs X eT t g => X.arraylength C.hx (by rw [eT]; exact A.1) (State.isArrayOf_alike C.hZ.alike A.2.1) (g := mkF W.m pc Ls (.ref a :: st)) rfl rfl (C.hb hd) t (by rw [e2]; exact g)) r
theorem caload (C : Cx Z W own nm code maxL ret) (hd : decode code pc = .ok (.caload, 1)) {a : Addr} {vs : List Value} {j : Int32} {v : Value} (F : Ary Z h a .char vs) (h0 : ¬ j < 0) (hv : vs[j.toNatClampNeg]? = some v) (hp : pc + 1 = pc')
    (r : Run l R Z W Q h k n (mkF W.m pc' Ls (v :: st))) : Run l R Z W Q h k n (mkF W.m pc Ls (.int j :: .ref a :: st)) := by
  subst hp
  obtain ⟨c, A, e, -⟩ := F
  have h1 : j.toNatClampNeg < vs.length := (List.getElem?_eq_some_iff.mp hv).1
  exact Run.one (fun T locs X eT t g => X.caload C.hx (by rw [eT]; exact A.1) (State.isArrayOf_alike C.hZ.alike A.2.1) A.2.2 (Ary.inb (a := a) (ty := .char) e h0 h1) (by rw [e]; simpa using hv) (g := mkF W.m pc Ls (.int j :: .ref a :: st)) rfl rfl (C.hb hd) t g) r
theorem iaload (C : Cx Z W own nm code maxL ret) (hd : decode code pc = .ok (.iaload, 1)) {a : Addr} {vs : List Value} {j : Int32} {v : Value} (F : Ary Z h a .int vs) (h0 : ¬ j < 0) (hv : vs[j.toNatClampNeg]? = some v) (hp : pc + 1 = pc')
    (r : Run l R Z W Q h k n (mkF W.m pc' Ls (v :: st))) : Run l R Z W Q h k n (mkF W.m pc Ls (.int j :: .ref a :: st)) := by
  subst hp
  obtain ⟨c, A, e, -⟩ := F
  have h1 : j.toNatClampNeg < vs.length := (List.getElem?_eq_some_iff.mp hv).1
  exact Run.one (fun T locs X eT t g => X.iaload C.hx (by rw [eT]; exact A.1) (State.isArrayOf_alike C.hZ.alike A.2.1) A.2.2 (Ary.inb (a := a) (ty := .int) e h0 h1) (by rw [e]; simpa using hv) (g := mkF W.m pc Ls (.int j :: .ref a :: st)) rfl rfl (C.hb hd) t g) r
theorem baload (C : Cx Z W own nm code maxL ret) (hd : decode code pc = .ok (.baload, 1)) {a : Addr} {vs : List Value} {j : Int32} {v : Value} (F : Ary Z h a .byte vs) (h0 : ¬ j < 0) (hv : vs[j.toNatClampNeg]? = some v) (hp : pc + 1 = pc')
    (r : Run l R Z W Q h k n (mkF W.m pc' Ls (v :: st))) : Run l R Z W Q h k n (mkF W.m pc Ls (.int j :: .ref a :: st)) := by
  subst hp
  obtain ⟨c, A, e, -⟩ := F
  have h1 : j.toNatClampNeg < vs.length := (List.getElem?_eq_some_iff.mp hv).1
  exact Run.one (fun T locs X eT t g => X.baloadBytes C.hx (by rw [eT]; exact A.1) (State.isArrayOf_alike C.hZ.alike A.2.1) A.2.2 (Ary.inb (a := a) (ty := .byte) e h0 h1) (by rw [e]; simpa using hv) (g := mkF W.m pc Ls (.int j :: .ref a :: st)) rfl rfl (C.hb hd) t g) r
theorem saload (C : Cx Z W own nm code maxL ret) (hd : decode code pc = .ok (.saload, 1)) {a : Addr} {vs : List Value} {j : Int32} {v : Value} (F : Ary Z h a .short vs) (h0 : ¬ j < 0) (hv : vs[j.toNatClampNeg]? = some v) (hp : pc + 1 = pc')
    (r : Run l R Z W Q h k n (mkF W.m pc' Ls (v :: st))) : Run l R Z W Q h k n (mkF W.m pc Ls (.int j :: .ref a :: st)) := by
  subst hp
  obtain ⟨c, A, e, -⟩ := F
  have h1 : j.toNatClampNeg < vs.length := (List.getElem?_eq_some_iff.mp hv).1
  exact Run.one (fun T locs X eT t g => X.saload C.hx (by rw [eT]; exact A.1) (State.isArrayOf_alike C.hZ.alike A.2.1) A.2.2 (Ary.inb (a := a) (ty := .short) e h0 h1) (by rw [e]; simpa using hv) (g := mkF W.m pc Ls (.int j :: .ref a :: st)) rfl rfl (C.hb hd) t g) r
theorem laload (C : Cx Z W own nm code maxL ret) (hd : decode code pc = .ok (.laload, 1)) {a : Addr} {vs : List Value} {j : Int32} {v : Value} (F : Ary Z h a .long vs) (h0 : ¬ j < 0) (hv : vs[j.toNatClampNeg]? = some v) (hp : pc + 1 = pc')
    (r : Run l R Z W Q h k n (mkF W.m pc' Ls (v :: st))) : Run l R Z W Q h k n (mkF W.m pc Ls (.int j :: .ref a :: st)) := by
  subst hp
  obtain ⟨c, A, e, -⟩ := F
  have h1 : j.toNatClampNeg < vs.length := (List.getElem?_eq_some_iff.mp hv).1
  exact Run.one (fun T locs X eT t g => X.laload C.hx (by rw [eT]; exact A.1) (State.isArrayOf_alike C.hZ.alike A.2.1) A.2.2 (Ary.inb (a := a) (ty := .long) e h0 h1) (by rw [e]; simpa using hv) (g := mkF W.m pc Ls (.int j :: .ref a :: st)) rfl rfl (C.hb hd) t g) r
theorem aaload (C : Cx Z W own nm code maxL ret) (hd : decode code pc = .ok (.aaload, 1)) {a : Addr} {ty : FieldType} {vs : List Value} {j : Int32} {v : Value} (F : Ary Z h a ty vs) (ht : ty.isReference = true) (h0 : ¬ j < 0) (hv : vs[j.toNatClampNeg]? = some v) (hp : pc + 1 = pc')
    (r : Run l R Z W Q h k n (mkF W.m pc' Ls (v :: st))) : Run l R Z W Q h k n (mkF W.m pc Ls (.int j :: .ref a :: st)) := by
  subst hp
  obtain ⟨c, A, e, -⟩ := F
  have h1 : j.toNatClampNeg < vs.length := (List.getElem?_eq_some_iff.mp hv).1
  exact Run.one (fun T locs X eT t g => X.aaload C.hx (by rw [eT]; exact A.1) (State.isArrayOf_alike C.hZ.alike A.2.1) ht A.2.2 (Ary.inb (a := a) (ty := ty) e h0 h1) (by rw [e]; simpa using hv) (g := mkF W.m pc Ls (.int j :: .ref a :: st)) rfl rfl (C.hb hd) t g) r
theorem Run.wrote {a : Addr} {sl : Nat} {v : Value} {g g' : JFrame} (ha : Z.heap.size ≤ a) (f : ∀ T locs, Std l R W T locs k n → T.heap = h → ∃ T' h', Std l R W T' (locs ++ [⟨a, sl⟩]) k n ∧ T'.heap = h' ∧ Wr h h' a sl v ∧ ∀ t, Steps W.p.tables W.e W.b (T'.setTop g') t → Steps W.p.tables W.e W.b (T.setTop g) t)
    (r : ∀ h', Wr h h' a sl v → Ext Z.heap h' → Run l R Z W Q h' k n g') : Run l R Z W Q h k n g := fun T locs X eT N O => by
  obtain ⟨T', h', X', e', w', s'⟩ := f T locs X eT
  have O' : Ext Z.heap h' := ((old_of O).wr w' ha).2
  exact Go.step s' (r h' w' O' T' _ X' e' (Fr.snoc X' N ha) O')
theorem putF (C : Cx Z W own nm code maxL ret) {R0 O nmF d K : String} {ix kk : Nat} {ty : FieldType} (hd : decode code pc = .ok (.putfield ix, 3)) (w : (Cond.fieldLink own ix R0 nmF d).before a0 Z = true) (via : Via Z R0 O nmF d) {a : Addr} {v old : Value} (F : Fld Z h a O nmF d old) (E : Exa Z h a K)
    (L : (Cond.lays K O nmF d).before a0 Z = true ∨ ((Cond.laysFinal K O nmF d).before a0 Z = true ∧ own = O ∧ nm = "<init>")) (wi : (Cond.instantiable K kk).before a0 Z = true) (hty : parseFieldDescriptor d = some ty) (hn : narrow ty v = v) (hf : fits ty v = true) (ha : Z.heap.size ≤ a) (hp : pc + 3 = pc')
    (r : ∀ h', Wr h h' a (RoadKit.slotOf Z O nmF d) v → Ext Z.heap h' → Run l R Z W Q h' k n (mkF W.m pc' Ls st)) : Run l R Z W Q h k n (mkF W.m pc Ls (v :: .ref a :: st)) := by
  subst hp
  exact Run.wrote ha (fun T locs X eT => RoadKit.putF X C.hx C.hZ C.ow (host := "") (Or.inl w) via eT F E (L.imp id fun q => ⟨q.1, q.2.1, C.nme.trans q.2.2⟩) wi hty hn hf (g := mkF W.m pc Ls (v :: .ref a :: st)) rfl rfl (C.hb hd)) r
theorem castore (C : Cx Z W own nm code maxL ret) (hd : decode code pc = .ok (.castore, 1)) {a : Addr} {vs vs' : List Value} {j x : Int32} (F : Ary Z h a .char vs) (h0 : ¬ j < 0) (h1 : j.toNatClampNeg < vs.length) (hx : nar .char x = x) (hs : vs.set j.toNatClampNeg (.int x) = vs') (ha : Z.heap.size ≤ a) (hp : pc + 1 = pc')
    (r : ∀ h', Wr h h' a j.toNatClampNeg (.int x) → Ary Z h' a .char vs' → Ext Z.heap h' → Run l R Z W Q h' k n (mkF W.m pc' Ls st)) : Run l R Z W Q h k n (mkF W.m pc Ls (.int x :: .int j :: .ref a :: st)) := by
  subst hp hs
  have F' := F
  obtain ⟨c, A, e, -⟩ := F'
  exact Run.wrote ha (fun T locs X eT => by have w0 := RoadKit.stC X C.hx C.hZ eT A (Ary.inb (a := a) (ty := .char) e h0 h1) (g := mkF W.m pc Ls (.int x :: .int j :: .ref a :: st)) rfl rfl (C.hb hd); rw [hx] at w0; exact w0) (fun h' w' O' => r h' w' (F.set w' (hx ▸ fits_nar_char x)) O')
theorem bastore (C : Cx Z W own nm code maxL ret) (hd : decode code pc = .ok (.bastore, 1)) {a : Addr} {vs vs' : List Value} {j x : Int32} (F : Ary Z h a .byte vs) (h0 : ¬ j < 0) (h1 : j.toNatClampNeg < vs.length) (hs : vs.set j.toNatClampNeg (.int (nar .byte x)) = vs') (ha : Z.heap.size ≤ a) (hp : pc + 1 = pc')
    (r : ∀ h', Wr h h' a j.toNatClampNeg (.int (nar .byte x)) → Ary Z h' a .byte vs' → Ext Z.heap h' → Run l R Z W Q h' k n (mkF W.m pc' Ls st)) : Run l R Z W Q h k n (mkF W.m pc Ls (.int x :: .int j :: .ref a :: st)) := by
  subst hp hs
  have F' := F
  obtain ⟨c, A, e, -⟩ := F'
  exact Run.wrote ha (fun T locs X eT => by have w0 := RoadKit.stB X C.hx C.hZ eT A (Ary.inb (a := a) (ty := .byte) e h0 h1) (g := mkF W.m pc Ls (.int x :: .int j :: .ref a :: st)) rfl rfl (C.hb hd); exact w0) (fun h' w' O' => r h' w' (F.set w' (fits_nar_byte x)) O')
theorem iastore (C : Cx Z W own nm code maxL ret) (hd : decode code pc = .ok (.iastore, 1)) {a : Addr} {vs vs' : List Value} {j x : Int32} (F : Ary Z h a .int vs) (h0 : ¬ j < 0) (h1 : j.toNatClampNeg < vs.length) (hs : vs.set j.toNatClampNeg (.int x) = vs') (ha : Z.heap.size ≤ a) (hp : pc + 1 = pc')
    (r : ∀ h', Wr h h' a j.toNatClampNeg (.int x) → Ary Z h' a .int vs' → Ext Z.heap h' → Run l R Z W Q h' k n (mkF W.m pc' Ls st)) : Run l R Z W Q h k n (mkF W.m pc Ls (.int x :: .int j :: .ref a :: st)) := by
  subst hp hs
  have F' := F
  obtain ⟨c, A, e, -⟩ := F'
  exact Run.wrote ha (fun T locs X eT => by have w0 := RoadKit.stI X C.hx C.hZ eT A (Ary.inb (a := a) (ty := .int) e h0 h1) (g := mkF W.m pc Ls (.int x :: .int j :: .ref a :: st)) rfl rfl (C.hb hd); exact w0) (fun h' w' O' => r h' w' (F.set w' rfl) O')
theorem aastore (C : Cx Z W own nm code maxL ret) (hd : decode code pc = .ok (.aastore, 1)) {a : Addr} {ty : FieldType} {vs vs' : List Value} {j : Int32} {v : Value} (F : Ary Z h a ty vs) (h0 : ¬ j < 0) (h1 : j.toNatClampNeg < vs.length) (ht : ty.isReference = true) (So : Sto Z h a v) (hf : fits ty v = true) (hs : vs.set j.toNatClampNeg v = vs') (ha : Z.heap.size ≤ a) (hp : pc + 1 = pc')
    (r : ∀ h', Wr h h' a j.toNatClampNeg v → Ary Z h' a ty vs' → Ext Z.heap h' → Run l R Z W Q h' k n (mkF W.m pc' Ls st)) : Run l R Z W Q h k n (mkF W.m pc Ls (v :: .int j :: .ref a :: st)) := by
  subst hp hs
  have F' := F
  obtain ⟨c, A, e, -⟩ := F'
  exact Run.wrote ha (fun T locs X eT => stR X C.hx C.hZ eT A (Ary.inb (a := a) (ty := ty) e h0 h1) ht So (g := mkF W.m pc Ls (v :: .int j :: .ref a :: st)) rfl rfl (C.hb hd)) (fun h' w' O' => r h' w' (F.set w' hf) O')
/-- what a fresh object holds -/
abbrev Fresh (Z : State) (a0 : Array Value) (h' : Heap) (a : Addr) (K : String) : Prop := ∀ {O nm d : String} {ty : FieldType}, Laid Z a0 K O nm d → parseFieldDescriptor d = some ty → Fld Z h' a O nm d (defaultValue ty)
theorem newO (C : Cx Z W own nm code maxL ret) {K : String} {ix sl k' n' : Nat} (hd : decode code pc = .ok (.new ix, 3)) (w : (Cond.classLink own ix K).before a0 Z = true) (wi : (Cond.instantiable K sl).before a0 Z = true) (wz : (Cond.initialized K).before a0 Z = true) (hc : k + 1 = k') (hl : n + sl = n') (hc' : k' ≤ R.cells) (hl' : n' ≤ R.slots) (hp : pc + 3 = pc')
    (r : ∀ a h', a = h.size → Z.heap.size ≤ a → Ext h h' → Exa Z h' a K → Fresh Z a0 h' a K → Unt h' a → Ext Z.heap h' → Run l R Z W Q h' k' n' (mkF W.m pc' Ls (.ref a :: st))) : Run l R Z W Q h k n (mkF W.m pc Ls st) := by
  subst hp hc hl
  intro T locs X eT N O
  obtain ⟨T', h', X', e', E', A', D', U', s'⟩ := RoadKit.newO X C.hx C.hZ C.ow w wi wz eT (g := mkF W.m pc Ls st) rfl (C.hb hd) hc' hl'
  have O' : Ext Z.heap h' := ((old_of O).ext E').2
  exact Go.step s' (r h.size h' rfl O.1 E' A' D' U' O' T' locs X' e' N O')
theorem newA (C : Cx Z W own nm code maxL ret) {aty : ArrayType} {ty : FieldType} {z : Int32} {k' n' cap : Nat} (hd : decode code pc = .ok (.newarray aty, 2)) (ht : newarray.typeOf aty = ty) (w : (Cond.arrayClass ty).before a0 Z = true) (hz : ¬ z < 0) (hcap : z.toNatClampNeg ≤ cap) (hb : cap * 8 ≤ 536870912) (hc : k + 1 = k') (hl : n + cap = n') (hc' : k' ≤ R.cells) (hl' : n' ≤ R.slots) (hdf : fits ty (defaultValue ty) = true) (hp : pc + 2 = pc')
    (r : ∀ a h', a = h.size → Z.heap.size ≤ a → Ext h h' → Ary Z h' a ty (List.replicate z.toNatClampNeg (defaultValue ty)) → Ext Z.heap h' → Run l R Z W Q h' k' n' (mkF W.m pc' Ls (.ref a :: st))) : Run l R Z W Q h k n (mkF W.m pc Ls (.int z :: st)) := by
  subst hp hc hl ht
  intro T locs X eT N O
  obtain ⟨T', h', cA, X', e', E', A', s'⟩ := newP X C.hx C.hZ w eT (g := mkF W.m pc Ls (.int z :: st)) rfl (C.hb hd) rfl hz hcap hb hc' hl'
  have O' : Ext Z.heap h' := ((old_of O).ext E').2
  have hz2 : z.toNatClampNeg < 2 ^ 31 := (back32 hz).2
  refine Go.step s' (r h.size h' rfl O.1 E' ⟨_, A', ?_, by simpa using hz2, fun v hv => ?_⟩ O' T' locs X' e' N O')
  · show Array.replicate _ _ = _
    simp
  · rw [(List.mem_replicate.mp hv).2]; exact hdf
/-- an array of references to K: its class -/
def RefA (Z : State) (h : Heap) (a : Addr) (K : String) : Prop := ∃ cl : Cell, h[a]? = some cl ∧ Ovr Z cl.cls K
theorem RefA.ext {h' : Heap} {a : Addr} {K : String} (F : RefA Z h a K) (E : Ext h h') : RefA Z h' a K := by
  obtain ⟨cl, h1, r⟩ := F
  exact ⟨cl, E.2 _ _ h1, r⟩
theorem RefA.wr {h' : Heap} {a b : Addr} {K : String} {sl : Nat} {v : Value} (F : RefA Z h a K) (W : Wr h h' b sl v) : RefA Z h' a K := by
  obtain ⟨cl, h1, r⟩ := F
  obtain ⟨d, d1, d2, -⟩ := wr_at W h1
  exact ⟨d, d1, by rw [d2]; exact r⟩
theorem RefA.sto {a y : Addr} {K : String} {ty : FieldType} {vs : List Value} (F : RefA Z h a K) (V : Ary Z h a ty vs) (I : Ins Z h y K true) : Sto Z h a (.ref y) := by
  obtain ⟨cl, h1, r⟩ := F
  obtain ⟨c, A, -⟩ := V
  cases h1.symm.trans A.1
  exact Sto.of A r I
theorem newR (C : Cx Z W own nm code maxL ret) {K ad : String} {z : Int32} {ix k' n' cap : Nat} (hd : decode code pc = .ok (.anewarray ix, 3)) (w1 : (Cond.classLink own ix K).before a0 Z = true) (w2 : (Cond.arrayOver (.object K)).before a0 Z = true) (had : "[" ++ (FieldType.object K).toString = ad) (hz : ¬ z < 0) (hcap : z.toNatClampNeg ≤ cap) (hb : cap * 8 ≤ 536870912) (hc : k + 1 = k') (hl : n + cap = n') (hc' : k' ≤ R.cells) (hl' : n' ≤ R.slots) (hp : pc + 3 = pc')
    (r : ∀ a h', a = h.size → Z.heap.size ≤ a → Ext h h' → Ary Z h' a (.object K) (List.replicate z.toNatClampNeg .null) → Exa Z h' a ad → RefA Z h' a K → Ext Z.heap h' → Run l R Z W Q h' k' n' (mkF W.m pc' Ls (.ref a :: st))) : Run l R Z W Q h k n (mkF W.m pc Ls (.int z :: st)) := by
  subst hp hc hl
  intro T locs X eT N O
  obtain ⟨T', h', cA, X', e', E', A', I', O2, s'⟩ := newRE X C.hx C.hZ C.ow w1 w2 eT (g := mkF W.m pc Ls (.int z :: st)) rfl (C.hb hd) rfl hz hcap hb hc' hl' had
  have O' : Ext Z.heap h' := ((old_of O).ext E').2
  have hz2 : z.toNatClampNeg < 2 ^ 31 := (back32 hz).2
  refine Go.step s' (r h.size h' rfl O.1 E' ⟨_, A', ?_, by simpa using hz2, fun v hv => ?_⟩ I' ⟨_, A'.1, O2⟩ O' T' locs X' e' N O')
  · show Array.replicate _ (defaultValue (.object K)) = _
    rw [show defaultValue (.object K) = Value.null from rfl]
    simp
  · rw [(List.mem_replicate.mp hv).2]; rfl
theorem declOf {y : MethodName} {bytes : ByteArray} {mxL : Nat} {rt : Option FieldType} (w1 : (Cond.instanceMethod y).before a0 Z = true) (w2 : (Cond.code y bytes mxL rt).before a0 Z = true) : (Cond.declares y).before a0 Z = true := by
  obtain ⟨m, meth, h1, h2, h3, -⟩ := Cond.instanceMethod_spec w1
  obtain ⟨meth', c', g1, -, -, -, -, -, -, g2⟩ := Cond.code_spec h1 w2
  cases h2.symm.trans g1
  simp [Cond.before, Cond.holds, Cond.value, h1, h2, h3, g2]
theorem cloneA (C : Cx Z W own nm code maxL ret) {ad : String} {ty : FieldType} {vs : List Value} {ix Wn k' n' : Nat} {a : Addr} (hd : decode code pc = .ok (.invokevirtual ix, 3)) (F : Ary Z h a ty vs) (E : Exa Z h a ad)
    (w1 : (Cond.methodLink own ix ⟨ad, "clone", "()Ljava/lang/Object;"⟩).before a0 Z = true) (w2 : (Cond.sameMethod ad "java/lang/Object" "clone" "()Ljava/lang/Object;").before a0 Z = true) (w3 : (Cond.native ⟨"java/lang/Object", "clone", "()Ljava/lang/Object;"⟩).before a0 Z = true) (w4 : (Cond.instanceMethod ⟨"java/lang/Object", "clone", "()Ljava/lang/Object;"⟩).before a0 Z = true)
    (w5 : (Cond.selects ad ⟨ad, "clone", "()Ljava/lang/Object;"⟩ ⟨"java/lang/Object", "clone", "()Ljava/lang/Object;"⟩).before a0 Z = true) (w6 : (Cond.castable ad "java/lang/Cloneable").before a0 Z = true) (hsz : Ls.size = maxL) (hf : 1 ≤ R.frames) (hW : (st.map fun v => v.category).sum ≤ Wn) (hlo : Wn + 14 ≤ R.locals) (hc : k + 1 = k') (hl : n + vs.length = n') (hc' : k' ≤ R.cells) (hl' : n' ≤ R.slots) (hp : pc + 3 = pc')
    (r : ∀ b h', b = h.size → Z.heap.size ≤ b → Ext h h' → Ary Z h' b ty vs → Exa Z h' b ad → Ext Z.heap h' → Run l R Z W Q h' k' n' (mkF W.m pc' Ls (.ref b :: st))) : Run l R Z W Q h k n (mkF W.m pc Ls (.ref a :: st)) := by
  subst hp hc hl
  intro T locs X eT N O
  obtain ⟨c, A, e, q, f⟩ := F
  have hs : c.slots.size = vs.length := by rw [e]; simp
  obtain ⟨T', h', X', e', E', A', X2, s'⟩ := RoadKit.cloneA X C.hx C.hZ C.ow w1 w2 w3 w4 w5 w6 eT A E (fitC_of A fun i hi v hv => f v (by rw [e] at hv; exact List.mem_of_getElem? (by simpa using hv))) (g := mkF W.m pc Ls (.ref a :: st)) rfl (hsz.trans C.ml.symm) rfl (C.hb hd) hf (W := Wn) (cap := vs.length) (by show 2 * 0 + _ ≤ _; omega) hlo (by omega) hc' hl'
  have O' : Ext Z.heap h' := ((old_of O).ext E').2
  exact Go.step s' (r h.size h' rfl O.1 E' ⟨_, A', e, q, f⟩ X2 O' T' locs X' e' N O')
theorem initO (C : Cx Z W own nm code maxL ret) {ix Wn : Nat} (hd : decode code pc = .ok (.invokespecial ix, 3)) (w1 : (Cond.methodLink own ix Lib.objectInit).before a0 Z = true) (w2 : (Cond.instanceMethod Lib.objectInit).before a0 Z = true) (w3 : (Cond.code Lib.objectInit ⟨#[0xb1]⟩ 1 none).before a0 Z = true) {a : Addr} (hsz : Ls.size = maxL) (hf : 1 ≤ R.frames) (hW : (st.map fun v => v.category).sum ≤ Wn) (hl : Wn + 12 ≤ R.locals) (hp : pc + 3 = pc')
    (r : Run l R Z W Q h k n (mkF W.m pc' Ls st)) : Run l R Z W Q h k n (mkF W.m pc Ls (.ref a :: st)) := by
  subst hp
  exact Run.via (fun T locs X eT => RoadKit.initO X C.hx C.hZ C.ow w1 w2 w3 eT (g := mkF W.m pc Ls (.ref a :: st)) rfl (hsz.trans C.ml.symm) rfl (C.hb hd) hf (W := Wn) (by show 2 * 0 + _ ≤ _; omega) hl) r
/-! ## contracts and calls -/
/-- the method y, called with these arguments at the heap h0, returns with Q -/
def Con (l : Launch) (Z : State) (y : MethodName) (bytes : ByteArray) (maxL : Nat) (ret : Option FieldType) (rm : Room) (as' : Array Value) (h0 : Heap) (Q : Post) : Prop :=
  ∀ ws, MetFree l y (head1 (Jvm.Cond.code y bytes maxL ret :: ws) rm) (fun a U => a = as' ∧ Z.Warmed39 U.vm ∧ U.heap = h0) (fun _ _ _ _ _ => True) (fun _ U o U' => ∃ v L, o = .returned v ∧ (Q v U'.heap ∧ Ext Z.heap U'.heap ∧ Fr Z.heap.size L) ∧ FrameEnd U o U' L rm.cells rm.slots)
theorem Con.intro {y : MethodName} {bytes : ByteArray} {rm : Room} {as' : Array Value} {Ls0 : Array Slot} (hy : plainFor y = true) (O : Ext Z.heap h) (he : ∀ m, entryFrame m as' maxL = mkF m 0 Ls0 [])
    (body : ∀ W : Wd, Cx Z W y.cls y.name bytes maxL ret → Run l rm Z W Q h 0 0 (mkF W.m 0 Ls0 [])) : Con l Z y bytes maxL ret rm as' h Q := by
  intro ws
  refine MetFree.of_bodySF hy hisR ?_
  intro p e s m args below meth c s₁ Bd hml0 hP hK
  obtain ⟨rfl, hZ, hh⟩ := hP
  have e0 : s₁.heap = h := by rw [← hh, Bd.state]; rfl
  have X0 : Stand p l e rm s m args below meth c s₁ [] 0 0 := Stand.of_body Bd
  have r := body (p, e, s, m, args, below, meth, c) ⟨Bd.exec, Bd.bytes, hml0, findClass_of_methodNamed Bd.named, hZ, Bd.returns, (name_of_methodNamed Bd.named Bd.method).1, Bd.notSynchronized⟩ s₁ [] X0 e0 (Fr.nil _) O
  rw [he m]
  exact r
theorem Con.mono {y : MethodName} {bytes : ByteArray} {rm : Room} {as' : Array Value} {Q' : Post} (c : Con l Z y bytes maxL ret rm as' h Q) (f : ∀ v h', Q v h' → Q' v h') : Con l Z y bytes maxL ret rm as' h Q' := by
  intro ws p e ha hc hk s m args below hf happ hP hK
  obtain ⟨n, o, h1, h2, h3, v, L, h4, ⟨h5, h6⟩, h7⟩ := c ws p e ha hc hk s m args below hf happ hP hK
  exact ⟨n, o, h1, h2, h3, v, L, h4, ⟨f _ _ h5, h6⟩, h7⟩
section Calls
variable {y : MethodName} {bytes : ByteArray} {mxL : Nat} {rt : Option FieldType} {rm : Room} {Qc : Post} {argsL : List Value} {as' : Array Value} {ix Wn k' n' kc nc : Nat} {st' : List Value}
/-- a law of the library, or a contract, as a call takes it -/
abbrev Pays (l : Launch) (R : Room) (W : Wd) (y : MethodName) (ln Wn : Nat) (as' : Array Value) (h : Heap) (kc nc : Nat) (Qv : Option Value → Heap → List Loc → Prop) : Prop :=
  Back l R W.p W.e W.b W.s W.a y ln Wn (fun P a => a = as' ∧ P.U.heap = h ∧ P.cells + kc ≤ R.cells ∧ P.slots + nc ≤ R.slots) (fun P _ v B => ∃ L, Qv v B.U.heap L ∧ B.locs = P.locs ++ L ∧ B.cells = P.cells + kc ∧ B.slots = P.slots + nc)
abbrev Clean (Z : State) (Qc : Post) (Qv : Option Value → Heap → List Loc → Prop) : Prop := ∀ v h' L, Qv v h' L → Qc v h' ∧ Ext Z.heap h' ∧ Fr Z.heap.size L
theorem Con.pays (C : Cx Z W own nm code maxL ret) {ln : Nat} (K : Con l Z y bytes mxL rt rm as' h Qc) (w4 : (Cond.code y bytes mxL rt).before a0 Z = true) (wz : (Cond.initialized y.cls).before a0 Z = true) (hf : rm.frames + 1 ≤ R.frames) (hl : Wn + (mxL + 11) + rm.locals ≤ R.locals) :
    Pays l R W y ln Wn as' h rm.cells rm.slots (fun v h' L => Qc v h' ∧ Ext Z.heap h' ∧ Fr Z.heap.size L) := backOf (W := Wn) (Q := fun v h' L => Qc v h' ∧ Ext Z.heap h' ∧ Fr Z.heap.size L) (K []) C.hZ w4 wz hf hl
theorem callS (C : Cx Z W own nm code maxL ret) (hd : decode code pc = .ok (.invokestatic ix, 3)) {Qv : Option Value → Heap → List Loc → Prop} (K : Pays l R W y 3 Wn as' h kc nc Qv) (hQ : Clean Z Qc Qv) (w1 : (Cond.methodLink own ix y).before a0 Z = true) (w2 : (Cond.static y).before a0 Z = true) (w3 : (Cond.initialized y.cls).before a0 Z = true) (w4 : (Cond.code y bytes mxL rt).before a0 Z = true) (hy : y.cls ≠ "java/lang/invoke/MethodHandle" ∧ y.cls ≠ "java/lang/invoke/VarHandle")
    (has : argsL.toArray = as') (hst : argsL.reverse ++ st = st') (hlen : ∀ sig, parseMethodDescriptor y.desc = some sig → argsL.length = sig.parameters.length) (hsz : Ls.size = maxL) (hW : (st.map fun v => v.category).sum ≤ Wn) (hk : k + kc = k') (hn : n + nc = n') (hk' : k' ≤ R.cells) (hn' : n' ≤ R.slots) (hp : pc + 3 = pc')
    (r : ∀ v h', Qc v h' → Ext Z.heap h' → Run l R Z W Q h' k' n' (mkF W.m pc' Ls (v.toList ++ st))) : Run l R Z W Q h k n (mkF W.m pc Ls st') := by
  subst hp hk hn has hst
  intro T locs X eT N O
  obtain ⟨v, vm₁, ⟨T', L', k', n'⟩, -, X', ⟨L, q0, l1, y1, z1⟩, s'⟩ := Jvm.LawKit.callS X C.hx (y := y) C.ow (mvT C.hZ w1) (mvT C.hZ w2) (mvT C.hZ w3) (mvT C.hZ w4) hy K (g := mkF W.m pc Ls (argsL.reverse ++ st)) rfl (hsz.trans C.ml.symm) (argsL := argsL) (rest := st) hlen rfl (by show 2 * 0 + _ ≤ _; omega) (C.hb hd) (fun _ _ => ⟨rfl, eT, hk', hn'⟩)
  dsimp only [Pt.U, Pt.locs, Pt.cells, Pt.slots] at X' l1 y1 z1 s' q0
  subst l1 y1 z1
  obtain ⟨q1, q2, q3⟩ := hQ _ _ _ q0
  exact Go.step s' (r v T'.heap q1 q2 T' _ X' rfl (N.app q3) q2)
theorem callI (C : Cx Z W own nm code maxL ret) (hd : decode code pc = .ok (.invokespecial ix, 3)) {a : Addr} {Qv : Option Value → Heap → List Loc → Prop} (K : Pays l R W y 3 Wn as' h kc nc Qv) (hQ : Clean Z Qc Qv) (hi : y.name = "<init>") (w1 : (Cond.methodLink own ix y).before a0 Z = true) (w2 : (Cond.instanceMethod y).before a0 Z = true) (w4 : (Cond.code y bytes mxL none).before a0 Z = true) (hy : y.cls ≠ "java/lang/invoke/MethodHandle" ∧ y.cls ≠ "java/lang/invoke/VarHandle")
    (has : (Value.ref a :: argsL).toArray = as') (hst : argsL.reverse ++ .ref a :: st = st') (hlen : ∀ sig, parseMethodDescriptor y.desc = some sig → argsL.length = sig.parameters.length) (hsz : Ls.size = maxL) (hW : (st.map fun v => v.category).sum ≤ Wn) (hk : k + kc = k') (hn : n + nc = n') (hk' : k' ≤ R.cells) (hn' : n' ≤ R.slots) (hp : pc + 3 = pc')
    (r : ∀ v h', Qc v h' → Ext Z.heap h' → Run l R Z W Q h' k' n' (mkF W.m pc' Ls (v.toList ++ st))) : Run l R Z W Q h k n (mkF W.m pc Ls st') := by
  subst hp hk hn has hst
  intro T locs X eT N O
  obtain ⟨v, vm₁, ⟨T', L', k', n'⟩, -, X', ⟨L, q0, l1, y1, z1⟩, s'⟩ := X.specialBack C.hx (y := y) hi C.ow (mvT C.hZ w1) (mvT C.hZ w2) (mvT C.hZ w4) hy K (g := mkF W.m pc Ls (argsL.reverse ++ .ref a :: st)) rfl (hsz.trans C.ml.symm) (Steps.refl _) (a := a) (argsL := argsL) (rest := st) hlen rfl (by show 2 * 0 + _ ≤ _; omega) (C.hb hd) (fun _ _ => ⟨rfl, eT, hk', hn'⟩)
  dsimp only [Pt.U, Pt.locs, Pt.cells, Pt.slots] at X' l1 y1 z1 s' q0
  subst l1 y1 z1
  obtain ⟨q1, q2, q3⟩ := hQ _ _ _ q0
  exact Go.step (fun t => s'.trans) (r v T'.heap q1 q2 T' _ X' rfl (N.app q3) q2)
theorem callV (C : Cx Z W own nm code maxL ret) (hd : decode code pc = .ok (.invokevirtual ix, 3)) {y0 : MethodName} {K0 : String} {a : Addr} {Qv : Option Value → Heap → List Loc → Prop} (K : Pays l R W y 3 Wn as' h kc nc Qv) (hQ : Clean Z Qc Qv) (E : Exa Z h a K0) (w1 : (Cond.methodLink own ix y0).before a0 Z = true) (w2 : (Cond.declares y0).before a0 Z = true) (nf : NotFace W.s y0) (w3 : (Cond.selects K0 y0 y).before a0 Z = true) (w5 : (Cond.instanceMethod y).before a0 Z = true) (hy : y0.cls ≠ "java/lang/invoke/MethodHandle" ∧ y0.cls ≠ "java/lang/invoke/VarHandle")
    (has : (Value.ref a :: argsL).toArray = as') (hst : argsL.reverse ++ .ref a :: st = st') (hlen : ∀ sig, parseMethodDescriptor y0.desc = some sig → argsL.length = sig.parameters.length) (hsz : Ls.size = maxL) (hW : (st.map fun v => v.category).sum ≤ Wn) (hk : k + kc = k') (hn : n + nc = n') (hk' : k' ≤ R.cells) (hn' : n' ≤ R.slots) (hp : pc + 3 = pc')
    (r : ∀ v h', Qc v h' → Ext Z.heap h' → Run l R Z W Q h' k' n' (mkF W.m pc' Ls (v.toList ++ st))) : Run l R Z W Q h k n (mkF W.m pc Ls st') := by
  subst hp hk hn has hst
  intro T locs X eT N O
  obtain ⟨cq, kq, qa, qb, qc⟩ := isOf C.hZ eT E
  obtain ⟨v, vm₁, ⟨T', L', k', n'⟩, -, X', ⟨L, q0, l1, y1, z1⟩, s'⟩ := X.virtualBack C.hx (y := y0) (z := y) C.ow (mvT C.hZ w1) (mvT C.hZ w2) nf (mvT C.hZ w3) (mvT C.hZ w5) hy K qa qc (g := mkF W.m pc Ls (argsL.reverse ++ .ref a :: st)) rfl (hsz.trans C.ml.symm) (Steps.refl _) (argsL := argsL) (rest := st) hlen rfl (by show 2 * 0 + _ ≤ _; omega) (C.hb hd) (fun _ _ => ⟨rfl, eT, hk', hn'⟩)
  dsimp only [Pt.U, Pt.locs, Pt.cells, Pt.slots] at X' l1 y1 z1 s' q0
  subst l1 y1 z1
  obtain ⟨q1, q2, q3⟩ := hQ _ _ _ q0
  exact Go.step (fun t => s'.trans) (r v T'.heap q1 q2 T' _ X' rfl (N.app q3) q2)
theorem callVU (C : Cx Z W own nm code maxL ret) (hd : decode code pc = .ok (.invokevirtual ix, 3)) {y0 : MethodName} {K0 owner : String} {a : Addr} {Qv : Option Value → Heap → List Loc → Prop} (K : Pays l R W y 3 Wn as' h kc nc Qv) (hQ : Clean Z Qc Qv) (E : Exa Z h a K0) (w1 : (Cond.methodLink own ix y0).before a0 Z = true) (w0 : (Cond.sameMethod y0.cls owner y0.name y0.desc).before a0 Z = true) (w2 : (Cond.declares ⟨owner, y0.name, y0.desc⟩).before a0 Z = true) (w3 : (Cond.selects K0 y0 y).before a0 Z = true) (w5 : (Cond.instanceMethod y).before a0 Z = true) (hy : owner ≠ "java/lang/invoke/MethodHandle" ∧ owner ≠ "java/lang/invoke/VarHandle")
    (has : (Value.ref a :: argsL).toArray = as') (hst : argsL.reverse ++ .ref a :: st = st') (hlen : ∀ sig, parseMethodDescriptor y0.desc = some sig → argsL.length = sig.parameters.length) (hsz : Ls.size = maxL) (hW : (st.map fun v => v.category).sum ≤ Wn) (hk : k + kc = k') (hn : n + nc = n') (hk' : k' ≤ R.cells) (hn' : n' ≤ R.slots) (hp : pc + 3 = pc')
    (r : ∀ v h', Qc v h' → Ext Z.heap h' → Run l R Z W Q h' k' n' (mkF W.m pc' Ls (v.toList ++ st))) : Run l R Z W Q h k n (mkF W.m pc Ls st') := by
  subst hp hk hn has hst
  intro T locs X eT N O
  obtain ⟨cq, kq, qa, qb, qc⟩ := isOf C.hZ eT E
  obtain ⟨v, vm₁, ⟨T', L', k', n'⟩, -, X', ⟨L, q0, l1, y1, z1⟩, s'⟩ := X.virtualBackUp C.hx (x := y0) (y := y) C.ow (mvT C.hZ w1) (mvT C.hZ w0) (mvT C.hZ w2) hy (mvT C.hZ w3) (mvT C.hZ w5) K qa qc (g := mkF W.m pc Ls (argsL.reverse ++ .ref a :: st)) rfl (hsz.trans C.ml.symm) (Steps.refl _) (argsL := argsL) (rest := st) hlen rfl (by show 2 * 0 + _ ≤ _; omega) (C.hb hd) (fun _ _ => ⟨rfl, eT, hk', hn'⟩)
  dsimp only [Pt.U, Pt.locs, Pt.cells, Pt.slots] at X' l1 y1 z1 s' q0
  subst l1 y1 z1
  obtain ⟨q1, q2, q3⟩ := hQ _ _ _ q0
  exact Go.step (fun t => s'.trans) (r v T'.heap q1 q2 T' _ X' rfl (N.app q3) q2)
theorem clean0 {Qv : Post} (O : Ext Z.heap h) : Clean Z (fun v h' => Qv v h' ∧ h' = h) (fun v h' L => (Qv v h' ∧ h' = h) ∧ L = []) := fun v h' L q => by
  obtain ⟨⟨q1, rfl⟩, rfl⟩ := q
  exact ⟨⟨q1, rfl⟩, O, Fr.nil _⟩
theorem cleanC {Qc : Post} : Clean Z Qc (fun v h' L => Qc v h' ∧ Ext Z.heap h' ∧ Fr Z.heap.size L) := fun v h' L q => q
end Calls
theorem Ext.refl (h : Heap) : Ext h h := ⟨Nat.le_refl _, fun _ _ q => q⟩
theorem Ext.trans {h1 h2 h3 : Heap} (A : Ext h1 h2) (B : Ext h2 h3) : Ext h1 h3 := ⟨Nat.le_trans A.1 B.1, fun a c q => B.2 a c (A.2 a c q)⟩
theorem Ext.wr {Z : State} {h1 h2 h3 : Heap} {a : Addr} {sl : Nat} {v : Value} (A : Ext h1 h2) (B : Wr h2 h3 a sl v) (q : h1.size ≤ a) : Ext h1 h3 := ((old_of (Z := { Z with heap := h1 }) A).wr B q).2
theorem Ext.keep1 {Z : State} {h1 h2 h3 : Heap} {a : Addr} (A : Ext h1 h2) (B : Keep h2 h3 [a]) (q : h1.size ≤ a) : Ext h1 h3 := ((old_of (Z := { Z with heap := h1 }) A).keep B (allS q all0)).2
theorem Keep.toExt {h1 h2 : Heap} (A : Keep h1 h2 []) : Ext h1 h2 := ⟨A.1, fun a c q => A.2.1 a c q nin0⟩
/-! ## returns -/
theorem Run.leave (C : Cx Z W own nm code maxL ret) {v : Option Value} {f : JFrame} (hv : ret = none → v = none) (q : Q v h) (hk : k ≤ R.cells) (hn : n ≤ R.slots)
    (s' : ∀ T locs, Std l R W T locs k n → ∀ fs, (∀ (f : JFrame) (acts : List Action), f.method = W.m → f.locked = none → f.entered = [] → (doReturn W.e (T.setTop f) acts v).1 = T.setFrames fs) → Steps W.p.tables W.e W.b (T.setTop f) (T.setFrames fs)) : Run l R Z W Q h k n f := by
  intro T locs X eT N O
  have hlk : W.t.locks = false := C.lk
  obtain ⟨fs, hr, hrun, hended, hW, hsame⟩ := X.leave (v := v) (fun hh => hv (C.rt.symm.trans hh))
  have e2 : (T.setFrames fs).heap = h := eT
  exact ⟨_, _, s' T locs X fs hr, hrun, hended, _, _, rfl, ⟨by rw [e2]; exact q, by rw [e2]; exact O, N⟩, ⟨_, rfl⟩, hW, hsame.mono hk hn⟩
theorem retV (C : Cx Z W own nm code maxL none) (hd : decode code pc = .ok (.return_, 1)) (hk : k ≤ R.cells) (hn : n ≤ R.slots) (q : Q none h) : Run l R Z W Q h k n (mkF W.m pc Ls []) :=
  Run.leave C (fun _ => rfl) q hk hn (fun T locs X fs hr => X.returnOut C.hx C.rt (C.hb hd) hr)
theorem retI (C : Cx Z W own nm code maxL (some .int)) (hd : decode code pc = .ok (.ireturn, 1)) {z : Int32} (hk : k ≤ R.cells) (hn : n ≤ R.slots) (q : Q (some (.int z)) h) : Run l R Z W Q h k n (mkF W.m pc Ls (.int z :: st)) :=
  Run.leave C (fun hh => nomatch hh) q hk hn (fun T locs X fs hr => retOut X C.hx C.rt rfl (Or.inl ⟨rfl, Or.inl rfl, z, rfl⟩) (C.hb hd) hr)
theorem retNar {ty : FieldType} (C : Cx Z W own nm code maxL (some ty)) (ht : ty = .boolean ∨ ty = .byte ∨ ty = .char ∨ ty = .short) (hd : decode code pc = .ok (.ireturn, 1)) {z z' : Int32} (hz : nar ty z = z') (hk : k ≤ R.cells) (hn : n ≤ R.slots) (q : Q (some (.int z')) h) : Run l R Z W Q h k n (mkF W.m pc Ls (.int z :: st)) := by
  subst hz
  exact Run.leave C (fun hh => nomatch hh) q hk hn (fun T locs X fs hr => retN X C.hx C.rt ht (C.hb hd) hr)
theorem retL (C : Cx Z W own nm code maxL (some .long)) (hd : decode code pc = .ok (.lreturn, 1)) {z : Int64} (hk : k ≤ R.cells) (hn : n ≤ R.slots) (q : Q (some (.long z)) h) : Run l R Z W Q h k n (mkF W.m pc Ls (.long z :: st)) :=
  Run.leave C (fun hh => nomatch hh) q hk hn (fun T locs X fs hr => retOut X C.hx C.rt rfl (Or.inr (Or.inl ⟨rfl, rfl, z, rfl⟩)) (C.hb hd) hr)
theorem retA {ty : FieldType} {v : Value} (C : Cx Z W own nm code maxL (some ty)) (ht : ty.isReference = true) (hv : v.isRef = true) (hd : decode code pc = .ok (.areturn, 1)) (hk : k ≤ R.cells) (hn : n ≤ R.slots) (q : Q (some v) h) : Run l R Z W Q h k n (mkF W.m pc Ls (v :: st)) :=
  Run.leave C (fun hh => nomatch hh) q hk hn (fun T locs X fs hr => retOut X C.hx C.rt (by rcases ref_cases hv with rfl | ⟨a, rfl⟩ <;> cases ty <;> simp [FieldType.isReference] at ht <;> rfl) (Or.inr (Or.inr (Or.inr (Or.inr ⟨rfl, ht, hv⟩)))) (C.hb hd) hr)
end Kit
end Wk

def Ws (a0 : Array Value) (Z : State) : Prop := ∀ d ∈ tables_1, d.before a0 Z = true
theorem Wk.nar_i2c {x v : Int32} (h : x.toUInt32.toUInt16.toUInt32.toInt32 = v) : nar .char v = v := by subst h; simp only [nar, UInt32.toUInt32_toInt32, UInt16.toUInt16_toUInt32]
theorem Wk.nar_i2b {x v : Int32} (h : x.toInt8.toInt32 = v) : nar .byte v = v := by
  subst h
  show x.toInt8.toInt32.toInt8.toInt32 = _
  simp
theorem Wk.catR {v : Value} (h : v.isRef = true) : v.category = 1 := by rcases ref_cases h with rfl | ⟨a, rfl⟩ <;> rfl
theorem Wk.narR {v : Value} {t : FieldType} (h : v.isRef = true) (ht : t.isReference = true) : narrow t v = v := by rcases ref_cases h with rfl | ⟨a, rfl⟩ <;> cases t <;> simp [FieldType.isReference] at ht <;> rfl
theorem Wk.fitR {v : Value} {t : FieldType} (h : v.isRef = true) (ht : t.isReference = true) : fits t v = true := by rcases ref_cases h with rfl | ⟨a, rfl⟩ <;> cases t <;> simp [FieldType.isReference] at ht <;> rfl
theorem Wk.rng255 {p v w : Int32} (h : p &&& 255 = v) (h' : v.toUInt32.toUInt16.toUInt32.toInt32 = w) : ¬ w < 0 ∧ ¬ (255 : Int32) < w := by
  subst h h'
  rw [i2c_mask, Int32.lt_iff_toInt_lt, Int32.lt_iff_toInt_lt, c_mask p 255 8 (by decide) (by decide)]
  have : (0 : Int32).toInt = 0 := by decide
  have : (255 : Int32).toInt = 255 := by decide
  omega
theorem Wk.rng255L {p a : Int64} {b w : Int32} (h : p &&& 255 = a) (h1 : a.toInt32 = b) (h' : b.toUInt32.toUInt16.toUInt32.toInt32 = w) : ¬ w < 0 ∧ ¬ (255 : Int32) < w := by
  subst h h1 h'
  have a1 := c_maskL p 255 8 (by decide) (by decide)
  have a2 := c_l2i (p &&& 255)
  have a3 := c_i2c (p &&& 255).toInt32
  have a4 := rng32 (p &&& 255).toInt32
  have e0 : (0 : Int32).toInt = 0 := by decide
  have e1 : (255 : Int32).toInt = 255 := by decide
  rw [Int32.lt_iff_toInt_lt, Int32.lt_iff_toInt_lt]
  omega
theorem Wk.ord {args : Array Value} {s : State} {t : Term} {a : Addr} {C n : String} {k : Int32} (ht : t.eval args s none [] s = some (.ref a)) (h : (Jvm.Cond.eq (.field t C n "I") (.int k)).value args s none s [] = some true) : Fld s s.heap a C n "I" (.int k) := by
  obtain ⟨x, y, e1, e2, -, kin⟩ := cmp_v (Or.inl h)
  cases (Term.int_eval k).symm.trans e2
  obtain ⟨z, rfl⟩ := kin
  cases gotT (Cond.eq_ints e1 e2) h
  exact Fld.start ((fld_at ht).symm.trans e1)
theorem Wk.ordB {args : Array Value} {s : State} {t : Term} {a : Addr} {C n : String} {k : Int32} (ht : t.eval args s none [] s = some (.ref a)) (h : (Jvm.Cond.eq (.field t C n "B") (.int k)).value args s none s [] = some true) : Fld s s.heap a C n "B" (.int k) := by
  obtain ⟨x, y, e1, e2, -, kin⟩ := cmp_v (Or.inl h)
  cases (Term.int_eval k).symm.trans e2
  obtain ⟨z, rfl⟩ := kin
  cases gotT (Cond.eq_ints e1 e2) h
  exact Fld.start ((fld_at ht).symm.trans e1)
theorem Wk.nar_rng {c : Int32} (h : ¬ c < 0 ∧ ¬ (255 : Int32) < c) : nar .char c = c := by
  show c.toUInt32.toUInt16.toUInt32.toInt32 = c
  have h1 := c_i2c c
  obtain ⟨h2, h3⟩ := h
  rw [Int32.lt_iff_toInt_lt] at h2 h3
  have e0 : (0 : Int32).toInt = 0 := by decide
  have e1 : (255 : Int32).toInt = 255 := by decide
  exact Int32.toInt_inj.mp (by omega)
theorem Wk.mask31 {f v : Int32} (h : f &&& 2147483647 = v) : 0 ≤ v.toInt := by
  subst h
  rw [c_mask f 2147483647 31 (by decide) (by decide)]
  omega
theorem Wk.modr {v d w : Int32} (h0 : 0 ≤ v.toInt) (hd : 0 < d.toInt) (h : v % d = w) : 0 ≤ w.toInt ∧ w.toInt < d.toInt := by
  subst h
  have q := (c_iremV v d).1 h0 hd
  exact ⟨q.1, q.2.1⟩
theorem Wk.addI {x y v : Int32} (h : x + y = v) : (v.toInt - (x.toInt + y.toInt)) % 4294967296 = 0 := h ▸ c_iadd x y
theorem Wk.subI {x y v : Int32} (h : x - y = v) : (v.toInt - (x.toInt - y.toInt)) % 4294967296 = 0 := h ▸ c_isub x y
theorem Wk.mulI {x y v : Int32} (h : x * y = v) : (v.toInt - (x.toInt * y.toInt)) % 4294967296 = 0 := h ▸ c_imul x y
theorem Wk.eqI {x y : Int32} (h : x.toInt = y.toInt) : x = y := Int32.toInt_inj.mp h
theorem Wk.ltI {x y : Int32} : x < y ↔ x.toInt < y.toInt := Int32.lt_iff_toInt_lt
theorem Wk.nn {x : Int32} (h : 0 ≤ x.toInt) : ¬ x < 0 := by
  have e0 : (0 : Int32).toInt = 0 := by decide
  rw [Wk.ltI]; omega
theorem Wk.clamp {x : Int32} (h : 0 ≤ x.toInt) : (x.toNatClampNeg : Int) = x.toInt := (nat_of (Wk.nn h)).symm
theorem Wk.ofNat {x : Int32} (h : 0 ≤ x.toInt) : x = Int32.ofNat x.toNatClampNeg := ((back32 (Wk.nn h)).1).symm
theorem Wk.getd {cs : List Int32} {i : Nat} (h : i < cs.length) : (cs.map Value.int)[i]? = some (.int (cs.getD i 0)) := by simp [List.getD_eq_getElem?_getD, h]
theorem Wk.nat32 {n : Nat} (h : n ≤ 4000) : (Int32.ofNat n).toInt = n ∧ (Int32.ofNat n).toNatClampNeg = n := ⟨Int32.toInt_ofNat_of_lt (by omega), Int32.toNatClampNeg_ofNat_of_lt (by omega)⟩
theorem Wk.succ32 {n : Nat} (h : n < 4000) : Int32.ofNat n + Int32.ofInt 1 = Int32.ofNat (n + 1) := by
  have a := c_iadd (Int32.ofNat n) 1
  have b := rng32 (Int32.ofNat n + 1)
  have c1 : (1 : Int32).toInt = 1 := by decide
  have c2 := (Wk.nat32 (n := n) (by omega)).1
  have c3 := (Wk.nat32 (n := n + 1) (by omega)).1
  exact Wk.eqI (by show (Int32.ofNat n + 1).toInt = _; omega)
theorem Wk.orE {args : Array Value} {s : State} {idx : List Nat} {c d : Cond} (h : (Cond.or c d).value args s none s idx = some true) : c.value args s none s idx = some true ∨ d.value args s none s idx = some true := by
  simp only [Cond.value] at h
  cases h1 : c.value args s none s idx with
  | none => simp [h1] at h
  | some x => cases x <;> simp [h1] at h ⊢ <;> exact h
theorem Wk.elemI {args : Array Value} {s : State} {t u : Term} {a : Addr} {cl : Cell} {ty : FieldType} {i : Nat} {v : Int32} (ht : t.eval args s none [i] s = some (.ref a)) (A : Arr s s.heap a cl ty) (hu : u.eval args s none [i] s = some (.int v)) (hi : i.toInt32.toNatClampNeg = i) (h : (Jvm.Cond.eq (.elem t (.index 0)) u).value args s none s [i] = some true) : cl.slots[i]? = some (.int v) := by
  obtain ⟨x, y, e1, e2, -, kin⟩ := cmp_v (Or.inl h)
  cases hu.symm.trans e2
  obtain ⟨z, rfl⟩ := kin
  cases gotT (Cond.eq_ints e1 e2) h
  have q := (elem_in e1 ht (show (Term.index 0).eval args s none [i] s = some (.int i.toInt32) from rfl) A.1).2
  rwa [hi] at q
theorem Wk.aryT {Z : State} {h : Heap} {a : Addr} {cl : Cell} {ty : FieldType} {f : Nat → Int32} {n : Nat} {z : Int32} (A : Arr Z h a cl ty) (hn : cl.slots.size < 2 ^ 31 ∧ cl.slots.size.toInt32 = z) (hl : z.toNatClampNeg = n) (H : ∀ i, i < n → cl.slots[i]? = some (.int (f i))) (hf : ∀ i, i < n → fits ty (.int (f i)) = true) : Wk.Ary Z h a ty ((List.range n).map fun i => .int (f i)) := by
  have hs : cl.slots.size = n := by
    rw [← hl, ← hn.2]
    exact (Int32.toNatClampNeg_ofNat_of_lt hn.1).symm
  refine ⟨cl, A, ?_, by simpa [hs] using hn.1, ?_⟩
  · apply Array.ext
    · simpa using hs
    · intro i h1 h2
      have q := H i (by omega)
      rw [Array.getElem?_eq_getElem h1] at q
      simpa using q
  · intro v hv
    obtain ⟨i, hi, rfl⟩ := List.mem_map.mp hv
    exact hf i (List.mem_range.mp hi)
theorem Wk.lenS {args : Array Value} {s : State} {t : Term} {a : Addr} {cl : Cell} {ty : FieldType} {n : Int32} (ht : t.eval args s none [] s = some (.ref a)) (A : Arr s s.heap a cl ty) (h : (Jvm.Cond.eq (.length t) (.int n)).value args s none s [] = some true) : cl.slots.size < 2 ^ 31 ∧ cl.slots.size.toInt32 = n := by
  obtain ⟨x, y, e1, e2, -, kin⟩ := cmp_v (Or.inl h)
  cases (Term.int_eval n).symm.trans e2
  obtain ⟨z, rfl⟩ := kin
  have e3 := gotT (Cond.eq_ints e1 e2) h
  have ha : s.arrayAt? a = some cl := A.fin (Vm.Alike.refl _)
  by_cases q : cl.slots.size < 2 ^ 31
  · refine ⟨q, ?_⟩
    have e4 := len_f ht ha q
    rw [e4] at e1
    cases e1
    exact e3
  · simp [Term.eval, ht, ha, q] at e1
theorem Wk.elemS {args : Array Value} {s : State} {t : Term} {a : Addr} {cl : Cell} {ty : FieldType} {j v : Int32} (ht : t.eval args s none [] s = some (.ref a)) (A : Arr s s.heap a cl ty) (h : (Jvm.Cond.eq (.elem t (.int j)) (.int v)).value args s none s [] = some true) : cl.slots[j.toNatClampNeg]? = some (.int v) := by
  obtain ⟨x, y, e1, e2, -, kin⟩ := cmp_v (Or.inl h)
  cases (Term.int_eval v).symm.trans e2
  obtain ⟨z, rfl⟩ := kin
  cases gotT (Cond.eq_ints e1 e2) h
  exact (elem_in e1 ht (Term.int_eval j) A.1).2
theorem Wk.elemR {args : Array Value} {s : State} {t u : Term} {a b : Addr} {cl : Cell} {ty : FieldType} {j : Int32} (ht : t.eval args s none [] s = some (.ref a)) (hu : u.eval args s none [] s = some (.ref b)) (A : Arr s s.heap a cl ty) (h : (Jvm.Cond.eq (.elem t (.int j)) u).value args s none s [] = some true) : cl.slots[j.toNatClampNeg]? = some (.ref b) := by
  obtain ⟨x, y, e1, e2, -, kin⟩ := cmp_v (Or.inl h)
  cases hu.symm.trans e2
  cases gotT (eq_R e1 e2 kin.2 rfl) h
  exact (elem_in e1 ht (Term.int_eval j) A.1).2
theorem Wk.aryS {Z : State} {h : Heap} {a : Addr} {cl : Cell} {ty : FieldType} {vs : List Value} {n : Int32} (A : Arr Z h a cl ty) (hn : cl.slots.size < 2 ^ 31 ∧ cl.slots.size.toInt32 = n) (hl : n.toNatClampNeg = vs.length) (H : HasL cl 0 vs) (hf : ∀ v ∈ vs, fits ty v = true) : Wk.Ary Z h a ty vs := by
  have hs : cl.slots.size = vs.length := by
    rw [← hl, ← hn.2]
    exact (Int32.toNatClampNeg_ofNat_of_lt hn.1).symm
  refine ⟨cl, A, ?_, by omega, hf⟩
  apply Array.ext
  · simpa using hs
  · intro i h1 h2
    have q := HasL.at (dv := .null) vs 0 H i (by omega)
    rw [Nat.zero_add, Array.getElem?_eq_getElem h1] at q
    have h3 : i < vs.length := by omega
    simpa [List.getD_eq_getElem?_getD, h3] using q
abbrev StN : String := "java/lang/String"
abbrev PcN : String := "jdk/internal/util/Preconditions"
/-- the named sets of the JDK's statics, at the start -/
def Sets (Z : State) : Prop := ∃ (z : Int32) (fm : Value), Sta Z Z.heap StN "COMPACT_STRINGS" "Z" (.int z) ∧ ¬ z = 0 ∧ Sta Z Z.heap PcN "SIOOBE_FORMATTER" "Ljava/util/function/BiFunction;" fm ∧ fm.isRef = true
theorem w0 {a0 : Array Value} {Z : State} (hw : Ws a0 Z) : (Jvm.Cond.stringLink "com/example/scopegate/scopegate/token/VerdictValidPinLaw" (16 : Nat) "").before a0 Z = true := hw _ (List.mem_of_getElem? (i := 0) rfl)
theorem w1 {a0 : Array Value} {Z : State} (hw : Ws a0 Z) : (Jvm.Cond.initialized "java/lang/String").before a0 Z = true := hw _ (List.mem_of_getElem? (i := 1) rfl)
theorem w2 {a0 : Array Value} {Z : State} (hw : Ws a0 Z) : (Jvm.Cond.instantiable "java/lang/String" (4 : Nat)).before a0 Z = true := hw _ (List.mem_of_getElem? (i := 2) rfl)
theorem w3 {a0 : Array Value} {Z : State} (hw : Ws a0 Z) : (Jvm.Cond.arrayClass Jvm.ClassFile.FieldType.byte).before a0 Z = true := hw _ (List.mem_of_getElem? (i := 3) rfl)
theorem w4 {a0 : Array Value} {Z : State} (hw : Ws a0 Z) : (Jvm.Cond.laysFinal "java/lang/String" "java/lang/String" "value" "[B").before a0 Z = true := hw _ (List.mem_of_getElem? (i := 4) rfl)
theorem w5 {a0 : Array Value} {Z : State} (hw : Ws a0 Z) : (Jvm.Cond.laysFinal "java/lang/String" "java/lang/String" "coder" "B").before a0 Z = true := hw _ (List.mem_of_getElem? (i := 5) rfl)
theorem w6 {a0 : Array Value} {Z : State} (hw : Ws a0 Z) : (Jvm.Cond.soleField "java/lang/String" "value").before a0 Z = true := hw _ (List.mem_of_getElem? (i := 6) rfl)
theorem w7 {a0 : Array Value} {Z : State} (hw : Ws a0 Z) : (Jvm.Cond.soleField "java/lang/String" "coder").before a0 Z = true := hw _ (List.mem_of_getElem? (i := 7) rfl)
theorem w8 {a0 : Array Value} {Z : State} (hw : Ws a0 Z) : (Jvm.Cond.methodLink "com/example/scopegate/scopegate/token/VerdictValidPinLaw" (7 : Nat) ({ cls := "java/lang/String", name := "valueOf", desc := "(C)Ljava/lang/String;" } : Jvm.MethodName)).before a0 Z = true := hw _ (List.mem_of_getElem? (i := 8) rfl)
theorem w9 {a0 : Array Value} {Z : State} (hw : Ws a0 Z) : (Jvm.Cond.static ({ cls := "java/lang/String", name := "valueOf", desc := "(C)Ljava/lang/String;" } : Jvm.MethodName)).before a0 Z = true := hw _ (List.mem_of_getElem? (i := 9) rfl)
theorem w10 {a0 : Array Value} {Z : State} (hw : Ws a0 Z) : (Jvm.Cond.code ({ cls := "java/lang/String", name := "valueOf", desc := "(C)Ljava/lang/String;" } : Jvm.MethodName) jdk_42_method_139_code (1 : Nat) (Option.some (Jvm.ClassFile.FieldType.object "java/lang/String"))).before a0 Z = true := hw _ (List.mem_of_getElem? (i := 10) rfl)
theorem w11 {a0 : Array Value} {Z : State} (hw : Ws a0 Z) : (Jvm.Cond.fieldLink "java/lang/String" (38 : Nat) "java/lang/String" "COMPACT_STRINGS" "Z").before a0 Z = true := hw _ (List.mem_of_getElem? (i := 11) rfl)
theorem w12 {a0 : Array Value} {Z : State} (hw : Ws a0 Z) : (Jvm.Cond.methodLink "java/lang/String" (1015 : Nat) ({ cls := "java/lang/StringLatin1", name := "canEncode", desc := "(C)Z" } : Jvm.MethodName)).before a0 Z = true := hw _ (List.mem_of_getElem? (i := 12) rfl)
theorem w13 {a0 : Array Value} {Z : State} (hw : Ws a0 Z) : (Jvm.Cond.static ({ cls := "java/lang/StringLatin1", name := "canEncode", desc := "(C)Z" } : Jvm.MethodName)).before a0 Z = true := hw _ (List.mem_of_getElem? (i := 13) rfl)
theorem w14 {a0 : Array Value} {Z : State} (hw : Ws a0 Z) : (Jvm.Cond.initialized "java/lang/StringLatin1").before a0 Z = true := hw _ (List.mem_of_getElem? (i := 14) rfl)
theorem w15 {a0 : Array Value} {Z : State} (hw : Ws a0 Z) : (Jvm.Cond.code ({ cls := "java/lang/StringLatin1", name := "canEncode", desc := "(C)Z" } : Jvm.MethodName) jdk_43_method_3_code (1 : Nat) (Option.some Jvm.ClassFile.FieldType.boolean)).before a0 Z = true := hw _ (List.mem_of_getElem? (i := 15) rfl)
theorem w16 {a0 : Array Value} {Z : State} (hw : Ws a0 Z) : (Jvm.Cond.classLink "java/lang/String" (10 : Nat) "java/lang/String").before a0 Z = true := hw _ (List.mem_of_getElem? (i := 16) rfl)
theorem w17 {a0 : Array Value} {Z : State} (hw : Ws a0 Z) : (Jvm.Cond.methodLink "java/lang/String" (1018 : Nat) ({ cls := "java/lang/StringLatin1", name := "toBytes", desc := "(C)[B" } : Jvm.MethodName)).before a0 Z = true := hw _ (List.mem_of_getElem? (i := 17) rfl)
theorem w18 {a0 : Array Value} {Z : State} (hw : Ws a0 Z) : (Jvm.Cond.static ({ cls := "java/lang/StringLatin1", name := "toBytes", desc := "(C)[B" } : Jvm.MethodName)).before a0 Z = true := hw _ (List.mem_of_getElem? (i := 18) rfl)
theorem w19 {a0 : Array Value} {Z : State} (hw : Ws a0 Z) : (Jvm.Cond.code ({ cls := "java/lang/StringLatin1", name := "toBytes", desc := "(C)[B" } : Jvm.MethodName) jdk_43_method_46_code (1 : Nat) (Option.some (Jvm.ClassFile.FieldType.array Jvm.ClassFile.FieldType.byte))).before a0 Z = true := hw _ (List.mem_of_getElem? (i := 19) rfl)
theorem w20 {a0 : Array Value} {Z : State} (hw : Ws a0 Z) : (Jvm.Cond.methodLink "java/lang/String" (209 : Nat) ({ cls := "java/lang/String", name := "<init>", desc := "([BB)V" } : Jvm.MethodName)).before a0 Z = true := hw _ (List.mem_of_getElem? (i := 20) rfl)
theorem w21 {a0 : Array Value} {Z : State} (hw : Ws a0 Z) : (Jvm.Cond.instanceMethod ({ cls := "java/lang/String", name := "<init>", desc := "([BB)V" } : Jvm.MethodName)).before a0 Z = true := hw _ (List.mem_of_getElem? (i := 21) rfl)
theorem w23 {a0 : Array Value} {Z : State} (hw : Ws a0 Z) : (Jvm.Cond.code ({ cls := "java/lang/String", name := "<init>", desc := "([BB)V" } : Jvm.MethodName) jdk_42_method_151_code (3 : Nat) (Option.none : Option Jvm.ClassFile.FieldType)).before a0 Z = true := hw _ (List.mem_of_getElem? (i := 23) rfl)
theorem w24 {a0 : Array Value} {Z : State} (hw : Ws a0 Z) : (Jvm.Cond.methodLink "java/lang/String" (1 : Nat) ({ cls := "java/lang/Object", name := "<init>", desc := "()V" } : Jvm.MethodName)).before a0 Z = true := hw _ (List.mem_of_getElem? (i := 24) rfl)
theorem w25 {a0 : Array Value} {Z : State} (hw : Ws a0 Z) : (Jvm.Cond.instanceMethod ({ cls := "java/lang/Object", name := "<init>", desc := "()V" } : Jvm.MethodName)).before a0 Z = true := hw _ (List.mem_of_getElem? (i := 25) rfl)
theorem w26 {a0 : Array Value} {Z : State} (hw : Ws a0 Z) : (Jvm.Cond.code ({ cls := "java/lang/Object", name := "<init>", desc := "()V" } : Jvm.MethodName) object_method_1_code (1 : Nat) (Option.none : Option Jvm.ClassFile.FieldType)).before a0 Z = true := hw _ (List.mem_of_getElem? (i := 26) rfl)
theorem w27 {a0 : Array Value} {Z : State} (hw : Ws a0 Z) : (Jvm.Cond.fieldLink "java/lang/String" (9 : Nat) "java/lang/String" "value" "[B").before a0 Z = true := hw _ (List.mem_of_getElem? (i := 27) rfl)
theorem w28 {a0 : Array Value} {Z : State} (hw : Ws a0 Z) : (Jvm.Cond.fieldLink "java/lang/String" (15 : Nat) "java/lang/String" "coder" "B").before a0 Z = true := hw _ (List.mem_of_getElem? (i := 28) rfl)
theorem w29 {a0 : Array Value} {Z : State} (hw : Ws a0 Z) : (Jvm.Cond.classLink "com/example/scopegate/scopegate/token/VerdictValidPinLaw" (18 : Nat) "java/util/ArrayList").before a0 Z = true := hw _ (List.mem_of_getElem? (i := 29) rfl)
theorem w30 {a0 : Array Value} {Z : State} (hw : Ws a0 Z) : (Jvm.Cond.instantiable "java/util/ArrayList" (3 : Nat)).before a0 Z = true := hw _ (List.mem_of_getElem? (i := 30) rfl)
theorem w31 {a0 : Array Value} {Z : State} (hw : Ws a0 Z) : (Jvm.Cond.initialized "java/util/ArrayList").before a0 Z = true := hw _ (List.mem_of_getElem? (i := 31) rfl)
theorem w32 {a0 : Array Value} {Z : State} (hw : Ws a0 Z) : (Jvm.Cond.methodLink "com/example/scopegate/scopegate/token/VerdictValidPinLaw" (20 : Nat) ({ cls := "java/util/ArrayList", name := "<init>", desc := "()V" } : Jvm.MethodName)).before a0 Z = true := hw _ (List.mem_of_getElem? (i := 32) rfl)
theorem w33 {a0 : Array Value} {Z : State} (hw : Ws a0 Z) : (Jvm.Cond.instanceMethod ({ cls := "java/util/ArrayList", name := "<init>", desc := "()V" } : Jvm.MethodName)).before a0 Z = true := hw _ (List.mem_of_getElem? (i := 33) rfl)
theorem w34 {a0 : Array Value} {Z : State} (hw : Ws a0 Z) : (Jvm.Cond.code ({ cls := "java/util/ArrayList", name := "<init>", desc := "()V" } : Jvm.MethodName) jdk_38_method_2_code (1 : Nat) (Option.none : Option Jvm.ClassFile.FieldType)).before a0 Z = true := hw _ (List.mem_of_getElem? (i := 34) rfl)
theorem w35 {a0 : Array Value} {Z : State} (hw : Ws a0 Z) : (Jvm.Cond.methodLink "java/util/ArrayList" (1 : Nat) ({ cls := "java/util/AbstractList", name := "<init>", desc := "()V" } : Jvm.MethodName)).before a0 Z = true := hw _ (List.mem_of_getElem? (i := 35) rfl)
theorem w36 {a0 : Array Value} {Z : State} (hw : Ws a0 Z) : (Jvm.Cond.instanceMethod ({ cls := "java/util/AbstractList", name := "<init>", desc := "()V" } : Jvm.MethodName)).before a0 Z = true := hw _ (List.mem_of_getElem? (i := 36) rfl)
theorem w39 {a0 : Array Value} {Z : State} (hw : Ws a0 Z) : (Jvm.Cond.initialized "java/util/AbstractList").before a0 Z = true := hw _ (List.mem_of_getElem? (i := 39) rfl)
theorem w40 {a0 : Array Value} {Z : State} (hw : Ws a0 Z) : (Jvm.Cond.code ({ cls := "java/util/AbstractList", name := "<init>", desc := "()V" } : Jvm.MethodName) jdk_39_method_1_code (1 : Nat) (Option.none : Option Jvm.ClassFile.FieldType)).before a0 Z = true := hw _ (List.mem_of_getElem? (i := 40) rfl)
theorem w41 {a0 : Array Value} {Z : State} (hw : Ws a0 Z) : (Jvm.Cond.methodLink "java/util/AbstractList" (1 : Nat) ({ cls := "java/util/AbstractCollection", name := "<init>", desc := "()V" } : Jvm.MethodName)).before a0 Z = true := hw _ (List.mem_of_getElem? (i := 41) rfl)
theorem w42 {a0 : Array Value} {Z : State} (hw : Ws a0 Z) : (Jvm.Cond.instanceMethod ({ cls := "java/util/AbstractCollection", name := "<init>", desc := "()V" } : Jvm.MethodName)).before a0 Z = true := hw _ (List.mem_of_getElem? (i := 42) rfl)
theorem w45 {a0 : Array Value} {Z : State} (hw : Ws a0 Z) : (Jvm.Cond.initialized "java/util/AbstractCollection").before a0 Z = true := hw _ (List.mem_of_getElem? (i := 45) rfl)
theorem w46 {a0 : Array Value} {Z : State} (hw : Ws a0 Z) : (Jvm.Cond.code ({ cls := "java/util/AbstractCollection", name := "<init>", desc := "()V" } : Jvm.MethodName) jdk_22_method_1_code (1 : Nat) (Option.none : Option Jvm.ClassFile.FieldType)).before a0 Z = true := hw _ (List.mem_of_getElem? (i := 46) rfl)
theorem w47 {a0 : Array Value} {Z : State} (hw : Ws a0 Z) : (Jvm.Cond.methodLink "java/util/AbstractCollection" (1 : Nat) ({ cls := "java/lang/Object", name := "<init>", desc := "()V" } : Jvm.MethodName)).before a0 Z = true := hw _ (List.mem_of_getElem? (i := 47) rfl)
theorem w48 {a0 : Array Value} {Z : State} (hw : Ws a0 Z) : (Jvm.Cond.fieldLink "java/util/AbstractList" (7 : Nat) "java/util/AbstractList" "modCount" "I").before a0 Z = true := hw _ (List.mem_of_getElem? (i := 48) rfl)
theorem w49 {a0 : Array Value} {Z : State} (hw : Ws a0 Z) : (Jvm.Cond.lays "java/util/ArrayList" "java/util/AbstractList" "modCount" "I").before a0 Z = true := hw _ (List.mem_of_getElem? (i := 49) rfl)
theorem w50 {a0 : Array Value} {Z : State} (hw : Ws a0 Z) : (Jvm.Cond.fieldLink "java/util/ArrayList" (39 : Nat) "java/util/ArrayList" "DEFAULTCAPACITY_EMPTY_ELEMENTDATA" "[Ljava/lang/Object;").before a0 Z = true := hw _ (List.mem_of_getElem? (i := 50) rfl)
theorem w51 {a0 : Array Value} {Z : State} (hw : Ws a0 Z) : (Jvm.Cond.fieldLink "java/util/ArrayList" (9 : Nat) "java/util/ArrayList" "elementData" "[Ljava/lang/Object;").before a0 Z = true := hw _ (List.mem_of_getElem? (i := 51) rfl)
theorem w52 {a0 : Array Value} {Z : State} (hw : Ws a0 Z) : (Jvm.Cond.lays "java/util/ArrayList" "java/util/ArrayList" "elementData" "[Ljava/lang/Object;").before a0 Z = true := hw _ (List.mem_of_getElem? (i := 52) rfl)
theorem w53 {a0 : Array Value} {Z : State} (hw : Ws a0 Z) : (Jvm.Cond.methodLink "com/example/scopegate/scopegate/token/VerdictValidPinLaw" (21 : Nat) ({ cls := "java/util/ArrayList", name := "add", desc := "(Ljava/lang/Object;)Z" } : Jvm.MethodName)).before a0 Z = true := hw _ (List.mem_of_getElem? (i := 53) rfl)
theorem w54 {a0 : Array Value} {Z : State} (hw : Ws a0 Z) : (Jvm.Cond.declares ({ cls := "java/util/ArrayList", name := "add", desc := "(Ljava/lang/Object;)Z" } : Jvm.MethodName)).before a0 Z = true := hw _ (List.mem_of_getElem? (i := 54) rfl)
theorem w55 {a0 : Array Value} {Z : State} (hw : Ws a0 Z) : (Jvm.Cond.instanceMethod ({ cls := "java/util/ArrayList", name := "add", desc := "(Ljava/lang/Object;)Z" } : Jvm.MethodName)).before a0 Z = true := hw _ (List.mem_of_getElem? (i := 55) rfl)
theorem w56 {a0 : Array Value} {Z : State} (hw : Ws a0 Z) : (Jvm.Cond.selects "java/util/ArrayList" ({ cls := "java/util/ArrayList", name := "add", desc := "(Ljava/lang/Object;)Z" } : Jvm.MethodName) ({ cls := "java/util/ArrayList", name := "add", desc := "(Ljava/lang/Object;)Z" } : Jvm.MethodName)).before a0 Z = true := hw _ (List.mem_of_getElem? (i := 56) rfl)
theorem w57 {a0 : Array Value} {Z : State} (hw : Ws a0 Z) : (Jvm.Cond.code ({ cls := "java/util/ArrayList", name := "add", desc := "(Ljava/lang/Object;)Z" } : Jvm.MethodName) jdk_38_method_25_code (2 : Nat) (Option.some Jvm.ClassFile.FieldType.boolean)).before a0 Z = true := hw _ (List.mem_of_getElem? (i := 57) rfl)
theorem w58 {a0 : Array Value} {Z : State} (hw : Ws a0 Z) : (Jvm.Cond.fieldLink "java/util/ArrayList" (63 : Nat) "java/util/ArrayList" "modCount" "I").before a0 Z = true := hw _ (List.mem_of_getElem? (i := 58) rfl)
theorem w59 {a0 : Array Value} {Z : State} (hw : Ws a0 Z) : (Jvm.Cond.sameField "java/util/ArrayList" "java/util/AbstractList" "modCount" "I").before a0 Z = true := hw _ (List.mem_of_getElem? (i := 59) rfl)
theorem w60 {a0 : Array Value} {Z : State} (hw : Ws a0 Z) : (Jvm.Cond.fieldLink "java/util/ArrayList" (48 : Nat) "java/util/ArrayList" "size" "I").before a0 Z = true := hw _ (List.mem_of_getElem? (i := 60) rfl)
theorem w61 {a0 : Array Value} {Z : State} (hw : Ws a0 Z) : (Jvm.Cond.lays "java/util/ArrayList" "java/util/ArrayList" "size" "I").before a0 Z = true := hw _ (List.mem_of_getElem? (i := 61) rfl)
theorem w62 {a0 : Array Value} {Z : State} (hw : Ws a0 Z) : (Jvm.Cond.methodLink "java/util/ArrayList" (131 : Nat) ({ cls := "java/util/ArrayList", name := "add", desc := "(Ljava/lang/Object;[Ljava/lang/Object;I)V" } : Jvm.MethodName)).before a0 Z = true := hw _ (List.mem_of_getElem? (i := 62) rfl)
theorem w63 {a0 : Array Value} {Z : State} (hw : Ws a0 Z) : (Jvm.Cond.instanceMethod ({ cls := "java/util/ArrayList", name := "add", desc := "(Ljava/lang/Object;[Ljava/lang/Object;I)V" } : Jvm.MethodName)).before a0 Z = true := hw _ (List.mem_of_getElem? (i := 63) rfl)
theorem w65 {a0 : Array Value} {Z : State} (hw : Ws a0 Z) : (Jvm.Cond.selects "java/util/ArrayList" ({ cls := "java/util/ArrayList", name := "add", desc := "(Ljava/lang/Object;[Ljava/lang/Object;I)V" } : Jvm.MethodName) ({ cls := "java/util/ArrayList", name := "add", desc := "(Ljava/lang/Object;[Ljava/lang/Object;I)V" } : Jvm.MethodName)).before a0 Z = true := hw _ (List.mem_of_getElem? (i := 65) rfl)
theorem w66 {a0 : Array Value} {Z : State} (hw : Ws a0 Z) : (Jvm.Cond.code ({ cls := "java/util/ArrayList", name := "add", desc := "(Ljava/lang/Object;[Ljava/lang/Object;I)V" } : Jvm.MethodName) jdk_38_method_24_code (4 : Nat) (Option.none : Option Jvm.ClassFile.FieldType)).before a0 Z = true := hw _ (List.mem_of_getElem? (i := 66) rfl)
theorem w67 {a0 : Array Value} {Z : State} (hw : Ws a0 Z) : (Jvm.Cond.methodLink "java/util/ArrayList" (129 : Nat) ({ cls := "java/util/ArrayList", name := "grow", desc := "()[Ljava/lang/Object;" } : Jvm.MethodName)).before a0 Z = true := hw _ (List.mem_of_getElem? (i := 67) rfl)
theorem w68 {a0 : Array Value} {Z : State} (hw : Ws a0 Z) : (Jvm.Cond.instanceMethod ({ cls := "java/util/ArrayList", name := "grow", desc := "()[Ljava/lang/Object;" } : Jvm.MethodName)).before a0 Z = true := hw _ (List.mem_of_getElem? (i := 68) rfl)
theorem w70 {a0 : Array Value} {Z : State} (hw : Ws a0 Z) : (Jvm.Cond.selects "java/util/ArrayList" ({ cls := "java/util/ArrayList", name := "grow", desc := "()[Ljava/lang/Object;" } : Jvm.MethodName) ({ cls := "java/util/ArrayList", name := "grow", desc := "()[Ljava/lang/Object;" } : Jvm.MethodName)).before a0 Z = true := hw _ (List.mem_of_getElem? (i := 70) rfl)
theorem w71 {a0 : Array Value} {Z : State} (hw : Ws a0 Z) : (Jvm.Cond.code ({ cls := "java/util/ArrayList", name := "grow", desc := "()[Ljava/lang/Object;" } : Jvm.MethodName) jdk_38_method_7_code (1 : Nat) (Option.some (Jvm.ClassFile.FieldType.array (Jvm.ClassFile.FieldType.object "java/lang/Object")))).before a0 Z = true := hw _ (List.mem_of_getElem? (i := 71) rfl)
theorem w72 {a0 : Array Value} {Z : State} (hw : Ws a0 Z) : (Jvm.Cond.methodLink "java/util/ArrayList" (69 : Nat) ({ cls := "java/util/ArrayList", name := "grow", desc := "(I)[Ljava/lang/Object;" } : Jvm.MethodName)).before a0 Z = true := hw _ (List.mem_of_getElem? (i := 72) rfl)
theorem w73 {a0 : Array Value} {Z : State} (hw : Ws a0 Z) : (Jvm.Cond.instanceMethod ({ cls := "java/util/ArrayList", name := "grow", desc := "(I)[Ljava/lang/Object;" } : Jvm.MethodName)).before a0 Z = true := hw _ (List.mem_of_getElem? (i := 73) rfl)
theorem w75 {a0 : Array Value} {Z : State} (hw : Ws a0 Z) : (Jvm.Cond.selects "java/util/ArrayList" ({ cls := "java/util/ArrayList", name := "grow", desc := "(I)[Ljava/lang/Object;" } : Jvm.MethodName) ({ cls := "java/util/ArrayList", name := "grow", desc := "(I)[Ljava/lang/Object;" } : Jvm.MethodName)).before a0 Z = true := hw _ (List.mem_of_getElem? (i := 75) rfl)
theorem w76 {a0 : Array Value} {Z : State} (hw : Ws a0 Z) : (Jvm.Cond.code ({ cls := "java/util/ArrayList", name := "grow", desc := "(I)[Ljava/lang/Object;" } : Jvm.MethodName) jdk_38_method_6_code (4 : Nat) (Option.some (Jvm.ClassFile.FieldType.array (Jvm.ClassFile.FieldType.object "java/lang/Object")))).before a0 Z = true := hw _ (List.mem_of_getElem? (i := 76) rfl)
theorem w77 {a0 : Array Value} {Z : State} (hw : Ws a0 Z) : (Jvm.Cond.methodLink "java/util/ArrayList" (79 : Nat) ({ cls := "java/lang/Math", name := "max", desc := "(II)I" } : Jvm.MethodName)).before a0 Z = true := hw _ (List.mem_of_getElem? (i := 77) rfl)
theorem w78 {a0 : Array Value} {Z : State} (hw : Ws a0 Z) : (Jvm.Cond.static ({ cls := "java/lang/Math", name := "max", desc := "(II)I" } : Jvm.MethodName)).before a0 Z = true := hw _ (List.mem_of_getElem? (i := 78) rfl)
theorem w79 {a0 : Array Value} {Z : State} (hw : Ws a0 Z) : (Jvm.Cond.initialized "java/lang/Math").before a0 Z = true := hw _ (List.mem_of_getElem? (i := 79) rfl)
theorem w80 {a0 : Array Value} {Z : State} (hw : Ws a0 Z) : (Jvm.Cond.code ({ cls := "java/lang/Math", name := "max", desc := "(II)I" } : Jvm.MethodName) jdk_29_method_65_code (2 : Nat) (Option.some Jvm.ClassFile.FieldType.int)).before a0 Z = true := hw _ (List.mem_of_getElem? (i := 80) rfl)
theorem w81 {a0 : Array Value} {Z : State} (hw : Ws a0 Z) : (Jvm.Cond.classLink "java/util/ArrayList" (7 : Nat) "java/lang/Object").before a0 Z = true := hw _ (List.mem_of_getElem? (i := 81) rfl)
theorem w82 {a0 : Array Value} {Z : State} (hw : Ws a0 Z) : (Jvm.Cond.arrayOver (Jvm.ClassFile.FieldType.object "java/lang/Object")).before a0 Z = true := hw _ (List.mem_of_getElem? (i := 82) rfl)
theorem w83 {a0 : Array Value} {Z : State} (hw : Ws a0 Z) : (Jvm.Cond.castable "java/lang/String" "java/lang/Object").before a0 Z = true := hw _ (List.mem_of_getElem? (i := 83) rfl)
theorem w84 {a0 : Array Value} {Z : State} (hw : Ws a0 Z) : (Jvm.Cond.classLink "com/example/scopegate/scopegate/token/VerdictValidPinLaw" (25 : Nat) "com/example/scopegate/scopegate/token/AccessToken").before a0 Z = true := hw _ (List.mem_of_getElem? (i := 84) rfl)
theorem w85 {a0 : Array Value} {Z : State} (hw : Ws a0 Z) : (Jvm.Cond.instantiable "com/example/scopegate/scopegate/token/AccessToken" (9 : Nat)).before a0 Z = true := hw _ (List.mem_of_getElem? (i := 85) rfl)
theorem w86 {a0 : Array Value} {Z : State} (hw : Ws a0 Z) : (Jvm.Cond.initialized "com/example/scopegate/scopegate/token/AccessToken").before a0 Z = true := hw _ (List.mem_of_getElem? (i := 86) rfl)
theorem w87 {a0 : Array Value} {Z : State} (hw : Ws a0 Z) : (Jvm.Cond.methodLink "com/example/scopegate/scopegate/token/VerdictValidPinLaw" (27 : Nat) ({ cls := "com/example/scopegate/scopegate/token/AccessToken", name := "<init>", desc := "(Ljava/lang/String;Ljava/lang/String;Ljava/lang/String;Ljava/lang/String;JJLjava/lang/String;Ljava/util/List;Ljava/lang/String;)V" } : Jvm.MethodName)).before a0 Z = true := hw _ (List.mem_of_getElem? (i := 87) rfl)
theorem w88 {a0 : Array Value} {Z : State} (hw : Ws a0 Z) : (Jvm.Cond.instanceMethod ({ cls := "com/example/scopegate/scopegate/token/AccessToken", name := "<init>", desc := "(Ljava/lang/String;Ljava/lang/String;Ljava/lang/String;Ljava/lang/String;JJLjava/lang/String;Ljava/util/List;Ljava/lang/String;)V" } : Jvm.MethodName)).before a0 Z = true := hw _ (List.mem_of_getElem? (i := 88) rfl)
theorem w89 {a0 : Array Value} {Z : State} (hw : Ws a0 Z) : (Jvm.Cond.code ({ cls := "com/example/scopegate/scopegate/token/AccessToken", name := "<init>", desc := "(Ljava/lang/String;Ljava/lang/String;Ljava/lang/String;Ljava/lang/String;JJLjava/lang/String;Ljava/util/List;Ljava/lang/String;)V" } : Jvm.MethodName) prog_13_method_1_code (12 : Nat) (Option.none : Option Jvm.ClassFile.FieldType)).before a0 Z = true := hw _ (List.mem_of_getElem? (i := 89) rfl)
theorem w90 {a0 : Array Value} {Z : State} (hw : Ws a0 Z) : (Jvm.Cond.methodLink "com/example/scopegate/scopegate/token/AccessToken" (3 : Nat) ({ cls := "java/lang/Record", name := "<init>", desc := "()V" } : Jvm.MethodName)).before a0 Z = true := hw _ (List.mem_of_getElem? (i := 90) rfl)
theorem w91 {a0 : Array Value} {Z : State} (hw : Ws a0 Z) : (Jvm.Cond.instanceMethod ({ cls := "java/lang/Record", name := "<init>", desc := "()V" } : Jvm.MethodName)).before a0 Z = true := hw _ (List.mem_of_getElem? (i := 91) rfl)
theorem w93 {a0 : Array Value} {Z : State} (hw : Ws a0 Z) : (Jvm.Cond.initialized "java/lang/Record").before a0 Z = true := hw _ (List.mem_of_getElem? (i := 93) rfl)
theorem w94 {a0 : Array Value} {Z : State} (hw : Ws a0 Z) : (Jvm.Cond.code ({ cls := "java/lang/Record", name := "<init>", desc := "()V" } : Jvm.MethodName) jdk_30_method_1_code (1 : Nat) (Option.none : Option Jvm.ClassFile.FieldType)).before a0 Z = true := hw _ (List.mem_of_getElem? (i := 94) rfl)
theorem w95 {a0 : Array Value} {Z : State} (hw : Ws a0 Z) : (Jvm.Cond.methodLink "java/lang/Record" (1 : Nat) ({ cls := "java/lang/Object", name := "<init>", desc := "()V" } : Jvm.MethodName)).before a0 Z = true := hw _ (List.mem_of_getElem? (i := 95) rfl)
theorem w96 {a0 : Array Value} {Z : State} (hw : Ws a0 Z) : (Jvm.Cond.fieldLink "com/example/scopegate/scopegate/token/AccessToken" (9 : Nat) "com/example/scopegate/scopegate/token/AccessToken" "application" "Ljava/lang/String;").before a0 Z = true := hw _ (List.mem_of_getElem? (i := 96) rfl)
theorem w97 {a0 : Array Value} {Z : State} (hw : Ws a0 Z) : (Jvm.Cond.laysFinal "com/example/scopegate/scopegate/token/AccessToken" "com/example/scopegate/scopegate/token/AccessToken" "application" "Ljava/lang/String;").before a0 Z = true := hw _ (List.mem_of_getElem? (i := 97) rfl)
theorem w98 {a0 : Array Value} {Z : State} (hw : Ws a0 Z) : (Jvm.Cond.fieldLink "com/example/scopegate/scopegate/token/AccessToken" (13 : Nat) "com/example/scopegate/scopegate/token/AccessToken" "user" "Ljava/lang/String;").before a0 Z = true := hw _ (List.mem_of_getElem? (i := 98) rfl)
theorem w99 {a0 : Array Value} {Z : State} (hw : Ws a0 Z) : (Jvm.Cond.laysFinal "com/example/scopegate/scopegate/token/AccessToken" "com/example/scopegate/scopegate/token/AccessToken" "user" "Ljava/lang/String;").before a0 Z = true := hw _ (List.mem_of_getElem? (i := 99) rfl)
theorem w100 {a0 : Array Value} {Z : State} (hw : Ws a0 Z) : (Jvm.Cond.fieldLink "com/example/scopegate/scopegate/token/AccessToken" (16 : Nat) "com/example/scopegate/scopegate/token/AccessToken" "subject" "Ljava/lang/String;").before a0 Z = true := hw _ (List.mem_of_getElem? (i := 100) rfl)
theorem w101 {a0 : Array Value} {Z : State} (hw : Ws a0 Z) : (Jvm.Cond.laysFinal "com/example/scopegate/scopegate/token/AccessToken" "com/example/scopegate/scopegate/token/AccessToken" "subject" "Ljava/lang/String;").before a0 Z = true := hw _ (List.mem_of_getElem? (i := 101) rfl)
theorem w102 {a0 : Array Value} {Z : State} (hw : Ws a0 Z) : (Jvm.Cond.fieldLink "com/example/scopegate/scopegate/token/AccessToken" (19 : Nat) "com/example/scopegate/scopegate/token/AccessToken" "scope" "Ljava/lang/String;").before a0 Z = true := hw _ (List.mem_of_getElem? (i := 102) rfl)
theorem w103 {a0 : Array Value} {Z : State} (hw : Ws a0 Z) : (Jvm.Cond.laysFinal "com/example/scopegate/scopegate/token/AccessToken" "com/example/scopegate/scopegate/token/AccessToken" "scope" "Ljava/lang/String;").before a0 Z = true := hw _ (List.mem_of_getElem? (i := 103) rfl)
theorem w104 {a0 : Array Value} {Z : State} (hw : Ws a0 Z) : (Jvm.Cond.fieldLink "com/example/scopegate/scopegate/token/AccessToken" (22 : Nat) "com/example/scopegate/scopegate/token/AccessToken" "issued" "J").before a0 Z = true := hw _ (List.mem_of_getElem? (i := 104) rfl)
theorem w105 {a0 : Array Value} {Z : State} (hw : Ws a0 Z) : (Jvm.Cond.laysFinal "com/example/scopegate/scopegate/token/AccessToken" "com/example/scopegate/scopegate/token/AccessToken" "issued" "J").before a0 Z = true := hw _ (List.mem_of_getElem? (i := 105) rfl)
theorem w106 {a0 : Array Value} {Z : State} (hw : Ws a0 Z) : (Jvm.Cond.fieldLink "com/example/scopegate/scopegate/token/AccessToken" (26 : Nat) "com/example/scopegate/scopegate/token/AccessToken" "expires" "J").before a0 Z = true := hw _ (List.mem_of_getElem? (i := 106) rfl)
theorem w107 {a0 : Array Value} {Z : State} (hw : Ws a0 Z) : (Jvm.Cond.laysFinal "com/example/scopegate/scopegate/token/AccessToken" "com/example/scopegate/scopegate/token/AccessToken" "expires" "J").before a0 Z = true := hw _ (List.mem_of_getElem? (i := 107) rfl)
theorem w108 {a0 : Array Value} {Z : State} (hw : Ws a0 Z) : (Jvm.Cond.fieldLink "com/example/scopegate/scopegate/token/AccessToken" (29 : Nat) "com/example/scopegate/scopegate/token/AccessToken" "issuer" "Ljava/lang/String;").before a0 Z = true := hw _ (List.mem_of_getElem? (i := 108) rfl)
theorem w109 {a0 : Array Value} {Z : State} (hw : Ws a0 Z) : (Jvm.Cond.laysFinal "com/example/scopegate/scopegate/token/AccessToken" "com/example/scopegate/scopegate/token/AccessToken" "issuer" "Ljava/lang/String;").before a0 Z = true := hw _ (List.mem_of_getElem? (i := 109) rfl)
theorem w110 {a0 : Array Value} {Z : State} (hw : Ws a0 Z) : (Jvm.Cond.fieldLink "com/example/scopegate/scopegate/token/AccessToken" (32 : Nat) "com/example/scopegate/scopegate/token/AccessToken" "audience" "Ljava/util/List;").before a0 Z = true := hw _ (List.mem_of_getElem? (i := 110) rfl)
theorem w111 {a0 : Array Value} {Z : State} (hw : Ws a0 Z) : (Jvm.Cond.laysFinal "com/example/scopegate/scopegate/token/AccessToken" "com/example/scopegate/scopegate/token/AccessToken" "audience" "Ljava/util/List;").before a0 Z = true := hw _ (List.mem_of_getElem? (i := 111) rfl)
theorem w112 {a0 : Array Value} {Z : State} (hw : Ws a0 Z) : (Jvm.Cond.fieldLink "com/example/scopegate/scopegate/token/AccessToken" (36 : Nat) "com/example/scopegate/scopegate/token/AccessToken" "id" "Ljava/lang/String;").before a0 Z = true := hw _ (List.mem_of_getElem? (i := 112) rfl)
theorem w113 {a0 : Array Value} {Z : State} (hw : Ws a0 Z) : (Jvm.Cond.laysFinal "com/example/scopegate/scopegate/token/AccessToken" "com/example/scopegate/scopegate/token/AccessToken" "id" "Ljava/lang/String;").before a0 Z = true := hw _ (List.mem_of_getElem? (i := 113) rfl)
theorem w114 {a0 : Array Value} {Z : State} (hw : Ws a0 Z) : (Jvm.Cond.methodLink "com/example/scopegate/scopegate/token/VerdictValidPinLaw" (30 : Nat) ({ cls := "com/example/scopegate/scopegate/token/Verdict", name := "valid", desc := "(Lcom/example/scopegate/scopegate/token/AccessToken;Ljava/lang/String;)Lcom/example/scopegate/scopegate/token/Verdict;" } : Jvm.MethodName)).before a0 Z = true := hw _ (List.mem_of_getElem? (i := 114) rfl)
theorem w115 {a0 : Array Value} {Z : State} (hw : Ws a0 Z) : (Jvm.Cond.static ({ cls := "com/example/scopegate/scopegate/token/Verdict", name := "valid", desc := "(Lcom/example/scopegate/scopegate/token/AccessToken;Ljava/lang/String;)Lcom/example/scopegate/scopegate/token/Verdict;" } : Jvm.MethodName)).before a0 Z = true := hw _ (List.mem_of_getElem? (i := 115) rfl)
theorem w116 {a0 : Array Value} {Z : State} (hw : Ws a0 Z) : (Jvm.Cond.initialized "com/example/scopegate/scopegate/token/Verdict").before a0 Z = true := hw _ (List.mem_of_getElem? (i := 116) rfl)
theorem w117 {a0 : Array Value} {Z : State} (hw : Ws a0 Z) : (Jvm.Cond.code ({ cls := "com/example/scopegate/scopegate/token/Verdict", name := "valid", desc := "(Lcom/example/scopegate/scopegate/token/AccessToken;Ljava/lang/String;)Lcom/example/scopegate/scopegate/token/Verdict;" } : Jvm.MethodName) prog_19_method_2_code (2 : Nat) (Option.some (Jvm.ClassFile.FieldType.object "com/example/scopegate/scopegate/token/Verdict"))).before a0 Z = true := hw _ (List.mem_of_getElem? (i := 117) rfl)
theorem w118 {a0 : Array Value} {Z : State} (hw : Ws a0 Z) : (Jvm.Cond.classLink "com/example/scopegate/scopegate/token/Verdict" (8 : Nat) "com/example/scopegate/scopegate/token/Verdict").before a0 Z = true := hw _ (List.mem_of_getElem? (i := 118) rfl)
theorem w119 {a0 : Array Value} {Z : State} (hw : Ws a0 Z) : (Jvm.Cond.instantiable "com/example/scopegate/scopegate/token/Verdict" (3 : Nat)).before a0 Z = true := hw _ (List.mem_of_getElem? (i := 119) rfl)
theorem w120 {a0 : Array Value} {Z : State} (hw : Ws a0 Z) : (Jvm.Cond.fieldLink "com/example/scopegate/scopegate/token/Verdict" (21 : Nat) "com/example/scopegate/scopegate/token/Verdict$Outcome" "VALID" "Lcom/example/scopegate/scopegate/token/Verdict$Outcome;").before a0 Z = true := hw _ (List.mem_of_getElem? (i := 120) rfl)
theorem w121 {a0 : Array Value} {Z : State} (hw : Ws a0 Z) : (Jvm.Cond.initialized "com/example/scopegate/scopegate/token/Verdict$Outcome").before a0 Z = true := hw _ (List.mem_of_getElem? (i := 121) rfl)
theorem w122 {a0 : Array Value} {Z : State} (hw : Ws a0 Z) : (Jvm.Cond.laysStatic "com/example/scopegate/scopegate/token/Verdict$Outcome" "VALID" "Lcom/example/scopegate/scopegate/token/Verdict$Outcome;").before a0 Z = true := hw _ (List.mem_of_getElem? (i := 122) rfl)
theorem w123 {a0 : Array Value} {Z : State} (hw : Ws a0 Z) : (Jvm.Cond.methodLink "com/example/scopegate/scopegate/token/Verdict" (26 : Nat) ({ cls := "com/example/scopegate/scopegate/token/Verdict", name := "<init>", desc := "(Lcom/example/scopegate/scopegate/token/Verdict$Outcome;Lcom/example/scopegate/scopegate/token/AccessToken;Ljava/lang/String;)V" } : Jvm.MethodName)).before a0 Z = true := hw _ (List.mem_of_getElem? (i := 123) rfl)
theorem w124 {a0 : Array Value} {Z : State} (hw : Ws a0 Z) : (Jvm.Cond.instanceMethod ({ cls := "com/example/scopegate/scopegate/token/Verdict", name := "<init>", desc := "(Lcom/example/scopegate/scopegate/token/Verdict$Outcome;Lcom/example/scopegate/scopegate/token/AccessToken;Ljava/lang/String;)V" } : Jvm.MethodName)).before a0 Z = true := hw _ (List.mem_of_getElem? (i := 124) rfl)
theorem w125 {a0 : Array Value} {Z : State} (hw : Ws a0 Z) : (Jvm.Cond.code ({ cls := "com/example/scopegate/scopegate/token/Verdict", name := "<init>", desc := "(Lcom/example/scopegate/scopegate/token/Verdict$Outcome;Lcom/example/scopegate/scopegate/token/AccessToken;Ljava/lang/String;)V" } : Jvm.MethodName) prog_19_method_1_code (4 : Nat) (Option.none : Option Jvm.ClassFile.FieldType)).before a0 Z = true := hw _ (List.mem_of_getElem? (i := 125) rfl)
theorem w126 {a0 : Array Value} {Z : State} (hw : Ws a0 Z) : (Jvm.Cond.methodLink "com/example/scopegate/scopegate/token/Verdict" (1 : Nat) ({ cls := "java/lang/Record", name := "<init>", desc := "()V" } : Jvm.MethodName)).before a0 Z = true := hw _ (List.mem_of_getElem? (i := 126) rfl)
theorem w127 {a0 : Array Value} {Z : State} (hw : Ws a0 Z) : (Jvm.Cond.fieldLink "com/example/scopegate/scopegate/token/Verdict" (7 : Nat) "com/example/scopegate/scopegate/token/Verdict" "outcome" "Lcom/example/scopegate/scopegate/token/Verdict$Outcome;").before a0 Z = true := hw _ (List.mem_of_getElem? (i := 127) rfl)
theorem w128 {a0 : Array Value} {Z : State} (hw : Ws a0 Z) : (Jvm.Cond.laysFinal "com/example/scopegate/scopegate/token/Verdict" "com/example/scopegate/scopegate/token/Verdict" "outcome" "Lcom/example/scopegate/scopegate/token/Verdict$Outcome;").before a0 Z = true := hw _ (List.mem_of_getElem? (i := 128) rfl)
theorem w129 {a0 : Array Value} {Z : State} (hw : Ws a0 Z) : (Jvm.Cond.fieldLink "com/example/scopegate/scopegate/token/Verdict" (13 : Nat) "com/example/scopegate/scopegate/token/Verdict" "token" "Lcom/example/scopegate/scopegate/token/AccessToken;").before a0 Z = true := hw _ (List.mem_of_getElem? (i := 129) rfl)
theorem w130 {a0 : Array Value} {Z : State} (hw : Ws a0 Z) : (Jvm.Cond.laysFinal "com/example/scopegate/scopegate/token/Verdict" "com/example/scopegate/scopegate/token/Verdict" "token" "Lcom/example/scopegate/scopegate/token/AccessToken;").before a0 Z = true := hw _ (List.mem_of_getElem? (i := 130) rfl)
theorem w131 {a0 : Array Value} {Z : State} (hw : Ws a0 Z) : (Jvm.Cond.fieldLink "com/example/scopegate/scopegate/token/Verdict" (17 : Nat) "com/example/scopegate/scopegate/token/Verdict" "requiredScope" "Ljava/lang/String;").before a0 Z = true := hw _ (List.mem_of_getElem? (i := 131) rfl)
theorem w132 {a0 : Array Value} {Z : State} (hw : Ws a0 Z) : (Jvm.Cond.laysFinal "com/example/scopegate/scopegate/token/Verdict" "com/example/scopegate/scopegate/token/Verdict" "requiredScope" "Ljava/lang/String;").before a0 Z = true := hw _ (List.mem_of_getElem? (i := 132) rfl)
theorem w133 {a0 : Array Value} {Z : State} (hw : Ws a0 Z) : (Jvm.Cond.methodLink "com/example/scopegate/scopegate/token/VerdictValidPinLaw" (36 : Nat) ({ cls := "com/example/scopegate/scopegate/token/Verdict", name := "outcome", desc := "()Lcom/example/scopegate/scopegate/token/Verdict$Outcome;" } : Jvm.MethodName)).before a0 Z = true := hw _ (List.mem_of_getElem? (i := 133) rfl)
theorem w134 {a0 : Array Value} {Z : State} (hw : Ws a0 Z) : (Jvm.Cond.declares ({ cls := "com/example/scopegate/scopegate/token/Verdict", name := "outcome", desc := "()Lcom/example/scopegate/scopegate/token/Verdict$Outcome;" } : Jvm.MethodName)).before a0 Z = true := hw _ (List.mem_of_getElem? (i := 134) rfl)
theorem w135 {a0 : Array Value} {Z : State} (hw : Ws a0 Z) : (Jvm.Cond.instanceMethod ({ cls := "com/example/scopegate/scopegate/token/Verdict", name := "outcome", desc := "()Lcom/example/scopegate/scopegate/token/Verdict$Outcome;" } : Jvm.MethodName)).before a0 Z = true := hw _ (List.mem_of_getElem? (i := 135) rfl)
theorem w136 {a0 : Array Value} {Z : State} (hw : Ws a0 Z) : (Jvm.Cond.selects "com/example/scopegate/scopegate/token/Verdict" ({ cls := "com/example/scopegate/scopegate/token/Verdict", name := "outcome", desc := "()Lcom/example/scopegate/scopegate/token/Verdict$Outcome;" } : Jvm.MethodName) ({ cls := "com/example/scopegate/scopegate/token/Verdict", name := "outcome", desc := "()Lcom/example/scopegate/scopegate/token/Verdict$Outcome;" } : Jvm.MethodName)).before a0 Z = true := hw _ (List.mem_of_getElem? (i := 136) rfl)
theorem w137 {a0 : Array Value} {Z : State} (hw : Ws a0 Z) : (Jvm.Cond.code ({ cls := "com/example/scopegate/scopegate/token/Verdict", name := "outcome", desc := "()Lcom/example/scopegate/scopegate/token/Verdict$Outcome;" } : Jvm.MethodName) prog_19_method_8_code (1 : Nat) (Option.some (Jvm.ClassFile.FieldType.object "com/example/scopegate/scopegate/token/Verdict$Outcome"))).before a0 Z = true := hw _ (List.mem_of_getElem? (i := 137) rfl)
theorem w138 {a0 : Array Value} {Z : State} (hw : Ws a0 Z) : (Jvm.Cond.fieldLink "com/example/scopegate/scopegate/token/VerdictValidPinLaw" (40 : Nat) "com/example/scopegate/scopegate/token/Verdict$Outcome" "VALID" "Lcom/example/scopegate/scopegate/token/Verdict$Outcome;").before a0 Z = true := hw _ (List.mem_of_getElem? (i := 138) rfl)
theorem w139 {a0 : Array Value} {Z : State} (hw : Ws a0 Z) : (Jvm.Cond.methodLink "com/example/scopegate/scopegate/token/VerdictValidPinLaw" (46 : Nat) ({ cls := "com/example/scopegate/scopegate/token/Verdict", name := "token", desc := "()Lcom/example/scopegate/scopegate/token/AccessToken;" } : Jvm.MethodName)).before a0 Z = true := hw _ (List.mem_of_getElem? (i := 139) rfl)
theorem w140 {a0 : Array Value} {Z : State} (hw : Ws a0 Z) : (Jvm.Cond.declares ({ cls := "com/example/scopegate/scopegate/token/Verdict", name := "token", desc := "()Lcom/example/scopegate/scopegate/token/AccessToken;" } : Jvm.MethodName)).before a0 Z = true := hw _ (List.mem_of_getElem? (i := 140) rfl)
theorem w141 {a0 : Array Value} {Z : State} (hw : Ws a0 Z) : (Jvm.Cond.instanceMethod ({ cls := "com/example/scopegate/scopegate/token/Verdict", name := "token", desc := "()Lcom/example/scopegate/scopegate/token/AccessToken;" } : Jvm.MethodName)).before a0 Z = true := hw _ (List.mem_of_getElem? (i := 141) rfl)
theorem w142 {a0 : Array Value} {Z : State} (hw : Ws a0 Z) : (Jvm.Cond.selects "com/example/scopegate/scopegate/token/Verdict" ({ cls := "com/example/scopegate/scopegate/token/Verdict", name := "token", desc := "()Lcom/example/scopegate/scopegate/token/AccessToken;" } : Jvm.MethodName) ({ cls := "com/example/scopegate/scopegate/token/Verdict", name := "token", desc := "()Lcom/example/scopegate/scopegate/token/AccessToken;" } : Jvm.MethodName)).before a0 Z = true := hw _ (List.mem_of_getElem? (i := 142) rfl)
theorem w143 {a0 : Array Value} {Z : State} (hw : Ws a0 Z) : (Jvm.Cond.code ({ cls := "com/example/scopegate/scopegate/token/Verdict", name := "token", desc := "()Lcom/example/scopegate/scopegate/token/AccessToken;" } : Jvm.MethodName) prog_19_method_9_code (1 : Nat) (Option.some (Jvm.ClassFile.FieldType.object "com/example/scopegate/scopegate/token/AccessToken"))).before a0 Z = true := hw _ (List.mem_of_getElem? (i := 143) rfl)
theorem w144 {a0 : Array Value} {Z : State} (hw : Ws a0 Z) : (Jvm.Cond.methodLink "com/example/scopegate/scopegate/token/VerdictValidPinLaw" (50 : Nat) ({ cls := "com/example/scopegate/scopegate/token/Verdict", name := "requiredScope", desc := "()Ljava/lang/String;" } : Jvm.MethodName)).before a0 Z = true := hw _ (List.mem_of_getElem? (i := 144) rfl)
theorem w145 {a0 : Array Value} {Z : State} (hw : Ws a0 Z) : (Jvm.Cond.declares ({ cls := "com/example/scopegate/scopegate/token/Verdict", name := "requiredScope", desc := "()Ljava/lang/String;" } : Jvm.MethodName)).before a0 Z = true := hw _ (List.mem_of_getElem? (i := 145) rfl)
theorem w146 {a0 : Array Value} {Z : State} (hw : Ws a0 Z) : (Jvm.Cond.instanceMethod ({ cls := "com/example/scopegate/scopegate/token/Verdict", name := "requiredScope", desc := "()Ljava/lang/String;" } : Jvm.MethodName)).before a0 Z = true := hw _ (List.mem_of_getElem? (i := 146) rfl)
theorem w147 {a0 : Array Value} {Z : State} (hw : Ws a0 Z) : (Jvm.Cond.selects "com/example/scopegate/scopegate/token/Verdict" ({ cls := "com/example/scopegate/scopegate/token/Verdict", name := "requiredScope", desc := "()Ljava/lang/String;" } : Jvm.MethodName) ({ cls := "com/example/scopegate/scopegate/token/Verdict", name := "requiredScope", desc := "()Ljava/lang/String;" } : Jvm.MethodName)).before a0 Z = true := hw _ (List.mem_of_getElem? (i := 147) rfl)
theorem w148 {a0 : Array Value} {Z : State} (hw : Ws a0 Z) : (Jvm.Cond.code ({ cls := "com/example/scopegate/scopegate/token/Verdict", name := "requiredScope", desc := "()Ljava/lang/String;" } : Jvm.MethodName) prog_19_method_10_code (1 : Nat) (Option.some (Jvm.ClassFile.FieldType.object "java/lang/String"))).before a0 Z = true := hw _ (List.mem_of_getElem? (i := 148) rfl)
theorem w149 {a0 : Array Value} {Z : State} (hw : Ws a0 Z) : (Jvm.Cond.methodLink "com/example/scopegate/scopegate/token/VerdictValidPinLaw" (54 : Nat) ({ cls := "com/example/scopegate/scopegate/token/Verdict", name := "challenge", desc := "()Ljava/lang/String;" } : Jvm.MethodName)).before a0 Z = true := hw _ (List.mem_of_getElem? (i := 149) rfl)
theorem w150 {a0 : Array Value} {Z : State} (hw : Ws a0 Z) : (Jvm.Cond.declares ({ cls := "com/example/scopegate/scopegate/token/Verdict", name := "challenge", desc := "()Ljava/lang/String;" } : Jvm.MethodName)).before a0 Z = true := hw _ (List.mem_of_getElem? (i := 150) rfl)
theorem w151 {a0 : Array Value} {Z : State} (hw : Ws a0 Z) : (Jvm.Cond.instanceMethod ({ cls := "com/example/scopegate/scopegate/token/Verdict", name := "challenge", desc := "()Ljava/lang/String;" } : Jvm.MethodName)).before a0 Z = true := hw _ (List.mem_of_getElem? (i := 151) rfl)
theorem w152 {a0 : Array Value} {Z : State} (hw : Ws a0 Z) : (Jvm.Cond.selects "com/example/scopegate/scopegate/token/Verdict" ({ cls := "com/example/scopegate/scopegate/token/Verdict", name := "challenge", desc := "()Ljava/lang/String;" } : Jvm.MethodName) ({ cls := "com/example/scopegate/scopegate/token/Verdict", name := "challenge", desc := "()Ljava/lang/String;" } : Jvm.MethodName)).before a0 Z = true := hw _ (List.mem_of_getElem? (i := 152) rfl)
theorem w153 {a0 : Array Value} {Z : State} (hw : Ws a0 Z) : (Jvm.Cond.code ({ cls := "com/example/scopegate/scopegate/token/Verdict", name := "challenge", desc := "()Ljava/lang/String;" } : Jvm.MethodName) prog_19_method_4_code (1 : Nat) (Option.some (Jvm.ClassFile.FieldType.object "java/lang/String"))).before a0 Z = true := hw _ (List.mem_of_getElem? (i := 153) rfl)
theorem w154 {a0 : Array Value} {Z : State} (hw : Ws a0 Z) : (Jvm.Cond.methodLink "com/example/scopegate/scopegate/token/VerdictValidPinLaw" (57 : Nat) ({ cls := "com/example/scopegate/scopegate/token/Verdict$Outcome", name := "status", desc := "()I" } : Jvm.MethodName)).before a0 Z = true := hw _ (List.mem_of_getElem? (i := 154) rfl)
theorem w155 {a0 : Array Value} {Z : State} (hw : Ws a0 Z) : (Jvm.Cond.declares ({ cls := "com/example/scopegate/scopegate/token/Verdict$Outcome", name := "status", desc := "()I" } : Jvm.MethodName)).before a0 Z = true := hw _ (List.mem_of_getElem? (i := 155) rfl)
theorem w156 {a0 : Array Value} {Z : State} (hw : Ws a0 Z) : (Jvm.Cond.instanceMethod ({ cls := "com/example/scopegate/scopegate/token/Verdict$Outcome", name := "status", desc := "()I" } : Jvm.MethodName)).before a0 Z = true := hw _ (List.mem_of_getElem? (i := 156) rfl)
theorem w157 {a0 : Array Value} {Z : State} (hw : Ws a0 Z) : (Jvm.Cond.selects "com/example/scopegate/scopegate/token/Verdict$Outcome" ({ cls := "com/example/scopegate/scopegate/token/Verdict$Outcome", name := "status", desc := "()I" } : Jvm.MethodName) ({ cls := "com/example/scopegate/scopegate/token/Verdict$Outcome", name := "status", desc := "()I" } : Jvm.MethodName)).before a0 Z = true := hw _ (List.mem_of_getElem? (i := 157) rfl)
theorem w158 {a0 : Array Value} {Z : State} (hw : Ws a0 Z) : (Jvm.Cond.code ({ cls := "com/example/scopegate/scopegate/token/Verdict$Outcome", name := "status", desc := "()I" } : Jvm.MethodName) prog_20_method_4_code (1 : Nat) (Option.some Jvm.ClassFile.FieldType.int)).before a0 Z = true := hw _ (List.mem_of_getElem? (i := 158) rfl)
theorem w159 {a0 : Array Value} {Z : State} (hw : Ws a0 Z) : (Jvm.Cond.fieldLink "com/example/scopegate/scopegate/token/Verdict$Outcome" (47 : Nat) "com/example/scopegate/scopegate/token/Verdict$Outcome" "status" "I").before a0 Z = true := hw _ (List.mem_of_getElem? (i := 159) rfl)
theorem w161 {a0 : Array Value} {Z : State} (hw : Ws a0 Z) : (Jvm.Cond.methodLink "com/example/scopegate/scopegate/token/VerdictValidPinLaw" (61 : Nat) ({ cls := "com/example/scopegate/scopegate/token/Verdict$Outcome", name := "error", desc := "()Ljava/lang/String;" } : Jvm.MethodName)).before a0 Z = true := hw _ (List.mem_of_getElem? (i := 161) rfl)
theorem w162 {a0 : Array Value} {Z : State} (hw : Ws a0 Z) : (Jvm.Cond.declares ({ cls := "com/example/scopegate/scopegate/token/Verdict$Outcome", name := "error", desc := "()Ljava/lang/String;" } : Jvm.MethodName)).before a0 Z = true := hw _ (List.mem_of_getElem? (i := 162) rfl)
theorem w163 {a0 : Array Value} {Z : State} (hw : Ws a0 Z) : (Jvm.Cond.instanceMethod ({ cls := "com/example/scopegate/scopegate/token/Verdict$Outcome", name := "error", desc := "()Ljava/lang/String;" } : Jvm.MethodName)).before a0 Z = true := hw _ (List.mem_of_getElem? (i := 163) rfl)
theorem w164 {a0 : Array Value} {Z : State} (hw : Ws a0 Z) : (Jvm.Cond.selects "com/example/scopegate/scopegate/token/Verdict$Outcome" ({ cls := "com/example/scopegate/scopegate/token/Verdict$Outcome", name := "error", desc := "()Ljava/lang/String;" } : Jvm.MethodName) ({ cls := "com/example/scopegate/scopegate/token/Verdict$Outcome", name := "error", desc := "()Ljava/lang/String;" } : Jvm.MethodName)).before a0 Z = true := hw _ (List.mem_of_getElem? (i := 164) rfl)
theorem w165 {a0 : Array Value} {Z : State} (hw : Ws a0 Z) : (Jvm.Cond.code ({ cls := "com/example/scopegate/scopegate/token/Verdict$Outcome", name := "error", desc := "()Ljava/lang/String;" } : Jvm.MethodName) prog_20_method_5_code (1 : Nat) (Option.some (Jvm.ClassFile.FieldType.object "java/lang/String"))).before a0 Z = true := hw _ (List.mem_of_getElem? (i := 165) rfl)
theorem w166 {a0 : Array Value} {Z : State} (hw : Ws a0 Z) : (Jvm.Cond.fieldLink "com/example/scopegate/scopegate/token/Verdict$Outcome" (51 : Nat) "com/example/scopegate/scopegate/token/Verdict$Outcome" "error" "Ljava/lang/String;").before a0 Z = true := hw _ (List.mem_of_getElem? (i := 166) rfl)
theorem w168 {a0 : Array Value} {Z : State} (hw : Ws a0 Z) : (Jvm.Cond.classLink "com/example/scopegate/scopegate/token/VerdictValidPinLaw" (8 : Nat) "java/lang/String").before a0 Z = true := hw _ (List.mem_of_getElem? (i := 168) rfl)
theorem w169 {a0 : Array Value} {Z : State} (hw : Ws a0 Z) : (Jvm.Cond.arrayClass Jvm.ClassFile.FieldType.char).before a0 Z = true := hw _ (List.mem_of_getElem? (i := 169) rfl)
theorem w170 {a0 : Array Value} {Z : State} (hw : Ws a0 Z) : (Jvm.Cond.methodLink "com/example/scopegate/scopegate/token/VerdictValidPinLaw" (13 : Nat) ({ cls := "java/lang/String", name := "<init>", desc := "([C)V" } : Jvm.MethodName)).before a0 Z = true := hw _ (List.mem_of_getElem? (i := 170) rfl)
theorem w171 {a0 : Array Value} {Z : State} (hw : Ws a0 Z) : (Jvm.Cond.instanceMethod ({ cls := "java/lang/String", name := "<init>", desc := "([C)V" } : Jvm.MethodName)).before a0 Z = true := hw _ (List.mem_of_getElem? (i := 171) rfl)
theorem w172 {a0 : Array Value} {Z : State} (hw : Ws a0 Z) : (Jvm.Cond.code ({ cls := "java/lang/String", name := "<init>", desc := "([C)V" } : Jvm.MethodName) jdk_42_method_3_code (2 : Nat) (Option.none : Option Jvm.ClassFile.FieldType)).before a0 Z = true := hw _ (List.mem_of_getElem? (i := 172) rfl)
theorem d_jdk_22m1_0 : decode jdk_22_method_1_code 0 = .ok (.aload_n 0, 1) := by decide +kernel
theorem d_jdk_22m1_1 : decode jdk_22_method_1_code 1 = .ok (.invokespecial 1, 3) := by decide +kernel
theorem d_jdk_22m1_4 : decode jdk_22_method_1_code 4 = .ok (.return_, 1) := by decide +kernel
theorem d_jdk_30m1_0 : decode jdk_30_method_1_code 0 = .ok (.aload_n 0, 1) := by decide +kernel
theorem d_jdk_30m1_1 : decode jdk_30_method_1_code 1 = .ok (.invokespecial 1, 3) := by decide +kernel
theorem d_jdk_30m1_4 : decode jdk_30_method_1_code 4 = .ok (.return_, 1) := by decide +kernel
theorem d_jdk_39m1_0 : decode jdk_39_method_1_code 0 = .ok (.aload_n 0, 1) := by decide +kernel
theorem d_jdk_39m1_1 : decode jdk_39_method_1_code 1 = .ok (.invokespecial 1, 3) := by decide +kernel
theorem d_jdk_39m1_4 : decode jdk_39_method_1_code 4 = .ok (.aload_n 0, 1) := by decide +kernel
theorem d_jdk_39m1_5 : decode jdk_39_method_1_code 5 = .ok (.iconst 0, 1) := by decide +kernel
theorem d_jdk_39m1_6 : decode jdk_39_method_1_code 6 = .ok (.putfield 7, 3) := by decide +kernel
theorem d_jdk_39m1_9 : decode jdk_39_method_1_code 9 = .ok (.return_, 1) := by decide +kernel
theorem d_jdk_38m2_0 : decode jdk_38_method_2_code 0 = .ok (.aload_n 0, 1) := by decide +kernel
theorem d_jdk_38m2_1 : decode jdk_38_method_2_code 1 = .ok (.invokespecial 1, 3) := by decide +kernel
theorem d_jdk_38m2_4 : decode jdk_38_method_2_code 4 = .ok (.aload_n 0, 1) := by decide +kernel
theorem d_jdk_38m2_5 : decode jdk_38_method_2_code 5 = .ok (.getstatic 39, 3) := by decide +kernel
theorem d_jdk_38m2_8 : decode jdk_38_method_2_code 8 = .ok (.putfield 9, 3) := by decide +kernel
theorem d_jdk_38m2_11 : decode jdk_38_method_2_code 11 = .ok (.return_, 1) := by decide +kernel
theorem d_jdk_29m65_0 : decode jdk_29_method_65_code 0 = .ok (.iload_n 0, 1) := by decide +kernel
theorem d_jdk_29m65_1 : decode jdk_29_method_65_code 1 = .ok (.iload_n 1, 1) := by decide +kernel
theorem d_jdk_29m65_2 : decode jdk_29_method_65_code 2 = .ok (.if_icmp .lt 7, 3) := by decide +kernel
theorem d_jdk_29m65_5 : decode jdk_29_method_65_code 5 = .ok (.iload_n 0, 1) := by decide +kernel
theorem d_jdk_29m65_6 : decode jdk_29_method_65_code 6 = .ok (.goto 4, 3) := by decide +kernel
theorem d_jdk_29m65_10 : decode jdk_29_method_65_code 10 = .ok (.ireturn, 1) := by decide +kernel
theorem d_jdk_38m6_0 : decode jdk_38_method_6_code 0 = .ok (.aload_n 0, 1) := by decide +kernel
theorem d_jdk_38m6_1 : decode jdk_38_method_6_code 1 = .ok (.getfield 9, 3) := by decide +kernel
theorem d_jdk_38m6_4 : decode jdk_38_method_6_code 4 = .ok (.arraylength, 1) := by decide +kernel
theorem d_jdk_38m6_5 : decode jdk_38_method_6_code 5 = .ok (.istore_n 2, 1) := by decide +kernel
theorem d_jdk_38m6_6 : decode jdk_38_method_6_code 6 = .ok (.iload_n 2, 1) := by decide +kernel
theorem d_jdk_38m6_7 : decode jdk_38_method_6_code 7 = .ok (.ifCond .gt 13, 3) := by decide +kernel
theorem d_jdk_38m6_10 : decode jdk_38_method_6_code 10 = .ok (.aload_n 0, 1) := by decide +kernel
theorem d_jdk_38m6_11 : decode jdk_38_method_6_code 11 = .ok (.getfield 9, 3) := by decide +kernel
theorem d_jdk_38m6_14 : decode jdk_38_method_6_code 14 = .ok (.getstatic 39, 3) := by decide +kernel
theorem d_jdk_38m6_17 : decode jdk_38_method_6_code 17 = .ok (.if_acmp .eq 28, 3) := by decide +kernel
theorem d_jdk_38m6_45 : decode jdk_38_method_6_code 45 = .ok (.aload_n 0, 1) := by decide +kernel
theorem d_jdk_38m6_46 : decode jdk_38_method_6_code 46 = .ok (.bipush 10, 2) := by decide +kernel
theorem d_jdk_38m6_48 : decode jdk_38_method_6_code 48 = .ok (.iload_n 1, 1) := by decide +kernel
theorem d_jdk_38m6_49 : decode jdk_38_method_6_code 49 = .ok (.invokestatic 79, 3) := by decide +kernel
theorem d_jdk_38m6_52 : decode jdk_38_method_6_code 52 = .ok (.anewarray 7, 3) := by decide +kernel
theorem d_jdk_38m6_55 : decode jdk_38_method_6_code 55 = .ok (.dup_x1, 1) := by decide +kernel
theorem d_jdk_38m6_56 : decode jdk_38_method_6_code 56 = .ok (.putfield 9, 3) := by decide +kernel
theorem d_jdk_38m6_59 : decode jdk_38_method_6_code 59 = .ok (.areturn, 1) := by decide +kernel
theorem d_jdk_38m7_0 : decode jdk_38_method_7_code 0 = .ok (.aload_n 0, 1) := by decide +kernel
theorem d_jdk_38m7_1 : decode jdk_38_method_7_code 1 = .ok (.aload_n 0, 1) := by decide +kernel
theorem d_jdk_38m7_2 : decode jdk_38_method_7_code 2 = .ok (.getfield 48, 3) := by decide +kernel
theorem d_jdk_38m7_5 : decode jdk_38_method_7_code 5 = .ok (.iconst 1, 1) := by decide +kernel
theorem d_jdk_38m7_6 : decode jdk_38_method_7_code 6 = .ok (.iadd, 1) := by decide +kernel
theorem d_jdk_38m7_7 : decode jdk_38_method_7_code 7 = .ok (.invokevirtual 69, 3) := by decide +kernel
theorem d_jdk_38m7_10 : decode jdk_38_method_7_code 10 = .ok (.areturn, 1) := by decide +kernel
theorem d_jdk_38m24_0 : decode jdk_38_method_24_code 0 = .ok (.iload_n 3, 1) := by decide +kernel
theorem d_jdk_38m24_1 : decode jdk_38_method_24_code 1 = .ok (.aload_n 2, 1) := by decide +kernel
theorem d_jdk_38m24_2 : decode jdk_38_method_24_code 2 = .ok (.arraylength, 1) := by decide +kernel
theorem d_jdk_38m24_3 : decode jdk_38_method_24_code 3 = .ok (.if_icmp .ne 8, 3) := by decide +kernel
theorem d_jdk_38m24_6 : decode jdk_38_method_24_code 6 = .ok (.aload_n 0, 1) := by decide +kernel
theorem d_jdk_38m24_7 : decode jdk_38_method_24_code 7 = .ok (.invokevirtual 129, 3) := by decide +kernel
theorem d_jdk_38m24_10 : decode jdk_38_method_24_code 10 = .ok (.astore_n 2, 1) := by decide +kernel
theorem d_jdk_38m24_11 : decode jdk_38_method_24_code 11 = .ok (.aload_n 2, 1) := by decide +kernel
theorem d_jdk_38m24_12 : decode jdk_38_method_24_code 12 = .ok (.iload_n 3, 1) := by decide +kernel
theorem d_jdk_38m24_13 : decode jdk_38_method_24_code 13 = .ok (.aload_n 1, 1) := by decide +kernel
theorem d_jdk_38m24_14 : decode jdk_38_method_24_code 14 = .ok (.aastore, 1) := by decide +kernel
theorem d_jdk_38m24_15 : decode jdk_38_method_24_code 15 = .ok (.aload_n 0, 1) := by decide +kernel
theorem d_jdk_38m24_16 : decode jdk_38_method_24_code 16 = .ok (.iload_n 3, 1) := by decide +kernel
theorem d_jdk_38m24_17 : decode jdk_38_method_24_code 17 = .ok (.iconst 1, 1) := by decide +kernel
theorem d_jdk_38m24_18 : decode jdk_38_method_24_code 18 = .ok (.iadd, 1) := by decide +kernel
theorem d_jdk_38m24_19 : decode jdk_38_method_24_code 19 = .ok (.putfield 48, 3) := by decide +kernel
theorem d_jdk_38m24_22 : decode jdk_38_method_24_code 22 = .ok (.return_, 1) := by decide +kernel
theorem d_jdk_38m25_0 : decode jdk_38_method_25_code 0 = .ok (.aload_n 0, 1) := by decide +kernel
theorem d_jdk_38m25_1 : decode jdk_38_method_25_code 1 = .ok (.dup, 1) := by decide +kernel
theorem d_jdk_38m25_2 : decode jdk_38_method_25_code 2 = .ok (.getfield 63, 3) := by decide +kernel
theorem d_jdk_38m25_5 : decode jdk_38_method_25_code 5 = .ok (.iconst 1, 1) := by decide +kernel
theorem d_jdk_38m25_6 : decode jdk_38_method_25_code 6 = .ok (.iadd, 1) := by decide +kernel
theorem d_jdk_38m25_7 : decode jdk_38_method_25_code 7 = .ok (.putfield 63, 3) := by decide +kernel
theorem d_jdk_38m25_10 : decode jdk_38_method_25_code 10 = .ok (.aload_n 0, 1) := by decide +kernel
theorem d_jdk_38m25_11 : decode jdk_38_method_25_code 11 = .ok (.aload_n 1, 1) := by decide +kernel
theorem d_jdk_38m25_12 : decode jdk_38_method_25_code 12 = .ok (.aload_n 0, 1) := by decide +kernel
theorem d_jdk_38m25_13 : decode jdk_38_method_25_code 13 = .ok (.getfield 9, 3) := by decide +kernel
theorem d_jdk_38m25_16 : decode jdk_38_method_25_code 16 = .ok (.aload_n 0, 1) := by decide +kernel
theorem d_jdk_38m25_17 : decode jdk_38_method_25_code 17 = .ok (.getfield 48, 3) := by decide +kernel
theorem d_jdk_38m25_20 : decode jdk_38_method_25_code 20 = .ok (.invokevirtual 131, 3) := by decide +kernel
theorem d_jdk_38m25_23 : decode jdk_38_method_25_code 23 = .ok (.iconst 1, 1) := by decide +kernel
theorem d_jdk_38m25_24 : decode jdk_38_method_25_code 24 = .ok (.ireturn, 1) := by decide +kernel
theorem d_prog_13m1_0 : decode prog_13_method_1_code 0 = .ok (.aload_n 0, 1) := by decide +kernel
theorem d_prog_13m1_1 : decode prog_13_method_1_code 1 = .ok (.invokespecial 3, 3) := by decide +kernel
theorem d_prog_13m1_4 : decode prog_13_method_1_code 4 = .ok (.aload_n 0, 1) := by decide +kernel
theorem d_prog_13m1_5 : decode prog_13_method_1_code 5 = .ok (.aload_n 1, 1) := by decide +kernel
theorem d_prog_13m1_6 : decode prog_13_method_1_code 6 = .ok (.putfield 9, 3) := by decide +kernel
theorem d_prog_13m1_9 : decode prog_13_method_1_code 9 = .ok (.aload_n 0, 1) := by decide +kernel
theorem d_prog_13m1_10 : decode prog_13_method_1_code 10 = .ok (.aload_n 2, 1) := by decide +kernel
theorem d_prog_13m1_11 : decode prog_13_method_1_code 11 = .ok (.putfield 13, 3) := by decide +kernel
theorem d_prog_13m1_14 : decode prog_13_method_1_code 14 = .ok (.aload_n 0, 1) := by decide +kernel
theorem d_prog_13m1_15 : decode prog_13_method_1_code 15 = .ok (.aload_n 3, 1) := by decide +kernel
theorem d_prog_13m1_16 : decode prog_13_method_1_code 16 = .ok (.putfield 16, 3) := by decide +kernel
theorem d_prog_13m1_19 : decode prog_13_method_1_code 19 = .ok (.aload_n 0, 1) := by decide +kernel
theorem d_prog_13m1_20 : decode prog_13_method_1_code 20 = .ok (.aload 4, 2) := by decide +kernel
theorem d_prog_13m1_22 : decode prog_13_method_1_code 22 = .ok (.putfield 19, 3) := by decide +kernel
theorem d_prog_13m1_25 : decode prog_13_method_1_code 25 = .ok (.aload_n 0, 1) := by decide +kernel
theorem d_prog_13m1_26 : decode prog_13_method_1_code 26 = .ok (.lload 5, 2) := by decide +kernel
theorem d_prog_13m1_28 : decode prog_13_method_1_code 28 = .ok (.putfield 22, 3) := by decide +kernel
theorem d_prog_13m1_31 : decode prog_13_method_1_code 31 = .ok (.aload_n 0, 1) := by decide +kernel
theorem d_prog_13m1_32 : decode prog_13_method_1_code 32 = .ok (.lload 7, 2) := by decide +kernel
theorem d_prog_13m1_34 : decode prog_13_method_1_code 34 = .ok (.putfield 26, 3) := by decide +kernel
theorem d_prog_13m1_37 : decode prog_13_method_1_code 37 = .ok (.aload_n 0, 1) := by decide +kernel
theorem d_prog_13m1_38 : decode prog_13_method_1_code 38 = .ok (.aload 9, 2) := by decide +kernel
theorem d_prog_13m1_40 : decode prog_13_method_1_code 40 = .ok (.putfield 29, 3) := by decide +kernel
theorem d_prog_13m1_43 : decode prog_13_method_1_code 43 = .ok (.aload_n 0, 1) := by decide +kernel
theorem d_prog_13m1_44 : decode prog_13_method_1_code 44 = .ok (.aload 10, 2) := by decide +kernel
theorem d_prog_13m1_46 : decode prog_13_method_1_code 46 = .ok (.putfield 32, 3) := by decide +kernel
theorem d_prog_13m1_49 : decode prog_13_method_1_code 49 = .ok (.aload_n 0, 1) := by decide +kernel
theorem d_prog_13m1_50 : decode prog_13_method_1_code 50 = .ok (.aload 11, 2) := by decide +kernel
theorem d_prog_13m1_52 : decode prog_13_method_1_code 52 = .ok (.putfield 36, 3) := by decide +kernel
theorem d_prog_13m1_55 : decode prog_13_method_1_code 55 = .ok (.return_, 1) := by decide +kernel
theorem d_prog_19m1_0 : decode prog_19_method_1_code 0 = .ok (.aload_n 0, 1) := by decide +kernel
theorem d_prog_19m1_1 : decode prog_19_method_1_code 1 = .ok (.invokespecial 1, 3) := by decide +kernel
theorem d_prog_19m1_4 : decode prog_19_method_1_code 4 = .ok (.aload_n 0, 1) := by decide +kernel
theorem d_prog_19m1_5 : decode prog_19_method_1_code 5 = .ok (.aload_n 1, 1) := by decide +kernel
theorem d_prog_19m1_6 : decode prog_19_method_1_code 6 = .ok (.putfield 7, 3) := by decide +kernel
theorem d_prog_19m1_9 : decode prog_19_method_1_code 9 = .ok (.aload_n 0, 1) := by decide +kernel
theorem d_prog_19m1_10 : decode prog_19_method_1_code 10 = .ok (.aload_n 2, 1) := by decide +kernel
theorem d_prog_19m1_11 : decode prog_19_method_1_code 11 = .ok (.putfield 13, 3) := by decide +kernel
theorem d_prog_19m1_14 : decode prog_19_method_1_code 14 = .ok (.aload_n 0, 1) := by decide +kernel
theorem d_prog_19m1_15 : decode prog_19_method_1_code 15 = .ok (.aload_n 3, 1) := by decide +kernel
theorem d_prog_19m1_16 : decode prog_19_method_1_code 16 = .ok (.putfield 17, 3) := by decide +kernel
theorem d_prog_19m1_19 : decode prog_19_method_1_code 19 = .ok (.return_, 1) := by decide +kernel
theorem d_prog_19m2_0 : decode prog_19_method_2_code 0 = .ok (.new 8, 3) := by decide +kernel
theorem d_prog_19m2_3 : decode prog_19_method_2_code 3 = .ok (.dup, 1) := by decide +kernel
theorem d_prog_19m2_4 : decode prog_19_method_2_code 4 = .ok (.getstatic 21, 3) := by decide +kernel
theorem d_prog_19m2_7 : decode prog_19_method_2_code 7 = .ok (.aload_n 0, 1) := by decide +kernel
theorem d_prog_19m2_8 : decode prog_19_method_2_code 8 = .ok (.aload_n 1, 1) := by decide +kernel
theorem d_prog_19m2_9 : decode prog_19_method_2_code 9 = .ok (.invokespecial 26, 3) := by decide +kernel
theorem d_prog_19m2_12 : decode prog_19_method_2_code 12 = .ok (.areturn, 1) := by decide +kernel
theorem d_prog_19m8_0 : decode prog_19_method_8_code 0 = .ok (.aload_n 0, 1) := by decide +kernel
theorem d_prog_19m8_1 : decode prog_19_method_8_code 1 = .ok (.getfield 7, 3) := by decide +kernel
theorem d_prog_19m8_4 : decode prog_19_method_8_code 4 = .ok (.areturn, 1) := by decide +kernel
theorem d_prog_19m9_0 : decode prog_19_method_9_code 0 = .ok (.aload_n 0, 1) := by decide +kernel
theorem d_prog_19m9_1 : decode prog_19_method_9_code 1 = .ok (.getfield 13, 3) := by decide +kernel
theorem d_prog_19m9_4 : decode prog_19_method_9_code 4 = .ok (.areturn, 1) := by decide +kernel
theorem d_prog_19m10_0 : decode prog_19_method_10_code 0 = .ok (.aload_n 0, 1) := by decide +kernel
theorem d_prog_19m10_1 : decode prog_19_method_10_code 1 = .ok (.getfield 17, 3) := by decide +kernel
theorem d_prog_19m10_4 : decode prog_19_method_10_code 4 = .ok (.areturn, 1) := by decide +kernel
theorem d_prog_19m4_0 : decode prog_19_method_4_code 0 = .ok (.aload_n 0, 1) := by decide +kernel
theorem d_prog_19m4_1 : decode prog_19_method_4_code 1 = .ok (.getfield 7, 3) := by decide +kernel
theorem d_prog_19m4_4 : decode prog_19_method_4_code 4 = .ok (.getstatic 21, 3) := by decide +kernel
theorem d_prog_19m4_7 : decode prog_19_method_4_code 7 = .ok (.if_acmp .ne 5, 3) := by decide +kernel
theorem d_prog_19m4_10 : decode prog_19_method_4_code 10 = .ok (.aconst_null, 1) := by decide +kernel
theorem d_prog_19m4_11 : decode prog_19_method_4_code 11 = .ok (.areturn, 1) := by decide +kernel
theorem d_prog_20m4_0 : decode prog_20_method_4_code 0 = .ok (.aload_n 0, 1) := by decide +kernel
theorem d_prog_20m4_1 : decode prog_20_method_4_code 1 = .ok (.getfield 47, 3) := by decide +kernel
theorem d_prog_20m4_4 : decode prog_20_method_4_code 4 = .ok (.ireturn, 1) := by decide +kernel
theorem d_prog_20m5_0 : decode prog_20_method_5_code 0 = .ok (.aload_n 0, 1) := by decide +kernel
theorem d_prog_20m5_1 : decode prog_20_method_5_code 1 = .ok (.getfield 51, 3) := by decide +kernel
theorem d_prog_20m5_4 : decode prog_20_method_5_code 4 = .ok (.areturn, 1) := by decide +kernel
theorem d_jdk_43m3_0 : decode jdk_43_method_3_code 0 = .ok (.iload_n 0, 1) := by decide +kernel
theorem d_jdk_43m3_1 : decode jdk_43_method_3_code 1 = .ok (.sipush 255, 3) := by decide +kernel
theorem d_jdk_43m3_4 : decode jdk_43_method_3_code 4 = .ok (.if_icmp .gt 7, 3) := by decide +kernel
theorem d_jdk_43m3_7 : decode jdk_43_method_3_code 7 = .ok (.iconst 1, 1) := by decide +kernel
theorem d_jdk_43m3_8 : decode jdk_43_method_3_code 8 = .ok (.goto 4, 3) := by decide +kernel
theorem d_jdk_43m3_12 : decode jdk_43_method_3_code 12 = .ok (.ireturn, 1) := by decide +kernel
theorem d_jdk_43m46_0 : decode jdk_43_method_46_code 0 = .ok (.iconst 1, 1) := by decide +kernel
theorem d_jdk_43m46_1 : decode jdk_43_method_46_code 1 = .ok (.newarray .byte, 2) := by decide +kernel
theorem d_jdk_43m46_3 : decode jdk_43_method_46_code 3 = .ok (.dup, 1) := by decide +kernel
theorem d_jdk_43m46_4 : decode jdk_43_method_46_code 4 = .ok (.iconst 0, 1) := by decide +kernel
theorem d_jdk_43m46_5 : decode jdk_43_method_46_code 5 = .ok (.iload_n 0, 1) := by decide +kernel
theorem d_jdk_43m46_6 : decode jdk_43_method_46_code 6 = .ok (.i2b, 1) := by decide +kernel
theorem d_jdk_43m46_7 : decode jdk_43_method_46_code 7 = .ok (.bastore, 1) := by decide +kernel
theorem d_jdk_43m46_8 : decode jdk_43_method_46_code 8 = .ok (.areturn, 1) := by decide +kernel
theorem d_jdk_42m151_0 : decode jdk_42_method_151_code 0 = .ok (.aload_n 0, 1) := by decide +kernel
theorem d_jdk_42m151_1 : decode jdk_42_method_151_code 1 = .ok (.invokespecial 1, 3) := by decide +kernel
theorem d_jdk_42m151_4 : decode jdk_42_method_151_code 4 = .ok (.aload_n 0, 1) := by decide +kernel
theorem d_jdk_42m151_5 : decode jdk_42_method_151_code 5 = .ok (.aload_n 1, 1) := by decide +kernel
theorem d_jdk_42m151_6 : decode jdk_42_method_151_code 6 = .ok (.putfield 9, 3) := by decide +kernel
theorem d_jdk_42m151_9 : decode jdk_42_method_151_code 9 = .ok (.aload_n 0, 1) := by decide +kernel
theorem d_jdk_42m151_10 : decode jdk_42_method_151_code 10 = .ok (.iload_n 2, 1) := by decide +kernel
theorem d_jdk_42m151_11 : decode jdk_42_method_151_code 11 = .ok (.putfield 15, 3) := by decide +kernel
theorem d_jdk_42m151_14 : decode jdk_42_method_151_code 14 = .ok (.return_, 1) := by decide +kernel
theorem d_jdk_42m139_0 : decode jdk_42_method_139_code 0 = .ok (.getstatic 38, 3) := by decide +kernel
theorem d_jdk_42m139_3 : decode jdk_42_method_139_code 3 = .ok (.ifCond .eq 23, 3) := by decide +kernel
theorem d_jdk_42m139_6 : decode jdk_42_method_139_code 6 = .ok (.iload_n 0, 1) := by decide +kernel
theorem d_jdk_42m139_7 : decode jdk_42_method_139_code 7 = .ok (.invokestatic 1015, 3) := by decide +kernel
theorem d_jdk_42m139_10 : decode jdk_42_method_139_code 10 = .ok (.ifCond .eq 16, 3) := by decide +kernel
theorem d_jdk_42m139_13 : decode jdk_42_method_139_code 13 = .ok (.new 10, 3) := by decide +kernel
theorem d_jdk_42m139_16 : decode jdk_42_method_139_code 16 = .ok (.dup, 1) := by decide +kernel
theorem d_jdk_42m139_17 : decode jdk_42_method_139_code 17 = .ok (.iload_n 0, 1) := by decide +kernel
theorem d_jdk_42m139_18 : decode jdk_42_method_139_code 18 = .ok (.invokestatic 1018, 3) := by decide +kernel
theorem d_jdk_42m139_21 : decode jdk_42_method_139_code 21 = .ok (.iconst 0, 1) := by decide +kernel
theorem d_jdk_42m139_22 : decode jdk_42_method_139_code 22 = .ok (.invokespecial 209, 3) := by decide +kernel
theorem d_jdk_42m139_25 : decode jdk_42_method_139_code 25 = .ok (.areturn, 1) := by decide +kernel
theorem pd0 : parseMethodDescriptor "()V" = some ⟨[], none⟩ := by decide +kernel
theorem pd1 : parseMethodDescriptor "(II)I" = some ⟨[.int, .int], some .int⟩ := by decide +kernel
theorem pd2 : parseMethodDescriptor "(I)[Ljava/lang/Object;" = some ⟨[.int], some (.array (.object "java/lang/Object"))⟩ := by decide +kernel
theorem pd3 : parseMethodDescriptor "()[Ljava/lang/Object;" = some ⟨[], some (.array (.object "java/lang/Object"))⟩ := by decide +kernel
theorem pd4 : parseMethodDescriptor "(Ljava/lang/Object;[Ljava/lang/Object;I)V" = some ⟨[(.object "java/lang/Object"), (.array (.object "java/lang/Object")), .int], none⟩ := by decide +kernel
theorem pd5 : parseMethodDescriptor "(Lcom/example/scopegate/scopegate/token/Verdict$Outcome;Lcom/example/scopegate/scopegate/token/AccessToken;Ljava/lang/String;)V" = some ⟨[(.object "com/example/scopegate/scopegate/token/Verdict$Outcome"), (.object "com/example/scopegate/scopegate/token/AccessToken"), (.object "java/lang/String")], none⟩ := by decide +kernel
theorem pd6 : parseMethodDescriptor "(C)Z" = some ⟨[.char], some .boolean⟩ := by decide +kernel
theorem pd7 : parseMethodDescriptor "(C)[B" = some ⟨[.char], some (.array .byte)⟩ := by decide +kernel
theorem pd8 : parseMethodDescriptor "([BB)V" = some ⟨[(.array .byte), .byte], none⟩ := by decide +kernel
theorem pd9 : parseMethodDescriptor "(C)Ljava/lang/String;" = some ⟨[.char], some (.object "java/lang/String")⟩ := by decide +kernel
theorem pd10 : parseMethodDescriptor "(Ljava/lang/Object;)Z" = some ⟨[(.object "java/lang/Object")], some .boolean⟩ := by decide +kernel
theorem pd11 : parseMethodDescriptor "(Ljava/lang/String;Ljava/lang/String;Ljava/lang/String;Ljava/lang/String;JJLjava/lang/String;Ljava/util/List;Ljava/lang/String;)V" = some ⟨[(.object "java/lang/String"), (.object "java/lang/String"), (.object "java/lang/String"), (.object "java/lang/String"), .long, .long, (.object "java/lang/String"), (.object "java/util/List"), (.object "java/lang/String")], none⟩ := by decide +kernel
theorem pd12 : parseMethodDescriptor "(Lcom/example/scopegate/scopegate/token/AccessToken;Ljava/lang/String;)Lcom/example/scopegate/scopegate/token/Verdict;" = some ⟨[(.object "com/example/scopegate/scopegate/token/AccessToken"), (.object "java/lang/String")], some (.object "com/example/scopegate/scopegate/token/Verdict")⟩ := by decide +kernel
theorem pd13 : parseMethodDescriptor "()Lcom/example/scopegate/scopegate/token/Verdict$Outcome;" = some ⟨[], some (.object "com/example/scopegate/scopegate/token/Verdict$Outcome")⟩ := by decide +kernel
theorem pd14 : parseMethodDescriptor "()Lcom/example/scopegate/scopegate/token/AccessToken;" = some ⟨[], some (.object "com/example/scopegate/scopegate/token/AccessToken")⟩ := by decide +kernel
theorem pd15 : parseMethodDescriptor "()Ljava/lang/String;" = some ⟨[], some (.object "java/lang/String")⟩ := by decide +kernel
theorem pd16 : parseMethodDescriptor "()I" = some ⟨[], some .int⟩ := by decide +kernel
theorem pd17 : parseMethodDescriptor "([C)V" = some ⟨[(.array .char)], none⟩ := by decide +kernel
theorem pn0 : plainName "java/util/AbstractCollection" = true := by first | (simp [plainName, overriddenIn]; done) | decide +kernel
theorem pn1 : plainName "java/lang/Record" = true := by first | (simp [plainName, overriddenIn]; done) | decide +kernel
theorem pn2 : plainName "java/util/AbstractList" = true := by first | (simp [plainName, overriddenIn]; done) | decide +kernel
theorem pn3 : plainName "java/util/ArrayList" = true := by first | (simp [plainName, overriddenIn]; done) | decide +kernel
theorem pn4 : plainName "com/example/scopegate/scopegate/token/AccessToken" = true := by first | (simp [plainName, overriddenIn]; done) | decide +kernel
theorem pn5 : plainName "com/example/scopegate/scopegate/token/Verdict" = true := by first | (simp [plainName, overriddenIn]; done) | decide +kernel
theorem pn6 : plainName "com/example/scopegate/scopegate/token/Verdict$Outcome" = true := by first | (simp [plainName, overriddenIn]; done) | decide +kernel
theorem pn7 : plainName "java/lang/StringLatin1" = true := by first | (simp [plainName, overriddenIn]; done) | decide +kernel
theorem pn8 : plainName "java/lang/String" = true := by first | (simp [plainName, overriddenIn]; done) | decide +kernel
theorem pn9 : plainName "com/example/scopegate/scopegate/token/VerdictValidPinLaw" = true := by first | (simp [plainName, overriddenIn]; done) | decide +kernel
theorem ef0 (m : MethodId) (x0 : Addr) : entryFrame m #[(.ref x0)] 1 = mkF m 0 #[.val (.ref x0)] [] := by (first | (simp [entryFrame, mkF, argsToLocals, Value.category]; done) | rfl)
theorem ef1 (m : MethodId) (x0 : Addr) : entryFrame m #[(.ref x0)] 1 = mkF m 0 #[.val (.ref x0)] [] := by (first | (simp [entryFrame, mkF, argsToLocals, Value.category]; done) | rfl)
theorem ef2 (m : MethodId) (x0 : Addr) : entryFrame m #[(.ref x0)] 1 = mkF m 0 #[.val (.ref x0)] [] := by (first | (simp [entryFrame, mkF, argsToLocals, Value.category]; done) | rfl)
theorem ef3 (m : MethodId) (x0 : Addr) : entryFrame m #[(.ref x0)] 1 = mkF m 0 #[.val (.ref x0)] [] := by (first | (simp [entryFrame, mkF, argsToLocals, Value.category]; done) | rfl)
theorem ef4 (m : MethodId) (x0 : Int32) (x1 : Int32) : entryFrame m #[(.int x0), (.int x1)] 2 = mkF m 0 #[.val (.int x0), .val (.int x1)] [] := by (first | (simp [entryFrame, mkF, argsToLocals, Value.category]; done) | rfl)
theorem ef5 (m : MethodId) (x0 : Addr) : entryFrame m #[(.ref x0), (.int (1 : Int32))] 4 = mkF m 0 #[.val (.ref x0), .val (.int (1 : Int32)), .unset, .unset] [] := by (first | (simp [entryFrame, mkF, argsToLocals, Value.category]; done) | rfl)
theorem ef6 (m : MethodId) (x0 : Addr) : entryFrame m #[(.ref x0)] 1 = mkF m 0 #[.val (.ref x0)] [] := by (first | (simp [entryFrame, mkF, argsToLocals, Value.category]; done) | rfl)
theorem ef7 (m : MethodId) (x0 : Addr) (x1 : Addr) (x2 : Addr) : entryFrame m #[(.ref x0), (.ref x1), (.ref x2), (.int (0 : Int32))] 4 = mkF m 0 #[.val (.ref x0), .val (.ref x1), .val (.ref x2), .val (.int (0 : Int32))] [] := by (first | (simp [entryFrame, mkF, argsToLocals, Value.category]; done) | rfl)
theorem ef8 (m : MethodId) (x0 : Addr) (x1 : Addr) : entryFrame m #[(.ref x0), (.ref x1)] 2 = mkF m 0 #[.val (.ref x0), .val (.ref x1)] [] := by (first | (simp [entryFrame, mkF, argsToLocals, Value.category]; done) | rfl)
theorem ef9 (m : MethodId) (x0 : Addr) (x1 : Addr) (x3 : Addr) (x4 : Value) (hx4 : x4.isRef = true) (x5 : Int64) (x6 : Int64) (x8 : Addr) : entryFrame m #[(.ref x0), (.ref x1), .null, (.ref x3), x4, (.long x5), (.long x6), .null, (.ref x8), .null] 12 = mkF m 0 #[.val (.ref x0), .val (.ref x1), .val .null, .val (.ref x3), .val x4, .val (.long x5), .second, .val (.long x6), .second, .val .null, .val (.ref x8), .val .null] [] := by rcases ref_cases hx4 with rfl | ⟨_, rfl⟩ <;> (first | (simp [entryFrame, mkF, argsToLocals, Value.category]; done) | rfl)
theorem ef10 (m : MethodId) (x0 : Addr) (x1 : Addr) (x2 : Addr) (x3 : Value) (hx3 : x3.isRef = true) : entryFrame m #[(.ref x0), (.ref x1), (.ref x2), x3] 4 = mkF m 0 #[.val (.ref x0), .val (.ref x1), .val (.ref x2), .val x3] [] := by rcases ref_cases hx3 with rfl | ⟨_, rfl⟩ <;> (first | (simp [entryFrame, mkF, argsToLocals, Value.category]; done) | rfl)
theorem ef11 (m : MethodId) (x0 : Addr) (x1 : Value) (hx1 : x1.isRef = true) : entryFrame m #[(.ref x0), x1] 2 = mkF m 0 #[.val (.ref x0), .val x1] [] := by rcases ref_cases hx1 with rfl | ⟨_, rfl⟩ <;> (first | (simp [entryFrame, mkF, argsToLocals, Value.category]; done) | rfl)
theorem ef12 (m : MethodId) (x0 : Addr) : entryFrame m #[(.ref x0)] 1 = mkF m 0 #[.val (.ref x0)] [] := by (first | (simp [entryFrame, mkF, argsToLocals, Value.category]; done) | rfl)
theorem ef13 (m : MethodId) (x0 : Addr) : entryFrame m #[(.ref x0)] 1 = mkF m 0 #[.val (.ref x0)] [] := by (first | (simp [entryFrame, mkF, argsToLocals, Value.category]; done) | rfl)
theorem ef14 (m : MethodId) (x0 : Addr) : entryFrame m #[(.ref x0)] 1 = mkF m 0 #[.val (.ref x0)] [] := by (first | (simp [entryFrame, mkF, argsToLocals, Value.category]; done) | rfl)
theorem ef15 (m : MethodId) (x0 : Addr) : entryFrame m #[(.ref x0)] 1 = mkF m 0 #[.val (.ref x0)] [] := by (first | (simp [entryFrame, mkF, argsToLocals, Value.category]; done) | rfl)
theorem ef16 (m : MethodId) (x0 : Addr) : entryFrame m #[(.ref x0)] 1 = mkF m 0 #[.val (.ref x0)] [] := by (first | (simp [entryFrame, mkF, argsToLocals, Value.category]; done) | rfl)
theorem ef17 (m : MethodId) (x0 : Addr) : entryFrame m #[(.ref x0)] 1 = mkF m 0 #[.val (.ref x0)] [] := by (first | (simp [entryFrame, mkF, argsToLocals, Value.category]; done) | rfl)
theorem ef18 (m : MethodId) (x0 : Int32) : entryFrame m #[(.int x0)] 1 = mkF m 0 #[.val (.int x0)] [] := by (first | (simp [entryFrame, mkF, argsToLocals, Value.category]; done) | rfl)
theorem ef19 (m : MethodId) (x0 : Int32) : entryFrame m #[(.int x0)] 1 = mkF m 0 #[.val (.int x0)] [] := by (first | (simp [entryFrame, mkF, argsToLocals, Value.category]; done) | rfl)
theorem ef20 (m : MethodId) (x0 : Addr) (x1 : Addr) : entryFrame m #[(.ref x0), (.ref x1), (.int (0 : Int32))] 3 = mkF m 0 #[.val (.ref x0), .val (.ref x1), .val (.int (0 : Int32))] [] := by (first | (simp [entryFrame, mkF, argsToLocals, Value.category]; done) | rfl)
theorem ef21 (m : MethodId) (x0 : Int32) : entryFrame m #[(.int x0)] 1 = mkF m 0 #[.val (.int x0)] [] := by (first | (simp [entryFrame, mkF, argsToLocals, Value.category]; done) | rfl)
theorem ef22 (m : MethodId) (x0 : Int32) (x1 : Int32) (x2 : Int64) (x3 : Int64) : entryFrame m #[(.int x0), (.int x1), (.long x2), (.long x3)] maxLocals = mkF m 0 #[.val (.int x0), .val (.int x1), .val (.long x2), .second, .val (.long x3), .second, .unset, .unset, .unset, .unset, .unset, .unset, .unset, .unset, .unset] [] := by (first | (simp [entryFrame, mkF, argsToLocals, Value.category, maxLocals]; done) | rfl)
/-- the String at x spells cs (Latin-1, at most 4,000 signs) -/
def Str (Z : State) (h : Heap) (x : Addr) (cs : List Int32) : Prop := Exa Z h x StN ∧ Fld Z h x StN "coder" "B" (.int 0) ∧ (∃ t, Fld Z h x StN "value" "[B" (.ref t) ∧ Wk.Ary Z h t .byte ((cs.map fun c => c.toInt8.toInt32).map Value.int)) ∧ (∀ c ∈ cs, ¬ c < 0 ∧ ¬ (255 : Int32) < c) ∧ cs.length ≤ 4000
theorem Str.ext {Z : State} {h h' : Heap} {x : Addr} {cs : List Int32} (F : Str Z h x cs) (E : Ext h h') : Str Z h' x cs := by
  obtain ⟨a, b, ⟨t, c, d⟩, r⟩ := F
  exact ⟨a.ext E, b.ext E, ⟨t, c.ext E, d.ext E⟩, r⟩
theorem Str.exa {Z : State} {h : Heap} {x : Addr} {cs : List Int32} (F : Str Z h x cs) : Exa Z h x StN := F.1
theorem Str.lt {Z : State} {h : Heap} {x : Addr} {cs : List Int32} (F : Str Z h x cs) : x < h.size := F.1.lt
theorem strNew {l : Launch} {R : Room} {Z : State} {W : Wk.Wd} {a0 : Array Value} {own nm : String} {code : ByteArray} {maxL : Nat} {ret : Option FieldType} (C : Wk.Cx Z W own nm code maxL ret) (hw : Ws a0 Z) (hs : Sets Z) {h : Heap} (O : Ext Z.heap h) {x b : Addr} {cs : List Int32} {n Wn : Nat} {v0 c0 : Value}
    (hx0 : Z.heap.size ≤ x) (E : Exa Z h x StN) (V : Fld Z h x StN "value" "[B" v0) (Cd : Fld Z h x StN "coder" "B" c0) (K : Wk.Ary Z h b .char (cs.map Value.int)) (hn : cs.length = n) (l0 : 0 < n) (l2 : n ≤ 4000) (hp : ∀ c ∈ cs, ¬ c < 0 ∧ ¬ (255 : Int32) < c) (hfr : 4 ≤ R.frames) (hlo : Wn + 65 ≤ R.locals) :
    Wk.Pays l R W (⟨"java/lang/String", "<init>", "([C)V"⟩ : MethodName) 3 Wn #[.ref x, .ref b] h 1 n (StrChars.Road.QV Z x (Int32.ofNat n) (cs.map fun c => c.toInt8.toInt32) h Z.heap.size) := by
  obtain ⟨z, fm, S1, hz, -, -⟩ := hs
  obtain ⟨kc, A⟩ := K.arv (d := .int 0)
  rw [List.length_map, hn] at A
  have hws : ∀ d ∈ StrChars.Road.words, d.before a0 Z = true := fun d hd => hw d ((by decide +kernel : ∀ d ∈ StrChars.Road.words, d ∈ tables_1) d hd)
  exact StrChars.Road.backV (W := Wn) C.hZ hws (kI := 4) (w2 hw) (cs := cs) hx0 O.1 E V Cd A (S1.ext O) hz hn rfl l0 l2 hp rfl hfr hlo
theorem strNewC {Z : State} {h : Heap} {x : Addr} {cs : List Int32} {n : Nat} (O : Ext Z.heap h) (hx0 : Z.heap.size ≤ x) (hn : cs.length = n) (l2 : n ≤ 4000) (hp : ∀ c ∈ cs, ¬ c < 0 ∧ ¬ (255 : Int32) < c) :
    Wk.Clean Z (fun v h' => v = none ∧ Keep h h' [x] ∧ Str Z h' x cs) (StrChars.Road.QV Z x (Int32.ofNat n) (cs.map fun c => c.toInt8.toInt32) h Z.heap.size) := by
  rintro v h' L ⟨rfl, N, K, E, Cd, t, kb, -, -, -, V, A⟩
  refine ⟨⟨rfl, K, E, Cd, ⟨t, V, Wk.Ary.of_arv A ?_⟩, hp, by omega⟩, Wk.Ext.keep1 (Z := Z) O K hx0, N⟩
  rw [Int32.toNatClampNeg_ofNat_of_lt (by omega)]; simp [hn]
theorem pureC {Z : State} {h : Heap} {P : Option Value → Prop} (O : Ext Z.heap h) : Wk.Clean Z (fun v h' => P v ∧ h' = h) (fun v h' L => P v ∧ L = [] ∧ h' = h) := by
  rintro v h' L ⟨q, rfl, rfl⟩
  exact ⟨⟨q, rfl⟩, O, Fr.nil _⟩
namespace Ww
open Jvm Jvm.ClassFile Sem Op Lib Jvm.Free Jvm.Stand Jvm.LawKit Jvm.RoadKit Wk
def Go (R : Room) (Z : State) (EL : List (String × Nat)) (W : Wd) (Q : Post) (A : State) : Prop :=
  ∃ s₂ o, Steps W.p.tables W.e W.b A s₂ ∧ s₂.status = .running ∧ Ended s₂ W.b o ∧ ∃ v L, o = .returned v ∧ (Q v s₂.heap ∧ Ext Z.heap s₂.heap ∧ Fr Z.heap.size L) ∧ CHr Z EL W.s.vm W.s.heap s₂.vm s₂.heap ∧ ReturnedEndW W.s o s₂ L R.cells R.slots
abbrev At (W : Wd) (vm0 : Vm) : Wd := (W.p, W.e, W.s.setVm vm0, W.m, W.a, W.b, W.t, W.c)
abbrev Std (l : Launch) (R : Room) (W : Wd) (vm0 : Vm) (T : State) (locs : List Loc) (k n : Nat) : Prop := Stand W.p l W.e R (W.s.setVm vm0) W.m W.a W.b W.t W.c T locs k n
def Inv (Z : State) (EL : List (String × Nat)) (W : Wd) (S : List Addr) (vm0 : Vm) (h : Heap) : Prop :=
  (∃ k0, W.s.Since vm0 k0 ∧ k0 ≤ h.size) ∧ Z.Warmed39 vm0 ∧ CHr Z EL W.s.vm W.s.heap vm0 h ∧ ∀ x ∈ S, x < h.size ∧ Safe Z EL vm0 h x
def Run (l : Launch) (R : Room) (Z : State) (EL : List (String × Nat)) (W : Wd) (Q : Post) (S : List Addr) (h : Heap) (k n : Nat) (f : JFrame) : Prop :=
  ∀ vm0 T locs, Std l R W vm0 T locs k n → T.heap = h → Fr Z.heap.size locs → Ext Z.heap h → Inv Z EL W S vm0 h → Go R Z EL W Q (T.setTop f)
section Kit
variable {l : Launch} {R : Room} {Z : State} {EL : List (String × Nat)} {W : Wd} {Q : Post} {S : List Addr} {h : Heap} {k n : Nat} {own nm : String} {code : ByteArray} {maxL : Nat} {ret : Option FieldType} {a0 : Array Value} {pc pc' : Nat} {Ls : Array Slot} {st : List Value}
theorem Inv.hZ {vm0 : Vm} (I : Inv Z EL W S vm0 h) : Z.Warmed39 (W.s.setVm vm0).vm := I.2.1
theorem Inv.ow {vm0 : Vm} (I : Inv Z EL W S vm0 h) (C : Cx Z W own nm code maxL ret) : (W.s.setVm vm0).vm.findClass own = some W.m.cls := by
  obtain ⟨k0, hS, -⟩ := I.1
  show vm0.findClass own = _
  rw [hS.1.alike.findClass]; exact C.ow
theorem Inv.cx {vm0 : Vm} (I : Inv Z EL W S vm0 h) (C : Cx Z W own nm code maxL ret) : Cx Z (At W vm0) own nm code maxL ret :=
  ⟨C.1, C.2.1, C.2.2.1, I.ow C, I.hZ, C.2.2.2.2.2.1, C.2.2.2.2.2.2.1, C.2.2.2.2.2.2.2⟩
theorem Inv.ch {vm0 : Vm} (I : Inv Z EL W S vm0 h) : CHv Z EL vm0 h := I.2.2.1.1
theorem Inv.ext {vm0 : Vm} {h' : Heap} (I : Inv Z EL W S vm0 h) (E : Ext h h') : Inv Z EL W S vm0 h' := by
  obtain ⟨⟨k0, hS, hk⟩, hZ, hr, hs⟩ := I
  exact ⟨⟨k0, hS, Nat.le_trans hk E.1⟩, hZ, hr.trans (CHr.ext E hr.1), fun x hx => ⟨Nat.lt_of_lt_of_le (hs x hx).1 E.1, (hs x hx).2.ext E hr.1⟩⟩
theorem Inv.keep {vm0 : Vm} {h' : Heap} {ws : List Addr} (I : Inv Z EL W S vm0 h) (K : Keep h h' ws) (q : ∀ x ∈ ws, x ∈ S) : Inv Z EL W S vm0 h' := by
  obtain ⟨⟨k0, hS, hk⟩, hZ, hr, hs⟩ := I
  have hq : ∀ x ∈ ws, Safe Z EL vm0 h x := fun x hx => (hs x (q x hx)).2
  exact ⟨⟨k0, hS, Nat.le_trans hk K.1⟩, hZ, hr.trans (CHr.keep K hq hr.1), fun x hx => ⟨Nat.lt_of_lt_of_le (hs x hx).1 K.1, (hs x hx).2.keep K hq hr.1⟩⟩
theorem Inv.add {vm0 : Vm} {x : Addr} (I : Inv Z EL W S vm0 h) (hx : x < h.size) (sf : Safe Z EL vm0 h x) : Inv Z EL W (x :: S) vm0 h :=
  ⟨I.1, I.2.1, I.2.2.1, fun y hy => (List.mem_cons.mp hy).elim (fun e => e ▸ ⟨hx, sf⟩) (I.2.2.2 y)⟩
theorem Inv.fresh {vm0 : Vm} {h' : Heap} (I : Inv Z EL W S vm0 h) (E : Ext h h') (hx : h.size < h'.size) : Inv Z EL W (h.size :: S) vm0 h' :=
  (I.ext E).add hx ((Safe.new (Nat.le_refl _)).ext E I.ch)
theorem Go.step {A B : State} (f : ∀ t, Steps W.p.tables W.e W.b B t → Steps W.p.tables W.e W.b A t) (g : Go R Z EL W Q B) : Go R Z EL W Q A := by
  obtain ⟨t, o, h1, r⟩ := g
  exact ⟨t, o, f t h1, r⟩
theorem Run.one {g g' : JFrame} (f : ∀ vm0 T locs, Std l R W vm0 T locs k n → T.heap = h → Inv Z EL W S vm0 h → ∀ t, Steps W.p.tables W.e W.b (T.setTop g') t → Steps W.p.tables W.e W.b (T.setTop g) t) (r : Run l R Z EL W Q S h k n g') : Run l R Z EL W Q S h k n g :=
  fun vm0 T locs X eT N O I => Go.step (f vm0 T locs X eT I) (r vm0 T locs X eT N O I)
theorem Run.old {f : JFrame} (r : Ext Z.heap h → Run l R Z EL W Q S h k n f) : Run l R Z EL W Q S h k n f := fun vm0 T locs X eT N O I => r O vm0 T locs X eT N O I
theorem Run.grow {f : JFrame} {k' n' : Nat} (hk : k ≤ k') (hn : n ≤ n') (r : Run l R Z EL W Q S h k' n' f) : Run l R Z EL W Q S h k n f := fun vm0 T locs X eT N O I =>
  r vm0 T locs ⟨X.admits, X.cas, X.clock, X.frames, X.room, X.hears, X.method, X.code, X.here, X.tail, X.warmed, X.limits, X.bytes, X.same.mono hk hn⟩ eT N O I
theorem Run.less {f : JFrame} {S' : List Addr} (q : ∀ x ∈ S', x ∈ S) (r : Run l R Z EL W Q S' h k n f) : Run l R Z EL W Q S h k n f := fun vm0 T locs X eT N O I => r vm0 T locs X eT N O ⟨I.1, I.2.1, I.2.2.1, fun x hx => I.2.2.2 x (q x hx)⟩
/-- what is no constant of EL's, by what it holds -/
def SafeAt (Z : State) (EL : List (String × Nat)) (h : Heap) (x : Addr) : Prop := ∀ vm, Z.vm.Alike vm → CHv Z EL vm h → Safe Z EL vm h x
theorem Run.safe {f : JFrame} {x : Addr} (hx : x < h.size) (sf : SafeAt Z EL h x) (r : Run l R Z EL W Q (x :: S) h k n f) : Run l R Z EL W Q S h k n f :=
  fun vm0 T locs X eT N O I => r vm0 T locs X eT N O (I.add hx (sf vm0 I.2.1.alike I.ch))
theorem SafeAt.exa {x : Addr} {C : String} (E : Exa Z h x C) (h1 : C ≠ "java/lang/String") (h2 : C ≠ "[B") : SafeAt Z EL h x := fun vm al _ => Safe.exa al E h1 h2
theorem SafeAt.ary {x : Addr} {ty : FieldType} {vs : List Value} (F : Ary Z h x ty vs) (ht : ty ≠ .byte) : SafeAt Z EL h x := fun vm al _ => by
  obtain ⟨c, A, -⟩ := F
  exact Safe.arr al A ht
theorem SafeAt.str0 {x : Addr} (E : Exa Z h x "java/lang/String") (V : Fld Z h x "java/lang/String" "value" "[B" .null) : SafeAt Z EL h x := fun vm al _ B => by
  obtain ⟨p, -, u, a, -, q, -, F, rfl | rfl⟩ := B
  · obtain ⟨cS, ⟨⟨ha, -, -, ⟨c1, k1, i1, f1, -⟩, -, -, -, v1, -⟩, -⟩, -⟩ := F
    obtain ⟨cell, cf, k, i, f, h1, h2, -, -, -, -, h7⟩ := V
    cases (show h[q.sa]? = some q.sC from ha).symm.trans h1
    obtain ⟨k3, e3, -⟩ := State.fieldFound?_setVm (s := Z) al h2
    have e4 := (show (Wst Z vm h).fieldFound? _ _ _ = _ from e3).symm.trans f1
    simp only [Option.some.injEq, Prod.mk.injEq] at e4
    rw [e4.2.2.2, v1] at h7
    cases h7
  · obtain ⟨cell, k, e1, e2, -⟩ := E
    cases (show h[q.sd]? = some q.SA from F.hd).symm.trans e1
    obtain ⟨cS, -, -, f, -⟩ := F
    have f' : Z.vm.findClass "[B" = some q.SA.cls := by rw [← al.findClass]; exact f
    exact ids_ne f' e2 (by decide) rfl
theorem iloadN (C : Cx Z W own nm code maxL ret) {i : Fin 4} {v : Int32} (hd : decode code pc = .ok (.iload_n i, 1)) (hl : Ls[i.val]? = some (.val (.int v))) (hp : pc + 1 = pc')
    (r : Run l R Z EL W Q S h k n (mkF W.m pc' Ls (.int v :: st))) : Run l R Z EL W Q S h k n (mkF W.m pc Ls (st)) := by
  subst hp
  exact Run.one (fun vm0 T locs X _ I t g => XS.iloadN X.here C.hx rfl (C.hb hd) hl g) r
theorem iload (C : Cx Z W own nm code maxL ret) {i : Nat} {v : Int32} (hd : decode code pc = .ok (.iload i, 2)) (hl : Ls[i]? = some (.val (.int v))) (hp : pc + 2 = pc')
    (r : Run l R Z EL W Q S h k n (mkF W.m pc' Ls (.int v :: st))) : Run l R Z EL W Q S h k n (mkF W.m pc Ls (st)) := by
  subst hp
  exact Run.one (fun vm0 T locs X _ I t g => XS.iload X.here C.hx rfl (C.hb hd) hl g) r
theorem lloadN (C : Cx Z W own nm code maxL ret) {i : Fin 4} {v : Int64} (hd : decode code pc = .ok (.lload_n i, 1)) (hl : Ls[i.val]? = some (.val (.long v))) (hp : pc + 1 = pc')
    (r : Run l R Z EL W Q S h k n (mkF W.m pc' Ls (.long v :: st))) : Run l R Z EL W Q S h k n (mkF W.m pc Ls (st)) := by
  subst hp
  exact Run.one (fun vm0 T locs X _ I t g => XS.lloadN X.here C.hx rfl (C.hb hd) hl g) r
theorem lload (C : Cx Z W own nm code maxL ret) {i : Nat} {v : Int64} (hd : decode code pc = .ok (.lload i, 2)) (hl : Ls[i]? = some (.val (.long v))) (hp : pc + 2 = pc')
    (r : Run l R Z EL W Q S h k n (mkF W.m pc' Ls (.long v :: st))) : Run l R Z EL W Q S h k n (mkF W.m pc Ls (st)) := by
  subst hp
  exact Run.one (fun vm0 T locs X _ I t g => XS.lload X.here C.hx rfl (C.hb hd) hl g) r
theorem aloadN (C : Cx Z W own nm code maxL ret) {i : Fin 4} {v : Value} (hd : decode code pc = .ok (.aload_n i, 1)) (hl : Ls[i.val]? = some (.val v)) (hv : v.isRef = true) (hp : pc + 1 = pc')
    (r : Run l R Z EL W Q S h k n (mkF W.m pc' Ls (v :: st))) : Run l R Z EL W Q S h k n (mkF W.m pc Ls (st)) := by
  subst hp
  exact Run.one (fun vm0 T locs X _ I t g => XS.aloadN X.here C.hx rfl (C.hb hd) hl hv g) r
theorem aload (C : Cx Z W own nm code maxL ret) {i : Nat} {v : Value} (hd : decode code pc = .ok (.aload i, 2)) (hl : Ls[i]? = some (.val v)) (hv : v.isRef = true) (hp : pc + 2 = pc')
    (r : Run l R Z EL W Q S h k n (mkF W.m pc' Ls (v :: st))) : Run l R Z EL W Q S h k n (mkF W.m pc Ls (st)) := by
  subst hp
  exact Run.one (fun vm0 T locs X _ I t g => XS.aload X.here C.hx rfl (C.hb hd) hl hv g) r
theorem istoreN (C : Cx Z W own nm code maxL ret) {i : Fin 4} {v : Int32} {Ls' : Array Slot} (hd : decode code pc = .ok (.istore_n i, 1)) (hl : storeLocals Ls i.val (.int v) = some Ls') (hp : pc + 1 = pc')
    (r : Run l R Z EL W Q S h k n (mkF W.m pc' Ls' (st))) : Run l R Z EL W Q S h k n (mkF W.m pc Ls (.int v :: st)) := by
  subst hp
  exact Run.one (fun vm0 T locs X _ I t g => XS.istoreN X.here C.hx rfl (C.hb hd) rfl hl g) r
theorem istore (C : Cx Z W own nm code maxL ret) {i : Nat} {v : Int32} {Ls' : Array Slot} (hd : decode code pc = .ok (.istore i, 2)) (hl : storeLocals Ls i (.int v) = some Ls') (hp : pc + 2 = pc')
    (r : Run l R Z EL W Q S h k n (mkF W.m pc' Ls' (st))) : Run l R Z EL W Q S h k n (mkF W.m pc Ls (.int v :: st)) := by
  subst hp
  exact Run.one (fun vm0 T locs X _ I t g => XS.istore X.here C.hx rfl (C.hb hd) rfl hl g) r
theorem lstoreN (C : Cx Z W own nm code maxL ret) {i : Fin 4} {v : Int64} {Ls' : Array Slot} (hd : decode code pc = .ok (.lstore_n i, 1)) (hl : storeLocals Ls i.val (.long v) = some Ls') (hp : pc + 1 = pc')
    (r : Run l R Z EL W Q S h k n (mkF W.m pc' Ls' (st))) : Run l R Z EL W Q S h k n (mkF W.m pc Ls (.long v :: st)) := by
  subst hp
  exact Run.one (fun vm0 T locs X _ I t g => XS.lstoreN X.here C.hx rfl (C.hb hd) rfl hl g) r
theorem lstore (C : Cx Z W own nm code maxL ret) {i : Nat} {v : Int64} {Ls' : Array Slot} (hd : decode code pc = .ok (.lstore i, 2)) (hl : storeLocals Ls i (.long v) = some Ls') (hp : pc + 2 = pc')
    (r : Run l R Z EL W Q S h k n (mkF W.m pc' Ls' (st))) : Run l R Z EL W Q S h k n (mkF W.m pc Ls (.long v :: st)) := by
  subst hp
  exact Run.one (fun vm0 T locs X _ I t g => XS.lstore X.here C.hx rfl (C.hb hd) rfl hl g) r
theorem astoreN (C : Cx Z W own nm code maxL ret) {i : Fin 4} {v : Value} {Ls' : Array Slot} (hd : decode code pc = .ok (.astore_n i, 1)) (hv : v.isRef = true) (hl : storeLocals Ls i.val v = some Ls') (hp : pc + 1 = pc')
    (r : Run l R Z EL W Q S h k n (mkF W.m pc' Ls' (st))) : Run l R Z EL W Q S h k n (mkF W.m pc Ls (v :: st)) := by
  subst hp
  exact Run.one (fun vm0 T locs X _ I t g => XS.astoreN X.here C.hx rfl (C.hb hd) rfl hv hl g) r
theorem astore (C : Cx Z W own nm code maxL ret) {i : Nat} {v : Value} {Ls' : Array Slot} (hd : decode code pc = .ok (.astore i, 2)) (hv : v.isRef = true) (hl : storeLocals Ls i v = some Ls') (hp : pc + 2 = pc')
    (r : Run l R Z EL W Q S h k n (mkF W.m pc' Ls' (st))) : Run l R Z EL W Q S h k n (mkF W.m pc Ls (v :: st)) := by
  subst hp
  exact Run.one (fun vm0 T locs X _ I t g => XS.astore X.here C.hx rfl (C.hb hd) rfl hv hl g) r
theorem iconst (C : Cx Z W own nm code maxL ret) {i : Int} {v : Int32} (hd : decode code pc = .ok (.iconst i, 1)) (hv : Int32.ofInt i = v) (hp : pc + 1 = pc')
    (r : Run l R Z EL W Q S h k n (mkF W.m pc' Ls (.int v :: st))) : Run l R Z EL W Q S h k n (mkF W.m pc Ls (st)) := by
  subst hp
  exact Run.one (fun vm0 T locs X _ I t g => XS.iconst X.here C.hx rfl (C.hb hd) (hv ▸ g)) r
theorem bipush (C : Cx Z W own nm code maxL ret) {i : Int} {v : Int32} (hd : decode code pc = .ok (.bipush i, 2)) (hv : (Int8.ofInt i).toInt32 = v) (hp : pc + 2 = pc')
    (r : Run l R Z EL W Q S h k n (mkF W.m pc' Ls (.int v :: st))) : Run l R Z EL W Q S h k n (mkF W.m pc Ls (st)) := by
  subst hp
  exact Run.one (fun vm0 T locs X _ I t g => XS.bipush X.here C.hx rfl (C.hb hd) (hv ▸ g)) r
theorem sipush (C : Cx Z W own nm code maxL ret) {i : Int} {v : Int32} (hd : decode code pc = .ok (.sipush i, 3)) (hv : (Int16.ofInt i).toInt32 = v) (hp : pc + 3 = pc')
    (r : Run l R Z EL W Q S h k n (mkF W.m pc' Ls (.int v :: st))) : Run l R Z EL W Q S h k n (mkF W.m pc Ls (st)) := by
  subst hp
  exact Run.one (fun vm0 T locs X _ I t g => XS.sipush X.here C.hx rfl (C.hb hd) (hv ▸ g)) r
theorem lconst (C : Cx Z W own nm code maxL ret) {i : Fin 2} {v : Int64} (hd : decode code pc = .ok (.lconst i, 1)) (hv : Int64.ofNat i = v) (hp : pc + 1 = pc')
    (r : Run l R Z EL W Q S h k n (mkF W.m pc' Ls (.long v :: st))) : Run l R Z EL W Q S h k n (mkF W.m pc Ls (st)) := by
  subst hp
  exact Run.one (fun vm0 T locs X _ I t g => XS.lconst X.here C.hx rfl (C.hb hd) (hv ▸ g)) r
theorem aconstNull (C : Cx Z W own nm code maxL ret)  (hd : decode code pc = .ok (.aconst_null, 1)) (hp : pc + 1 = pc')
    (r : Run l R Z EL W Q S h k n (mkF W.m pc' Ls (.null :: st))) : Run l R Z EL W Q S h k n (mkF W.m pc Ls (st)) := by
  subst hp
  exact Run.one (fun vm0 T locs X _ I t g => XS.aconstNull X.here C.hx rfl (C.hb hd) g) r
theorem iadd (C : Cx Z W own nm code maxL ret) {x y v : Int32} (hd : decode code pc = .ok (.iadd, 1)) (hv : x + y = v) (hp : pc + 1 = pc')
    (r : Run l R Z EL W Q S h k n (mkF W.m pc' Ls (.int v :: st))) : Run l R Z EL W Q S h k n (mkF W.m pc Ls (.int y :: .int x :: st)) := by
  subst hp
  exact Run.one (fun vm0 T locs X _ I t g => XS.iadd X.here C.hx rfl (C.hb hd) rfl (hv ▸ g)) r
theorem isub (C : Cx Z W own nm code maxL ret) {x y v : Int32} (hd : decode code pc = .ok (.isub, 1)) (hv : x - y = v) (hp : pc + 1 = pc')
    (r : Run l R Z EL W Q S h k n (mkF W.m pc' Ls (.int v :: st))) : Run l R Z EL W Q S h k n (mkF W.m pc Ls (.int y :: .int x :: st)) := by
  subst hp
  exact Run.one (fun vm0 T locs X _ I t g => XS.isub X.here C.hx rfl (C.hb hd) rfl (hv ▸ g)) r
theorem imul (C : Cx Z W own nm code maxL ret) {x y v : Int32} (hd : decode code pc = .ok (.imul, 1)) (hv : x * y = v) (hp : pc + 1 = pc')
    (r : Run l R Z EL W Q S h k n (mkF W.m pc' Ls (.int v :: st))) : Run l R Z EL W Q S h k n (mkF W.m pc Ls (.int y :: .int x :: st)) := by
  subst hp
  exact Run.one (fun vm0 T locs X _ I t g => XS.imul X.here C.hx rfl (C.hb hd) rfl (hv ▸ g)) r
theorem iand (C : Cx Z W own nm code maxL ret) {x y v : Int32} (hd : decode code pc = .ok (.iand, 1)) (hv : x &&& y = v) (hp : pc + 1 = pc')
    (r : Run l R Z EL W Q S h k n (mkF W.m pc' Ls (.int v :: st))) : Run l R Z EL W Q S h k n (mkF W.m pc Ls (.int y :: .int x :: st)) := by
  subst hp
  exact Run.one (fun vm0 T locs X _ I t g => XS.iand X.here C.hx rfl (C.hb hd) rfl (hv ▸ g)) r
theorem ior (C : Cx Z W own nm code maxL ret) {x y v : Int32} (hd : decode code pc = .ok (.ior, 1)) (hv : x ||| y = v) (hp : pc + 1 = pc')
    (r : Run l R Z EL W Q S h k n (mkF W.m pc' Ls (.int v :: st))) : Run l R Z EL W Q S h k n (mkF W.m pc Ls (.int y :: .int x :: st)) := by
  subst hp
  exact Run.one (fun vm0 T locs X _ I t g => XS.ior X.here C.hx rfl (C.hb hd) rfl (hv ▸ g)) r
theorem ixor (C : Cx Z W own nm code maxL ret) {x y v : Int32} (hd : decode code pc = .ok (.ixor, 1)) (hv : x ^^^ y = v) (hp : pc + 1 = pc')
    (r : Run l R Z EL W Q S h k n (mkF W.m pc' Ls (.int v :: st))) : Run l R Z EL W Q S h k n (mkF W.m pc Ls (.int y :: .int x :: st)) := by
  subst hp
  exact Run.one (fun vm0 T locs X _ I t g => XS.ixor X.here C.hx rfl (C.hb hd) rfl (hv ▸ g)) r
theorem ladd (C : Cx Z W own nm code maxL ret) {x y v : Int64} (hd : decode code pc = .ok (.ladd, 1)) (hv : x + y = v) (hp : pc + 1 = pc')
    (r : Run l R Z EL W Q S h k n (mkF W.m pc' Ls (.long v :: st))) : Run l R Z EL W Q S h k n (mkF W.m pc Ls (.long y :: .long x :: st)) := by
  subst hp
  exact Run.one (fun vm0 T locs X _ I t g => XS.ladd X.here C.hx rfl (C.hb hd) rfl (hv ▸ g)) r
theorem lsub (C : Cx Z W own nm code maxL ret) {x y v : Int64} (hd : decode code pc = .ok (.lsub, 1)) (hv : x - y = v) (hp : pc + 1 = pc')
    (r : Run l R Z EL W Q S h k n (mkF W.m pc' Ls (.long v :: st))) : Run l R Z EL W Q S h k n (mkF W.m pc Ls (.long y :: .long x :: st)) := by
  subst hp
  exact Run.one (fun vm0 T locs X _ I t g => XS.lsub X.here C.hx rfl (C.hb hd) rfl (hv ▸ g)) r
theorem lmul (C : Cx Z W own nm code maxL ret) {x y v : Int64} (hd : decode code pc = .ok (.lmul, 1)) (hv : x * y = v) (hp : pc + 1 = pc')
    (r : Run l R Z EL W Q S h k n (mkF W.m pc' Ls (.long v :: st))) : Run l R Z EL W Q S h k n (mkF W.m pc Ls (.long y :: .long x :: st)) := by
  subst hp
  exact Run.one (fun vm0 T locs X _ I t g => XS.lmul X.here C.hx rfl (C.hb hd) rfl (hv ▸ g)) r
theorem land (C : Cx Z W own nm code maxL ret) {x y v : Int64} (hd : decode code pc = .ok (.land, 1)) (hv : x &&& y = v) (hp : pc + 1 = pc')
    (r : Run l R Z EL W Q S h k n (mkF W.m pc' Ls (.long v :: st))) : Run l R Z EL W Q S h k n (mkF W.m pc Ls (.long y :: .long x :: st)) := by
  subst hp
  exact Run.one (fun vm0 T locs X _ I t g => XS.land X.here C.hx rfl (C.hb hd) rfl (hv ▸ g)) r
theorem lor (C : Cx Z W own nm code maxL ret) {x y v : Int64} (hd : decode code pc = .ok (.lor, 1)) (hv : x ||| y = v) (hp : pc + 1 = pc')
    (r : Run l R Z EL W Q S h k n (mkF W.m pc' Ls (.long v :: st))) : Run l R Z EL W Q S h k n (mkF W.m pc Ls (.long y :: .long x :: st)) := by
  subst hp
  exact Run.one (fun vm0 T locs X _ I t g => XS.lor X.here C.hx rfl (C.hb hd) rfl (hv ▸ g)) r
theorem lxor (C : Cx Z W own nm code maxL ret) {x y v : Int64} (hd : decode code pc = .ok (.lxor, 1)) (hv : x ^^^ y = v) (hp : pc + 1 = pc')
    (r : Run l R Z EL W Q S h k n (mkF W.m pc' Ls (.long v :: st))) : Run l R Z EL W Q S h k n (mkF W.m pc Ls (.long y :: .long x :: st)) := by
  subst hp
  exact Run.one (fun vm0 T locs X _ I t g => XS.lxor X.here C.hx rfl (C.hb hd) rfl (hv ▸ g)) r
theorem idiv (C : Cx Z W own nm code maxL ret) {x y v : Int32} (hd : decode code pc = .ok (.idiv, 1)) (hy : ¬ y = 0) (hv : x / y = v) (hp : pc + 1 = pc')
    (r : Run l R Z EL W Q S h k n (mkF W.m pc' Ls (.int v :: st))) : Run l R Z EL W Q S h k n (mkF W.m pc Ls (.int y :: .int x :: st)) := by
  subst hp
  exact Run.one (fun vm0 T locs X _ I t g => XS.idiv X.here C.hx rfl (C.hb hd) rfl hy (hv ▸ g)) r
theorem irem (C : Cx Z W own nm code maxL ret) {x y v : Int32} (hd : decode code pc = .ok (.irem, 1)) (hy : ¬ y = 0) (hv : x % y = v) (hp : pc + 1 = pc')
    (r : Run l R Z EL W Q S h k n (mkF W.m pc' Ls (.int v :: st))) : Run l R Z EL W Q S h k n (mkF W.m pc Ls (.int y :: .int x :: st)) := by
  subst hp
  exact Run.one (fun vm0 T locs X _ I t g => iremM X C.hx rfl (C.hb hd) rfl hy (hv ▸ g)) r
theorem ineg (C : Cx Z W own nm code maxL ret) {x v : Int32} (hd : decode code pc = .ok (.ineg, 1)) (hv : -x = v) (hp : pc + 1 = pc')
    (r : Run l R Z EL W Q S h k n (mkF W.m pc' Ls (.int v :: st))) : Run l R Z EL W Q S h k n (mkF W.m pc Ls (.int x :: st)) := by
  subst hp
  exact Run.one (fun vm0 T locs X _ I t g => XS.ineg X.here C.hx rfl (C.hb hd) rfl (hv ▸ g)) r
theorem ishl (C : Cx Z W own nm code maxL ret) {x y v : Int32} (hd : decode code pc = .ok (.ishl, 1)) (hv : x <<< (y &&& 31) = v) (hp : pc + 1 = pc')
    (r : Run l R Z EL W Q S h k n (mkF W.m pc' Ls (.int v :: st))) : Run l R Z EL W Q S h k n (mkF W.m pc Ls (.int y :: .int x :: st)) := by
  subst hp
  exact Run.one (fun vm0 T locs X _ I t g => XS.ishl X.here C.hx rfl (C.hb hd) rfl (hv ▸ g)) r
theorem ishr (C : Cx Z W own nm code maxL ret) {x y v : Int32} (hd : decode code pc = .ok (.ishr, 1)) (hv : x >>> (y &&& 31) = v) (hp : pc + 1 = pc')
    (r : Run l R Z EL W Q S h k n (mkF W.m pc' Ls (.int v :: st))) : Run l R Z EL W Q S h k n (mkF W.m pc Ls (.int y :: .int x :: st)) := by
  subst hp
  exact Run.one (fun vm0 T locs X _ I t g => XS.ishr X.here C.hx rfl (C.hb hd) rfl (hv ▸ g)) r
theorem iushr (C : Cx Z W own nm code maxL ret) {x y v : Int32} (hd : decode code pc = .ok (.iushr, 1)) (hv : (x.toUInt32 >>> (y &&& 31).toUInt32).toInt32 = v) (hp : pc + 1 = pc')
    (r : Run l R Z EL W Q S h k n (mkF W.m pc' Ls (.int v :: st))) : Run l R Z EL W Q S h k n (mkF W.m pc Ls (.int y :: .int x :: st)) := by
  subst hp
  exact Run.one (fun vm0 T locs X _ I t g => XS.iushr X.here C.hx rfl (C.hb hd) rfl (hv ▸ g)) r
theorem lshl (C : Cx Z W own nm code maxL ret) {x : Int64} {y : Int32} {v : Int64} (hd : decode code pc = .ok (.lshl, 1)) (hv : x <<< (y &&& 0x3f).toInt64 = v) (hp : pc + 1 = pc')
    (r : Run l R Z EL W Q S h k n (mkF W.m pc' Ls (.long v :: st))) : Run l R Z EL W Q S h k n (mkF W.m pc Ls (.int y :: .long x :: st)) := by
  subst hp
  exact Run.one (fun vm0 T locs X _ I t g => XS.lshl X.here C.hx rfl (C.hb hd) rfl (hv ▸ g)) r
theorem lshr (C : Cx Z W own nm code maxL ret) {x : Int64} {y : Int32} {v : Int64} (hd : decode code pc = .ok (.lshr, 1)) (hv : x >>> (y &&& 0x3f).toInt64 = v) (hp : pc + 1 = pc')
    (r : Run l R Z EL W Q S h k n (mkF W.m pc' Ls (.long v :: st))) : Run l R Z EL W Q S h k n (mkF W.m pc Ls (.int y :: .long x :: st)) := by
  subst hp
  exact Run.one (fun vm0 T locs X _ I t g => XS.lshr X.here C.hx rfl (C.hb hd) rfl (hv ▸ g)) r
theorem lushr (C : Cx Z W own nm code maxL ret) {x : Int64} {y : Int32} {v : Int64} (hd : decode code pc = .ok (.lushr, 1)) (hv : (x.toUInt64 >>> (y &&& 0x3f).toInt64.toUInt64).toInt64 = v) (hp : pc + 1 = pc')
    (r : Run l R Z EL W Q S h k n (mkF W.m pc' Ls (.long v :: st))) : Run l R Z EL W Q S h k n (mkF W.m pc Ls (.int y :: .long x :: st)) := by
  subst hp
  exact Run.one (fun vm0 T locs X _ I t g => XS.lushr X.here C.hx rfl (C.hb hd) rfl (hv ▸ g)) r
theorem i2l (C : Cx Z W own nm code maxL ret) {x : Int32} {v : Int64} (hd : decode code pc = .ok (.i2l, 1)) (hv : x.toInt64 = v) (hp : pc + 1 = pc')
    (r : Run l R Z EL W Q S h k n (mkF W.m pc' Ls (.long v :: st))) : Run l R Z EL W Q S h k n (mkF W.m pc Ls (.int x :: st)) := by
  subst hp
  exact Run.one (fun vm0 T locs X _ I t g => XS.i2l X.here C.hx rfl (C.hb hd) rfl (hv ▸ g)) r
theorem l2i (C : Cx Z W own nm code maxL ret) {x : Int64} {v : Int32} (hd : decode code pc = .ok (.l2i, 1)) (hv : x.toInt32 = v) (hp : pc + 1 = pc')
    (r : Run l R Z EL W Q S h k n (mkF W.m pc' Ls (.int v :: st))) : Run l R Z EL W Q S h k n (mkF W.m pc Ls (.long x :: st)) := by
  subst hp
  exact Run.one (fun vm0 T locs X _ I t g => XS.l2i X.here C.hx rfl (C.hb hd) rfl (hv ▸ g)) r
theorem i2b (C : Cx Z W own nm code maxL ret) {x : Int32} {v : Int32} (hd : decode code pc = .ok (.i2b, 1)) (hv : x.toInt8.toInt32 = v) (hp : pc + 1 = pc')
    (r : Run l R Z EL W Q S h k n (mkF W.m pc' Ls (.int v :: st))) : Run l R Z EL W Q S h k n (mkF W.m pc Ls (.int x :: st)) := by
  subst hp
  exact Run.one (fun vm0 T locs X _ I t g => XS.i2b X.here C.hx rfl (C.hb hd) rfl (hv ▸ g)) r
theorem i2c (C : Cx Z W own nm code maxL ret) {x : Int32} {v : Int32} (hd : decode code pc = .ok (.i2c, 1)) (hv : x.toUInt32.toUInt16.toUInt32.toInt32 = v) (hp : pc + 1 = pc')
    (r : Run l R Z EL W Q S h k n (mkF W.m pc' Ls (.int v :: st))) : Run l R Z EL W Q S h k n (mkF W.m pc Ls (.int x :: st)) := by
  subst hp
  exact Run.one (fun vm0 T locs X _ I t g => XS.i2c X.here C.hx rfl (C.hb hd) rfl (hv ▸ g)) r
theorem i2s (C : Cx Z W own nm code maxL ret) {x : Int32} {v : Int32} (hd : decode code pc = .ok (.i2s, 1)) (hv : x.toInt16.toInt32 = v) (hp : pc + 1 = pc')
    (r : Run l R Z EL W Q S h k n (mkF W.m pc' Ls (.int v :: st))) : Run l R Z EL W Q S h k n (mkF W.m pc Ls (.int x :: st)) := by
  subst hp
  exact Run.one (fun vm0 T locs X _ I t g => XS.i2s X.here C.hx rfl (C.hb hd) rfl (hv ▸ g)) r
theorem lcmp (C : Cx Z W own nm code maxL ret) {x y : Int64} (hd : decode code pc = .ok (.lcmp, 1)) (hp : pc + 1 = pc')
    (r : Run l R Z EL W Q S h k n (mkF W.m pc' Ls (.int (lcmpW x y) :: st))) : Run l R Z EL W Q S h k n (mkF W.m pc Ls (.long y :: .long x :: st)) := by
  subst hp
  exact Run.one (fun vm0 T locs X _ I t g => XS.lcmp X.here C.hx rfl (C.hb hd) rfl g) r
theorem dup (C : Cx Z W own nm code maxL ret) {v : Value} (hd : decode code pc = .ok (.dup, 1)) (hc : v.category = 1) (hp : pc + 1 = pc')
    (r : Run l R Z EL W Q S h k n (mkF W.m pc' Ls (v :: v :: st))) : Run l R Z EL W Q S h k n (mkF W.m pc Ls (v :: st)) := by
  subst hp
  exact Run.one (fun vm0 T locs X _ I t g => XS.dup X.here C.hx rfl (C.hb hd) rfl hc g) r
theorem dupX1 (C : Cx Z W own nm code maxL ret) {v w : Value} (hd : decode code pc = .ok (.dup_x1, 1)) (hc : v.category = 1) (hc' : w.category = 1) (hp : pc + 1 = pc')
    (r : Run l R Z EL W Q S h k n (mkF W.m pc' Ls (v :: w :: v :: st))) : Run l R Z EL W Q S h k n (mkF W.m pc Ls (v :: w :: st)) := by
  subst hp
  exact Run.one (fun vm0 T locs X _ I t g => XS.dupX1 X.here C.hx rfl (C.hb hd) rfl hc hc' g) r
theorem dup2 (C : Cx Z W own nm code maxL ret) {v w : Value} (hd : decode code pc = .ok (.dup2, 1)) (hc : v.category = 1) (hc' : w.category = 1) (hp : pc + 1 = pc')
    (r : Run l R Z EL W Q S h k n (mkF W.m pc' Ls (v :: w :: v :: w :: st))) : Run l R Z EL W Q S h k n (mkF W.m pc Ls (v :: w :: st)) := by
  subst hp
  exact Run.one (fun vm0 T locs X _ I t g => XT.dup2 X.here C.hx rfl (C.hb hd) rfl hc hc' g) r
theorem pop (C : Cx Z W own nm code maxL ret) {v : Value} (hd : decode code pc = .ok (.pop, 1)) (hc : v.category = 1) (hp : pc + 1 = pc')
    (r : Run l R Z EL W Q S h k n (mkF W.m pc' Ls (st))) : Run l R Z EL W Q S h k n (mkF W.m pc Ls (v :: st)) := by
  subst hp
  exact Run.one (fun vm0 T locs X _ I t g => XS.pop X.here C.hx rfl (C.hb hd) rfl hc g) r
theorem swap (C : Cx Z W own nm code maxL ret) {v w : Value} (hd : decode code pc = .ok (.swap, 1)) (hc : v.category = 1) (hc' : w.category = 1) (hp : pc + 1 = pc')
    (r : Run l R Z EL W Q S h k n (mkF W.m pc' Ls (w :: v :: st))) : Run l R Z EL W Q S h k n (mkF W.m pc Ls (v :: w :: st)) := by
  subst hp
  exact Run.one (fun vm0 T locs X _ I t g => XS.swap X.here C.hx rfl (C.hb hd) rfl hc hc' g) r
theorem iinc (C : Cx Z W own nm code maxL ret) {i : Nat} {d : Int} {x v : Int32} {Ls' : Array Slot} (hd : decode code pc = .ok (.iinc i d, 3)) (hl : Ls[i]? = some (.val (.int x))) (hv : x + Int32.ofInt d = v) (hl' : storeLocals Ls i (.int v) = some Ls') (hp : pc + 3 = pc')
    (r : Run l R Z EL W Q S h k n (mkF W.m pc' Ls' st)) : Run l R Z EL W Q S h k n (mkF W.m pc Ls st) := by
  subst hp hv
  exact Run.one (fun vm0 T locs X _ I t g => XS.iinc X.here C.hx rfl (C.hb hd) hl hl' g) r
theorem goto (C : Cx Z W own nm code maxL ret) {o : Int} (hd : decode code pc = .ok (.goto o, 3)) (ho : 0 ≤ (pc : Int) + o) (hp : ((pc : Int) + o).toNat = pc')
    (r : Run l R Z EL W Q S h k n (mkF W.m pc' Ls st)) : Run l R Z EL W Q S h k n (mkF W.m pc Ls st) :=
  Run.one (fun vm0 T locs X _ I t g => XS.goto X.here C.hx rfl rfl (C.hb hd) ho hp g) r
theorem icmp_eq (C : Cx Z W own nm code maxL ret) {x y : Int32} {o : Int} {pcT : Nat} (hd : decode code pc = .ok (.if_icmp .eq o, 3)) (ho : 0 ≤ (pc : Int) + o) (hp : ((pc : Int) + o).toNat = pcT) (hp' : pc + 3 = pc')
    (rt : x = y → Run l R Z EL W Q S h k n (mkF W.m pcT Ls st)) (rf : ¬ x = y → Run l R Z EL W Q S h k n (mkF W.m pc' Ls st)) : Run l R Z EL W Q S h k n (mkF W.m pc Ls (.int y :: .int x :: st)) := by
  subst hp'
  by_cases q : x = y
  · exact Run.one (fun vm0 T locs X _ I t g => XS.icmpYes X.here C.hx rfl rfl (C.hb hd) rfl (teq q).1 ho hp g) (rt q)
  · exact Run.one (fun vm0 T locs X _ I t g => XS.icmpNo X.here C.hx rfl (C.hb hd) rfl (feq q).1 g) (rf q)
theorem if_eq (C : Cx Z W own nm code maxL ret) {x : Int32} {o : Int} {pcT : Nat} (hd : decode code pc = .ok (.ifCond .eq o, 3)) (ho : 0 ≤ (pc : Int) + o) (hp : ((pc : Int) + o).toNat = pcT) (hp' : pc + 3 = pc')
    (rt : x = (0 : Int32) → Run l R Z EL W Q S h k n (mkF W.m pcT Ls st)) (rf : ¬ x = (0 : Int32) → Run l R Z EL W Q S h k n (mkF W.m pc' Ls st)) : Run l R Z EL W Q S h k n (mkF W.m pc Ls (.int x :: st)) := by
  subst hp'
  by_cases q : x = (0 : Int32)
  · exact Run.one (fun vm0 T locs X _ I t g => XS.ifYes X.here C.hx rfl rfl (C.hb hd) rfl ((if0 _ _).trans (teq q).1) ho hp g) (rt q)
  · exact Run.one (fun vm0 T locs X _ I t g => XS.ifNo X.here C.hx rfl (C.hb hd) rfl ((if0 _ _).trans (feq q).1) g) (rf q)
theorem icmp_ne (C : Cx Z W own nm code maxL ret) {x y : Int32} {o : Int} {pcT : Nat} (hd : decode code pc = .ok (.if_icmp .ne o, 3)) (ho : 0 ≤ (pc : Int) + o) (hp : ((pc : Int) + o).toNat = pcT) (hp' : pc + 3 = pc')
    (rt : ¬ x = y → Run l R Z EL W Q S h k n (mkF W.m pcT Ls st)) (rf : x = y → Run l R Z EL W Q S h k n (mkF W.m pc' Ls st)) : Run l R Z EL W Q S h k n (mkF W.m pc Ls (.int y :: .int x :: st)) := by
  subst hp'
  by_cases q : x = y
  · exact Run.one (fun vm0 T locs X _ I t g => XS.icmpNo X.here C.hx rfl (C.hb hd) rfl (teq q).2 g) (rf q)
  · exact Run.one (fun vm0 T locs X _ I t g => XS.icmpYes X.here C.hx rfl rfl (C.hb hd) rfl (feq q).2 ho hp g) (rt q)
theorem if_ne (C : Cx Z W own nm code maxL ret) {x : Int32} {o : Int} {pcT : Nat} (hd : decode code pc = .ok (.ifCond .ne o, 3)) (ho : 0 ≤ (pc : Int) + o) (hp : ((pc : Int) + o).toNat = pcT) (hp' : pc + 3 = pc')
    (rt : ¬ x = (0 : Int32) → Run l R Z EL W Q S h k n (mkF W.m pcT Ls st)) (rf : x = (0 : Int32) → Run l R Z EL W Q S h k n (mkF W.m pc' Ls st)) : Run l R Z EL W Q S h k n (mkF W.m pc Ls (.int x :: st)) := by
  subst hp'
  by_cases q : x = (0 : Int32)
  · exact Run.one (fun vm0 T locs X _ I t g => XS.ifNo X.here C.hx rfl (C.hb hd) rfl ((if0 _ _).trans (teq q).2) g) (rf q)
  · exact Run.one (fun vm0 T locs X _ I t g => XS.ifYes X.here C.hx rfl rfl (C.hb hd) rfl ((if0 _ _).trans (feq q).2) ho hp g) (rt q)
theorem icmp_lt (C : Cx Z W own nm code maxL ret) {x y : Int32} {o : Int} {pcT : Nat} (hd : decode code pc = .ok (.if_icmp .lt o, 3)) (ho : 0 ≤ (pc : Int) + o) (hp : ((pc : Int) + o).toNat = pcT) (hp' : pc + 3 = pc')
    (rt : x < y → Run l R Z EL W Q S h k n (mkF W.m pcT Ls st)) (rf : ¬ x < y → Run l R Z EL W Q S h k n (mkF W.m pc' Ls st)) : Run l R Z EL W Q S h k n (mkF W.m pc Ls (.int y :: .int x :: st)) := by
  subst hp'
  by_cases q : x < y
  · exact Run.one (fun vm0 T locs X _ I t g => XS.icmpYes X.here C.hx rfl rfl (C.hb hd) rfl (tlt q).1 ho hp g) (rt q)
  · exact Run.one (fun vm0 T locs X _ I t g => XS.icmpNo X.here C.hx rfl (C.hb hd) rfl (flt q).1 g) (rf q)
theorem if_lt (C : Cx Z W own nm code maxL ret) {x : Int32} {o : Int} {pcT : Nat} (hd : decode code pc = .ok (.ifCond .lt o, 3)) (ho : 0 ≤ (pc : Int) + o) (hp : ((pc : Int) + o).toNat = pcT) (hp' : pc + 3 = pc')
    (rt : x < (0 : Int32) → Run l R Z EL W Q S h k n (mkF W.m pcT Ls st)) (rf : ¬ x < (0 : Int32) → Run l R Z EL W Q S h k n (mkF W.m pc' Ls st)) : Run l R Z EL W Q S h k n (mkF W.m pc Ls (.int x :: st)) := by
  subst hp'
  by_cases q : x < (0 : Int32)
  · exact Run.one (fun vm0 T locs X _ I t g => XS.ifYes X.here C.hx rfl rfl (C.hb hd) rfl ((if0 _ _).trans (tlt q).1) ho hp g) (rt q)
  · exact Run.one (fun vm0 T locs X _ I t g => XS.ifNo X.here C.hx rfl (C.hb hd) rfl ((if0 _ _).trans (flt q).1) g) (rf q)
theorem icmp_ge (C : Cx Z W own nm code maxL ret) {x y : Int32} {o : Int} {pcT : Nat} (hd : decode code pc = .ok (.if_icmp .ge o, 3)) (ho : 0 ≤ (pc : Int) + o) (hp : ((pc : Int) + o).toNat = pcT) (hp' : pc + 3 = pc')
    (rt : ¬ x < y → Run l R Z EL W Q S h k n (mkF W.m pcT Ls st)) (rf : x < y → Run l R Z EL W Q S h k n (mkF W.m pc' Ls st)) : Run l R Z EL W Q S h k n (mkF W.m pc Ls (.int y :: .int x :: st)) := by
  subst hp'
  by_cases q : x < y
  · exact Run.one (fun vm0 T locs X _ I t g => XS.icmpNo X.here C.hx rfl (C.hb hd) rfl (tlt q).2.1 g) (rf q)
  · exact Run.one (fun vm0 T locs X _ I t g => XS.icmpYes X.here C.hx rfl rfl (C.hb hd) rfl (flt q).2.1 ho hp g) (rt q)
theorem if_ge (C : Cx Z W own nm code maxL ret) {x : Int32} {o : Int} {pcT : Nat} (hd : decode code pc = .ok (.ifCond .ge o, 3)) (ho : 0 ≤ (pc : Int) + o) (hp : ((pc : Int) + o).toNat = pcT) (hp' : pc + 3 = pc')
    (rt : ¬ x < (0 : Int32) → Run l R Z EL W Q S h k n (mkF W.m pcT Ls st)) (rf : x < (0 : Int32) → Run l R Z EL W Q S h k n (mkF W.m pc' Ls st)) : Run l R Z EL W Q S h k n (mkF W.m pc Ls (.int x :: st)) := by
  subst hp'
  by_cases q : x < (0 : Int32)
  · exact Run.one (fun vm0 T locs X _ I t g => XS.ifNo X.here C.hx rfl (C.hb hd) rfl ((if0 _ _).trans (tlt q).2.1) g) (rf q)
  · exact Run.one (fun vm0 T locs X _ I t g => XS.ifYes X.here C.hx rfl rfl (C.hb hd) rfl ((if0 _ _).trans (flt q).2.1) ho hp g) (rt q)
theorem icmp_gt (C : Cx Z W own nm code maxL ret) {x y : Int32} {o : Int} {pcT : Nat} (hd : decode code pc = .ok (.if_icmp .gt o, 3)) (ho : 0 ≤ (pc : Int) + o) (hp : ((pc : Int) + o).toNat = pcT) (hp' : pc + 3 = pc')
    (rt : y < x → Run l R Z EL W Q S h k n (mkF W.m pcT Ls st)) (rf : ¬ y < x → Run l R Z EL W Q S h k n (mkF W.m pc' Ls st)) : Run l R Z EL W Q S h k n (mkF W.m pc Ls (.int y :: .int x :: st)) := by
  subst hp'
  by_cases q : y < x
  · exact Run.one (fun vm0 T locs X _ I t g => XS.icmpYes X.here C.hx rfl rfl (C.hb hd) rfl (tlt q).2.2.1 ho hp g) (rt q)
  · exact Run.one (fun vm0 T locs X _ I t g => XS.icmpNo X.here C.hx rfl (C.hb hd) rfl (flt q).2.2.1 g) (rf q)
theorem if_gt (C : Cx Z W own nm code maxL ret) {x : Int32} {o : Int} {pcT : Nat} (hd : decode code pc = .ok (.ifCond .gt o, 3)) (ho : 0 ≤ (pc : Int) + o) (hp : ((pc : Int) + o).toNat = pcT) (hp' : pc + 3 = pc')
    (rt : (0 : Int32) < x → Run l R Z EL W Q S h k n (mkF W.m pcT Ls st)) (rf : ¬ (0 : Int32) < x → Run l R Z EL W Q S h k n (mkF W.m pc' Ls st)) : Run l R Z EL W Q S h k n (mkF W.m pc Ls (.int x :: st)) := by
  subst hp'
  by_cases q : (0 : Int32) < x
  · exact Run.one (fun vm0 T locs X _ I t g => XS.ifYes X.here C.hx rfl rfl (C.hb hd) rfl ((if0 _ _).trans (tlt q).2.2.1) ho hp g) (rt q)
  · exact Run.one (fun vm0 T locs X _ I t g => XS.ifNo X.here C.hx rfl (C.hb hd) rfl ((if0 _ _).trans (flt q).2.2.1) g) (rf q)
theorem icmp_le (C : Cx Z W own nm code maxL ret) {x y : Int32} {o : Int} {pcT : Nat} (hd : decode code pc = .ok (.if_icmp .le o, 3)) (ho : 0 ≤ (pc : Int) + o) (hp : ((pc : Int) + o).toNat = pcT) (hp' : pc + 3 = pc')
    (rt : ¬ y < x → Run l R Z EL W Q S h k n (mkF W.m pcT Ls st)) (rf : y < x → Run l R Z EL W Q S h k n (mkF W.m pc' Ls st)) : Run l R Z EL W Q S h k n (mkF W.m pc Ls (.int y :: .int x :: st)) := by
  subst hp'
  by_cases q : y < x
  · exact Run.one (fun vm0 T locs X _ I t g => XS.icmpNo X.here C.hx rfl (C.hb hd) rfl (tlt q).2.2.2 g) (rf q)
  · exact Run.one (fun vm0 T locs X _ I t g => XS.icmpYes X.here C.hx rfl rfl (C.hb hd) rfl (flt q).2.2.2 ho hp g) (rt q)
theorem if_le (C : Cx Z W own nm code maxL ret) {x : Int32} {o : Int} {pcT : Nat} (hd : decode code pc = .ok (.ifCond .le o, 3)) (ho : 0 ≤ (pc : Int) + o) (hp : ((pc : Int) + o).toNat = pcT) (hp' : pc + 3 = pc')
    (rt : ¬ (0 : Int32) < x → Run l R Z EL W Q S h k n (mkF W.m pcT Ls st)) (rf : (0 : Int32) < x → Run l R Z EL W Q S h k n (mkF W.m pc' Ls st)) : Run l R Z EL W Q S h k n (mkF W.m pc Ls (.int x :: st)) := by
  subst hp'
  by_cases q : (0 : Int32) < x
  · exact Run.one (fun vm0 T locs X _ I t g => XS.ifNo X.here C.hx rfl (C.hb hd) rfl ((if0 _ _).trans (tlt q).2.2.2) g) (rf q)
  · exact Run.one (fun vm0 T locs X _ I t g => XS.ifYes X.here C.hx rfl rfl (C.hb hd) rfl ((if0 _ _).trans (flt q).2.2.2) ho hp g) (rt q)
theorem ifnullY (C : Cx Z W own nm code maxL ret) {o : Int} (hd : decode code pc = .ok (.ifnull o, 3)) (ho : 0 ≤ (pc : Int) + o) (hp : ((pc : Int) + o).toNat = pc') (r : Run l R Z EL W Q S h k n (mkF W.m pc' Ls st)) : Run l R Z EL W Q S h k n (mkF W.m pc Ls (.null :: st)) :=
  Run.one (fun vm0 T locs X _ I t g => XS.ifnullYes X.here C.hx rfl rfl (C.hb hd) rfl ho hp g) r
theorem ifnullN (C : Cx Z W own nm code maxL ret) {o : Int} {b : Addr} (hd : decode code pc = .ok (.ifnull o, 3)) (hp : pc + 3 = pc') (r : Run l R Z EL W Q S h k n (mkF W.m pc' Ls st)) : Run l R Z EL W Q S h k n (mkF W.m pc Ls (.ref b :: st)) := by
  subst hp
  exact Run.one (fun vm0 T locs X _ I t g => XS.ifnullNo X.here C.hx rfl (C.hb hd) rfl g) r
theorem ifnonnullY (C : Cx Z W own nm code maxL ret) {o : Int} {b : Addr} (hd : decode code pc = .ok (.ifnonnull o, 3)) (ho : 0 ≤ (pc : Int) + o) (hp : ((pc : Int) + o).toNat = pc') (r : Run l R Z EL W Q S h k n (mkF W.m pc' Ls st)) : Run l R Z EL W Q S h k n (mkF W.m pc Ls (.ref b :: st)) :=
  Run.one (fun vm0 T locs X _ I t g => XS.ifnonnullYes X.here C.hx rfl rfl (C.hb hd) rfl ho hp g) r
theorem ifnonnullN (C : Cx Z W own nm code maxL ret) {o : Int} (hd : decode code pc = .ok (.ifnonnull o, 3)) (hp : pc + 3 = pc') (r : Run l R Z EL W Q S h k n (mkF W.m pc' Ls st)) : Run l R Z EL W Q S h k n (mkF W.m pc Ls (.null :: st)) := by
  subst hp
  exact Run.one (fun vm0 T locs X _ I t g => XS.ifnonnullNo X.here C.hx rfl (C.hb hd) rfl g) r
theorem acmp_eq (C : Cx Z W own nm code maxL ret) {o : Int} {x y : Value} {pcT : Nat} (hd : decode code pc = .ok (.if_acmp .eq o, 3)) (hx' : x.isRef = true) (hy' : y.isRef = true) (ho : 0 ≤ (pc : Int) + o) (hp : ((pc : Int) + o).toNat = pcT) (hp' : pc + 3 = pc')
    (rt : x = y → Run l R Z EL W Q S h k n (mkF W.m pcT Ls st)) (rf : ¬ x = y → Run l R Z EL W Q S h k n (mkF W.m pc' Ls st)) : Run l R Z EL W Q S h k n (mkF W.m pc Ls (y :: x :: st)) := by
  subst hp'
  by_cases q : x = y
  · exact Run.one (fun vm0 T locs X _ I t g => XT.acmpYes X.here C.hx rfl rfl (C.hb hd) rfl hx' hy' (XT.aa_eq_t q) ho hp g) (rt q)
  · exact Run.one (fun vm0 T locs X _ I t g => XT.acmpNo X.here C.hx rfl (C.hb hd) rfl hx' hy' (XT.aa_eq_f q) g) (rf q)
theorem acmp_ne (C : Cx Z W own nm code maxL ret) {o : Int} {x y : Value} {pcT : Nat} (hd : decode code pc = .ok (.if_acmp .ne o, 3)) (hx' : x.isRef = true) (hy' : y.isRef = true) (ho : 0 ≤ (pc : Int) + o) (hp : ((pc : Int) + o).toNat = pcT) (hp' : pc + 3 = pc')
    (rt : ¬ x = y → Run l R Z EL W Q S h k n (mkF W.m pcT Ls st)) (rf : x = y → Run l R Z EL W Q S h k n (mkF W.m pc' Ls st)) : Run l R Z EL W Q S h k n (mkF W.m pc Ls (y :: x :: st)) := by
  subst hp'
  by_cases q : x = y
  · exact Run.one (fun vm0 T locs X _ I t g => XT.acmpNo X.here C.hx rfl (C.hb hd) rfl hx' hy' (XT.aa_ne_f q) g) (rf q)
  · exact Run.one (fun vm0 T locs X _ I t g => XT.acmpYes X.here C.hx rfl rfl (C.hb hd) rfl hx' hy' (XT.aa_ne_t q) ho hp g) (rt q)
theorem tswIn (C : Cx Z W own nm code maxL ret) {d lo hi o : Int} {offs : Array Int} {ln : Nat} {i : Int32} (hd : decode code pc = .ok (.tableswitch d lo hi offs, ln)) (hin : ¬ (i.toInt < lo ∨ i.toInt > hi)) (ho : offs[(i.toInt - lo).toNat]? = some o) (h0 : 0 ≤ (pc : Int) + o) (hp : ((pc : Int) + o).toNat = pc')
    (r : Run l R Z EL W Q S h k n (mkF W.m pc' Ls st)) : Run l R Z EL W Q S h k n (mkF W.m pc Ls (.int i :: st)) :=
  Run.one (fun vm0 T locs X _ I t g => XS.tswIn X.here C.hx rfl rfl (C.hb hd) rfl hin ho h0 hp g) r
theorem ldcI (C : Cx Z W own nm code maxL ret) {ix : Nat} {v : Int32} (hd : decode code pc = .ok (.ldc ix, 2)) (w : (Cond.constant own ix v).before a0 Z = true) (hp : pc + 2 = pc') (r : Run l R Z EL W Q S h k n (mkF W.m pc' Ls (.int v :: st))) : Run l R Z EL W Q S h k n (mkF W.m pc Ls st) := by
  subst hp
  exact Run.one (fun vm0 T locs X _ I t g => X.ldcInt C.hx (I.ow C) (mvT I.hZ w) (g := mkF W.m pc Ls st) rfl (C.hb hd) t g) r
theorem ldc2J (C : Cx Z W own nm code maxL ret) {ix : Nat} {v : Int64} (hd : decode code pc = .ok (.ldc2_w ix, 3)) (w : (Cond.constantLong own ix v).before a0 Z = true) (hp : pc + 3 = pc') (r : Run l R Z EL W Q S h k n (mkF W.m pc' Ls (.long v :: st))) : Run l R Z EL W Q S h k n (mkF W.m pc Ls st) := by
  subst hp
  exact Run.one (fun vm0 T locs X _ I t g => X.ldc2Long C.hx (I.ow C) (mvT I.hZ w) (g := mkF W.m pc Ls st) rfl (C.hb hd) t g) r
theorem Run.via {g g' : JFrame} (f : ∀ vm0 T locs, Std l R W vm0 T locs k n → T.heap = h → Inv Z EL W S vm0 h → ∃ T', Std l R W vm0 T' locs k n ∧ T'.heap = h ∧ ∀ t, Steps W.p.tables W.e W.b (T'.setTop g') t → Steps W.p.tables W.e W.b (T.setTop g) t) (r : Run l R Z EL W Q S h k n g') : Run l R Z EL W Q S h k n g :=
  fun vm0 T locs X eT N O I => by
    obtain ⟨T', X', e', s'⟩ := f vm0 T locs X eT I
    exact Go.step s' (r vm0 T' locs X' e' N O I)
theorem getF (C : Cx Z W own nm code maxL ret) {R0 O nmF d : String} {ix : Nat} (hd : decode code pc = .ok (.getfield ix, 3)) (w : (Cond.fieldLink own ix R0 nmF d).before a0 Z = true) (via : Via Z R0 O nmF d) {a : Addr} {v : Value} (F : Fld Z h a O nmF d v) (hp : pc + 3 = pc')
    (r : Run l R Z EL W Q S h k n (mkF W.m pc' Ls (v :: st))) : Run l R Z EL W Q S h k n (mkF W.m pc Ls (.ref a :: st)) := by
  subst hp
  exact Run.via (fun vm0 T locs X eT I => RoadKit.getF X C.hx I.hZ (I.ow C) (host := "") (Or.inl w) via eT F (g := mkF W.m pc Ls (.ref a :: st)) rfl rfl (C.hb hd)) r
theorem getFN (C : Cx Z W own nm code maxL ret) {R0 O nmF d host : String} {ix : Nat} (hd : decode code pc = .ok (.getfield ix, 3)) (w : (Cond.fieldLinkNest own ix R0 nmF d host).before a0 Z = true) (via : Via Z R0 O nmF d) {a : Addr} {v : Value} (F : Fld Z h a O nmF d v) (hp : pc + 3 = pc')
    (r : Run l R Z EL W Q S h k n (mkF W.m pc' Ls (v :: st))) : Run l R Z EL W Q S h k n (mkF W.m pc Ls (.ref a :: st)) := by
  subst hp
  exact Run.via (fun vm0 T locs X eT I => RoadKit.getF X C.hx I.hZ (I.ow C) (Or.inr w) via eT F (g := mkF W.m pc Ls (.ref a :: st)) rfl rfl (C.hb hd)) r
theorem getS (C : Cx Z W own nm code maxL ret) {R0 O nmF d : String} {ix : Nat} (hd : decode code pc = .ok (.getstatic ix, 3)) (w : (Cond.fieldLink own ix R0 nmF d).before a0 Z = true) (via : Via Z R0 O nmF d) {v : Value} (F : Sta Z h O nmF d v) (hp : pc + 3 = pc')
    (r : Run l R Z EL W Q S h k n (mkF W.m pc' Ls (v :: st))) : Run l R Z EL W Q S h k n (mkF W.m pc Ls st) := by
  subst hp
  exact Run.via (fun vm0 T locs X eT I => getS2 X C.hx I.hZ (I.ow C) (host := "") (Or.inl w) via eT F (g := mkF W.m pc Ls st) rfl (C.hb hd)) r
theorem getSN (C : Cx Z W own nm code maxL ret) {R0 O nmF d host : String} {ix : Nat} (hd : decode code pc = .ok (.getstatic ix, 3)) (w : (Cond.fieldLinkNest own ix R0 nmF d host).before a0 Z = true) (via : Via Z R0 O nmF d) {v : Value} (F : Sta Z h O nmF d v) (hp : pc + 3 = pc')
    (r : Run l R Z EL W Q S h k n (mkF W.m pc' Ls (v :: st))) : Run l R Z EL W Q S h k n (mkF W.m pc Ls st) := by
  subst hp
  exact Run.via (fun vm0 T locs X eT I => getS2 X C.hx I.hZ (I.ow C) (Or.inr w) via eT F (g := mkF W.m pc Ls st) rfl (C.hb hd)) r
theorem castY (C : Cx Z W own nm code maxL ret) {K : String} {ix : Nat} (hd : decode code pc = .ok (.checkcast ix, 3)) (w : (Cond.classLink own ix K).before a0 Z = true) {a : Addr} (F : Ins Z h a K true) (hp : pc + 3 = pc')
    (r : Run l R Z EL W Q S h k n (mkF W.m pc' Ls (.ref a :: st))) : Run l R Z EL W Q S h k n (mkF W.m pc Ls (.ref a :: st)) := by
  subst hp
  exact Run.via (fun vm0 T locs X eT I => RoadKit.castY X C.hx I.hZ (I.ow C) w eT F (g := mkF W.m pc Ls (.ref a :: st)) rfl rfl (C.hb hd)) r
theorem instY (C : Cx Z W own nm code maxL ret) {K : String} {ix : Nat} (hd : decode code pc = .ok (.instanceof ix, 3)) (w : (Cond.classLink own ix K).before a0 Z = true) {a : Addr} (F : Ins Z h a K true) (hp : pc + 3 = pc')
    (r : Run l R Z EL W Q S h k n (mkF W.m pc' Ls (.int 1 :: st))) : Run l R Z EL W Q S h k n (mkF W.m pc Ls (.ref a :: st)) := by
  subst hp
  exact Run.via (fun vm0 T locs X eT I => RoadKit.instY X C.hx I.hZ (I.ow C) w eT F (g := mkF W.m pc Ls (.ref a :: st)) rfl rfl (C.hb hd)) r
theorem instNull (C : Cx Z W own nm code maxL ret) {ix : Nat} (hd : decode code pc = .ok (.instanceof ix, 3)) (hp : pc + 3 = pc')
    (r : Run l R Z EL W Q S h k n (mkF W.m pc' Ls (.int 0 :: st))) : Run l R Z EL W Q S h k n (mkF W.m pc Ls (.null :: st)) := by
  subst hp
  exact Run.one (fun vm0 T locs X eT I t g => X.instanceofNull C.hx (g := mkF W.m pc Ls (.null :: st)) rfl rfl (C.hb hd) t g) r
theorem castNull (C : Cx Z W own nm code maxL ret) {ix : Nat} (hd : decode code pc = .ok (.checkcast ix, 3)) (hp : pc + 3 = pc')
    (r : Run l R Z EL W Q S h k n (mkF W.m pc' Ls (.null :: st))) : Run l R Z EL W Q S h k n (mkF W.m pc Ls (.null :: st)) := by
  subst hp
  exact Run.one (fun vm0 T locs X eT I t g => X.checkcastNull C.hx (g := mkF W.m pc Ls (.null :: st)) rfl rfl (C.hb hd) t g) r
theorem alen (C : Cx Z W own nm code maxL ret) (hd : decode code pc = .ok (.arraylength, 1)) {a : Addr} {ty : FieldType} {vs : List Value} {z : Int32} (F : Ary Z h a ty vs) (hz : Int32.ofNat vs.length = z) (hp : pc + 1 = pc')
    (r : Run l R Z EL W Q S h k n (mkF W.m pc' Ls (.int z :: st))) : Run l R Z EL W Q S h k n (mkF W.m pc Ls (.ref a :: st)) := by
  subst hp hz
  obtain ⟨c, A, e, -⟩ := F
  have e2 : c.slots.size.toInt32 = Int32.ofNat vs.length := by rw [e]; simp
  exact Run.one (fun vm0 T locs X eT I t g => X.arraylength C.hx (by rw [eT]; exact A.1) (State.isArrayOf_alike I.hZ.alike A.2.1) (g := mkF W.m pc Ls (.ref a :: st)) rfl rfl (C.hb hd) t (by rw [e2]; exact g)) r
theorem caload (C : Cx Z W own nm code maxL ret) (hd : decode code pc = .ok (.caload, 1)) {a : Addr} {vs : List Value} {j : Int32} {v : Value} (F : Ary Z h a .char vs) (h0 : ¬ j < 0) (hv : vs[j.toNatClampNeg]? = some v) (hp : pc + 1 = pc')
    (r : Run l R Z EL W Q S h k n (mkF W.m pc' Ls (v :: st))) : Run l R Z EL W Q S h k n (mkF W.m pc Ls (.int j :: .ref a :: st)) := by
  subst hp
  obtain ⟨c, A, e, -⟩ := F
  have h1 : j.toNatClampNeg < vs.length := (List.getElem?_eq_some_iff.mp hv).1
  exact Run.one (fun vm0 T locs X eT I t g => X.caload C.hx (by rw [eT]; exact A.1) (State.isArrayOf_alike I.hZ.alike A.2.1) A.2.2 (Ary.inb (a := a) (ty := .char) e h0 h1) (by rw [e]; simpa using hv) (g := mkF W.m pc Ls (.int j :: .ref a :: st)) rfl rfl (C.hb hd) t g) r
theorem iaload (C : Cx Z W own nm code maxL ret) (hd : decode code pc = .ok (.iaload, 1)) {a : Addr} {vs : List Value} {j : Int32} {v : Value} (F : Ary Z h a .int vs) (h0 : ¬ j < 0) (hv : vs[j.toNatClampNeg]? = some v) (hp : pc + 1 = pc')
    (r : Run l R Z EL W Q S h k n (mkF W.m pc' Ls (v :: st))) : Run l R Z EL W Q S h k n (mkF W.m pc Ls (.int j :: .ref a :: st)) := by
  subst hp
  obtain ⟨c, A, e, -⟩ := F
  have h1 : j.toNatClampNeg < vs.length := (List.getElem?_eq_some_iff.mp hv).1
  exact Run.one (fun vm0 T locs X eT I t g => X.iaload C.hx (by rw [eT]; exact A.1) (State.isArrayOf_alike I.hZ.alike A.2.1) A.2.2 (Ary.inb (a := a) (ty := .int) e h0 h1) (by rw [e]; simpa using hv) (g := mkF W.m pc Ls (.int j :: .ref a :: st)) rfl rfl (C.hb hd) t g) r
theorem baload (C : Cx Z W own nm code maxL ret) (hd : decode code pc = .ok (.baload, 1)) {a : Addr} {vs : List Value} {j : Int32} {v : Value} (F : Ary Z h a .byte vs) (h0 : ¬ j < 0) (hv : vs[j.toNatClampNeg]? = some v) (hp : pc + 1 = pc')
    (r : Run l R Z EL W Q S h k n (mkF W.m pc' Ls (v :: st))) : Run l R Z EL W Q S h k n (mkF W.m pc Ls (.int j :: .ref a :: st)) := by
  subst hp
  obtain ⟨c, A, e, -⟩ := F
  have h1 : j.toNatClampNeg < vs.length := (List.getElem?_eq_some_iff.mp hv).1
  exact Run.one (fun vm0 T locs X eT I t g => X.baloadBytes C.hx (by rw [eT]; exact A.1) (State.isArrayOf_alike I.hZ.alike A.2.1) A.2.2 (Ary.inb (a := a) (ty := .byte) e h0 h1) (by rw [e]; simpa using hv) (g := mkF W.m pc Ls (.int j :: .ref a :: st)) rfl rfl (C.hb hd) t g) r
theorem saload (C : Cx Z W own nm code maxL ret) (hd : decode code pc = .ok (.saload, 1)) {a : Addr} {vs : List Value} {j : Int32} {v : Value} (F : Ary Z h a .short vs) (h0 : ¬ j < 0) (hv : vs[j.toNatClampNeg]? = some v) (hp : pc + 1 = pc')
    (r : Run l R Z EL W Q S h k n (mkF W.m pc' Ls (v :: st))) : Run l R Z EL W Q S h k n (mkF W.m pc Ls (.int j :: .ref a :: st)) := by
  subst hp
  obtain ⟨c, A, e, -⟩ := F
  have h1 : j.toNatClampNeg < vs.length := (List.getElem?_eq_some_iff.mp hv).1
  exact Run.one (fun vm0 T locs X eT I t g => X.saload C.hx (by rw [eT]; exact A.1) (State.isArrayOf_alike I.hZ.alike A.2.1) A.2.2 (Ary.inb (a := a) (ty := .short) e h0 h1) (by rw [e]; simpa using hv) (g := mkF W.m pc Ls (.int j :: .ref a :: st)) rfl rfl (C.hb hd) t g) r
theorem laload (C : Cx Z W own nm code maxL ret) (hd : decode code pc = .ok (.laload, 1)) {a : Addr} {vs : List Value} {j : Int32} {v : Value} (F : Ary Z h a .long vs) (h0 : ¬ j < 0) (hv : vs[j.toNatClampNeg]? = some v) (hp : pc + 1 = pc')
    (r : Run l R Z EL W Q S h k n (mkF W.m pc' Ls (v :: st))) : Run l R Z EL W Q S h k n (mkF W.m pc Ls (.int j :: .ref a :: st)) := by
  subst hp
  obtain ⟨c, A, e, -⟩ := F
  have h1 : j.toNatClampNeg < vs.length := (List.getElem?_eq_some_iff.mp hv).1
  exact Run.one (fun vm0 T locs X eT I t g => X.laload C.hx (by rw [eT]; exact A.1) (State.isArrayOf_alike I.hZ.alike A.2.1) A.2.2 (Ary.inb (a := a) (ty := .long) e h0 h1) (by rw [e]; simpa using hv) (g := mkF W.m pc Ls (.int j :: .ref a :: st)) rfl rfl (C.hb hd) t g) r
theorem aaload (C : Cx Z W own nm code maxL ret) (hd : decode code pc = .ok (.aaload, 1)) {a : Addr} {ty : FieldType} {vs : List Value} {j : Int32} {v : Value} (F : Ary Z h a ty vs) (ht : ty.isReference = true) (h0 : ¬ j < 0) (hv : vs[j.toNatClampNeg]? = some v) (hp : pc + 1 = pc')
    (r : Run l R Z EL W Q S h k n (mkF W.m pc' Ls (v :: st))) : Run l R Z EL W Q S h k n (mkF W.m pc Ls (.int j :: .ref a :: st)) := by
  subst hp
  obtain ⟨c, A, e, -⟩ := F
  have h1 : j.toNatClampNeg < vs.length := (List.getElem?_eq_some_iff.mp hv).1
  exact Run.one (fun vm0 T locs X eT I t g => X.aaload C.hx (by rw [eT]; exact A.1) (State.isArrayOf_alike I.hZ.alike A.2.1) ht A.2.2 (Ary.inb (a := a) (ty := ty) e h0 h1) (by rw [e]; simpa using hv) (g := mkF W.m pc Ls (.int j :: .ref a :: st)) rfl rfl (C.hb hd) t g) r
theorem Run.wrote {a : Addr} {sl : Nat} {v : Value} {g g' : JFrame} (ha : Z.heap.size ≤ a) (hs : a ∈ S) (f : ∀ vm0 T locs, Std l R W vm0 T locs k n → T.heap = h → Inv Z EL W S vm0 h → ∃ T' h', Std l R W vm0 T' (locs ++ [⟨a, sl⟩]) k n ∧ T'.heap = h' ∧ Wr h h' a sl v ∧ ∀ t, Steps W.p.tables W.e W.b (T'.setTop g') t → Steps W.p.tables W.e W.b (T.setTop g) t)
    (r : ∀ h', Wr h h' a sl v → Ext Z.heap h' → Run l R Z EL W Q S h' k n g') : Run l R Z EL W Q S h k n g := fun vm0 T locs X eT N O I => by
  obtain ⟨T', h', X', e', w', s'⟩ := f vm0 T locs X eT I
  have O' : Ext Z.heap h' := ((old_of O).wr w' ha).2
  exact Go.step s' (r h' w' O' vm0 T' _ X' e' (Fr.snoc X' N ha) O' (I.keep (Keep.of_wr w') fun x hx => by cases List.mem_singleton.mp hx; exact hs))
theorem putF (C : Cx Z W own nm code maxL ret) {R0 O nmF d K : String} {ix kk : Nat} {ty : FieldType} (hd : decode code pc = .ok (.putfield ix, 3)) (w : (Cond.fieldLink own ix R0 nmF d).before a0 Z = true) (via : Via Z R0 O nmF d) {a : Addr} {v old : Value} (F : Fld Z h a O nmF d old) (E : Exa Z h a K)
    (L : (Cond.lays K O nmF d).before a0 Z = true ∨ ((Cond.laysFinal K O nmF d).before a0 Z = true ∧ own = O ∧ nm = "<init>")) (wi : (Cond.instantiable K kk).before a0 Z = true) (hty : parseFieldDescriptor d = some ty) (hn : narrow ty v = v) (hf : fits ty v = true) (ha : Z.heap.size ≤ a) (hs' : a ∈ S) (hp : pc + 3 = pc')
    (r : ∀ h', Wr h h' a (RoadKit.slotOf Z O nmF d) v → Ext Z.heap h' → Run l R Z EL W Q S h' k n (mkF W.m pc' Ls st)) : Run l R Z EL W Q S h k n (mkF W.m pc Ls (v :: .ref a :: st)) := by
  subst hp
  exact Run.wrote ha hs' (fun vm0 T locs X eT I => RoadKit.putF X C.hx I.hZ (I.ow C) (host := "") (Or.inl w) via eT F E (L.imp id fun q => ⟨q.1, q.2.1, C.nme.trans q.2.2⟩) wi hty hn hf (g := mkF W.m pc Ls (v :: .ref a :: st)) rfl rfl (C.hb hd)) r
theorem castore (C : Cx Z W own nm code maxL ret) (hd : decode code pc = .ok (.castore, 1)) {a : Addr} {vs vs' : List Value} {j x : Int32} (F : Ary Z h a .char vs) (h0 : ¬ j < 0) (h1 : j.toNatClampNeg < vs.length) (hx : nar .char x = x) (hs : vs.set j.toNatClampNeg (.int x) = vs') (ha : Z.heap.size ≤ a) (hs' : a ∈ S) (hp : pc + 1 = pc')
    (r : ∀ h', Wr h h' a j.toNatClampNeg (.int x) → Ary Z h' a .char vs' → Ext Z.heap h' → Run l R Z EL W Q S h' k n (mkF W.m pc' Ls st)) : Run l R Z EL W Q S h k n (mkF W.m pc Ls (.int x :: .int j :: .ref a :: st)) := by
  subst hp hs
  have F' := F
  obtain ⟨c, A, e, -⟩ := F'
  exact Run.wrote ha hs' (fun vm0 T locs X eT I => by have w0 := RoadKit.stC X C.hx I.hZ eT A (Ary.inb (a := a) (ty := .char) e h0 h1) (g := mkF W.m pc Ls (.int x :: .int j :: .ref a :: st)) rfl rfl (C.hb hd); rw [hx] at w0; exact w0) (fun h' w' O' => r h' w' (F.set w' (hx ▸ fits_nar_char x)) O')
theorem bastore (C : Cx Z W own nm code maxL ret) (hd : decode code pc = .ok (.bastore, 1)) {a : Addr} {vs vs' : List Value} {j x : Int32} (F : Ary Z h a .byte vs) (h0 : ¬ j < 0) (h1 : j.toNatClampNeg < vs.length) (hs : vs.set j.toNatClampNeg (.int (nar .byte x)) = vs') (ha : Z.heap.size ≤ a) (hs' : a ∈ S) (hp : pc + 1 = pc')
    (r : ∀ h', Wr h h' a j.toNatClampNeg (.int (nar .byte x)) → Ary Z h' a .byte vs' → Ext Z.heap h' → Run l R Z EL W Q S h' k n (mkF W.m pc' Ls st)) : Run l R Z EL W Q S h k n (mkF W.m pc Ls (.int x :: .int j :: .ref a :: st)) := by
  subst hp hs
  have F' := F
  obtain ⟨c, A, e, -⟩ := F'
  exact Run.wrote ha hs' (fun vm0 T locs X eT I => by have w0 := RoadKit.stB X C.hx I.hZ eT A (Ary.inb (a := a) (ty := .byte) e h0 h1) (g := mkF W.m pc Ls (.int x :: .int j :: .ref a :: st)) rfl rfl (C.hb hd); exact w0) (fun h' w' O' => r h' w' (F.set w' (fits_nar_byte x)) O')
theorem iastore (C : Cx Z W own nm code maxL ret) (hd : decode code pc = .ok (.iastore, 1)) {a : Addr} {vs vs' : List Value} {j x : Int32} (F : Ary Z h a .int vs) (h0 : ¬ j < 0) (h1 : j.toNatClampNeg < vs.length) (hs : vs.set j.toNatClampNeg (.int x) = vs') (ha : Z.heap.size ≤ a) (hs' : a ∈ S) (hp : pc + 1 = pc')
    (r : ∀ h', Wr h h' a j.toNatClampNeg (.int x) → Ary Z h' a .int vs' → Ext Z.heap h' → Run l R Z EL W Q S h' k n (mkF W.m pc' Ls st)) : Run l R Z EL W Q S h k n (mkF W.m pc Ls (.int x :: .int j :: .ref a :: st)) := by
  subst hp hs
  have F' := F
  obtain ⟨c, A, e, -⟩ := F'
  exact Run.wrote ha hs' (fun vm0 T locs X eT I => by have w0 := RoadKit.stI X C.hx I.hZ eT A (Ary.inb (a := a) (ty := .int) e h0 h1) (g := mkF W.m pc Ls (.int x :: .int j :: .ref a :: st)) rfl rfl (C.hb hd); exact w0) (fun h' w' O' => r h' w' (F.set w' rfl) O')
theorem aastore (C : Cx Z W own nm code maxL ret) (hd : decode code pc = .ok (.aastore, 1)) {a : Addr} {ty : FieldType} {vs vs' : List Value} {j : Int32} {v : Value} (F : Ary Z h a ty vs) (h0 : ¬ j < 0) (h1 : j.toNatClampNeg < vs.length) (ht : ty.isReference = true) (So : Sto Z h a v) (hf : fits ty v = true) (hs : vs.set j.toNatClampNeg v = vs') (ha : Z.heap.size ≤ a) (hs' : a ∈ S) (hp : pc + 1 = pc')
    (r : ∀ h', Wr h h' a j.toNatClampNeg v → Ary Z h' a ty vs' → Ext Z.heap h' → Run l R Z EL W Q S h' k n (mkF W.m pc' Ls st)) : Run l R Z EL W Q S h k n (mkF W.m pc Ls (v :: .int j :: .ref a :: st)) := by
  subst hp hs
  have F' := F
  obtain ⟨c, A, e, -⟩ := F'
  exact Run.wrote ha hs' (fun vm0 T locs X eT I => stR X C.hx I.hZ eT A (Ary.inb (a := a) (ty := ty) e h0 h1) ht So (g := mkF W.m pc Ls (v :: .int j :: .ref a :: st)) rfl rfl (C.hb hd)) (fun h' w' O' => r h' w' (F.set w' hf) O')
theorem newO (C : Cx Z W own nm code maxL ret) {K : String} {ix sl k' n' : Nat} (hd : decode code pc = .ok (.new ix, 3)) (w : (Cond.classLink own ix K).before a0 Z = true) (wi : (Cond.instantiable K sl).before a0 Z = true) (wz : (Cond.initialized K).before a0 Z = true) (hc : k + 1 = k') (hl : n + sl = n') (hc' : k' ≤ R.cells) (hl' : n' ≤ R.slots) (hp : pc + 3 = pc')
    (r : ∀ a h', a = h.size → Z.heap.size ≤ a → Ext h h' → Exa Z h' a K → Fresh Z a0 h' a K → Unt h' a → Ext Z.heap h' → Run l R Z EL W Q (a :: S) h' k' n' (mkF W.m pc' Ls (.ref a :: st))) : Run l R Z EL W Q S h k n (mkF W.m pc Ls st) := by
  subst hp hc hl
  intro vm0 T locs X eT N O I
  obtain ⟨T', h', X', e', E', A', D', U', s'⟩ := RoadKit.newO X C.hx I.hZ (I.ow C) w wi wz eT (g := mkF W.m pc Ls st) rfl (C.hb hd) hc' hl'
  have O' : Ext Z.heap h' := ((old_of O).ext E').2
  exact Go.step s' (r h.size h' rfl O.1 E' A' D' U' O' vm0 T' locs X' e' N O' (I.fresh E' A'.lt))
theorem newA (C : Cx Z W own nm code maxL ret) {aty : ArrayType} {ty : FieldType} {z : Int32} {k' n' cap : Nat} (hd : decode code pc = .ok (.newarray aty, 2)) (ht : newarray.typeOf aty = ty) (w : (Cond.arrayClass ty).before a0 Z = true) (hz : ¬ z < 0) (hcap : z.toNatClampNeg ≤ cap) (hb : cap * 8 ≤ 536870912) (hc : k + 1 = k') (hl : n + cap = n') (hc' : k' ≤ R.cells) (hl' : n' ≤ R.slots) (hdf : fits ty (defaultValue ty) = true) (hp : pc + 2 = pc')
    (r : ∀ a h', a = h.size → Z.heap.size ≤ a → Ext h h' → Ary Z h' a ty (List.replicate z.toNatClampNeg (defaultValue ty)) → Ext Z.heap h' → Run l R Z EL W Q (a :: S) h' k' n' (mkF W.m pc' Ls (.ref a :: st))) : Run l R Z EL W Q S h k n (mkF W.m pc Ls (.int z :: st)) := by
  subst hp hc hl ht
  intro vm0 T locs X eT N O I
  obtain ⟨T', h', cA, X', e', E', A', s'⟩ := newP X C.hx I.hZ w eT (g := mkF W.m pc Ls (.int z :: st)) rfl (C.hb hd) rfl hz hcap hb hc' hl'
  have O' : Ext Z.heap h' := ((old_of O).ext E').2
  have hz2 : z.toNatClampNeg < 2 ^ 31 := (back32 hz).2
  refine Go.step s' (r h.size h' rfl O.1 E' ⟨_, A', ?_, by simpa using hz2, fun v hv => ?_⟩ O' vm0 T' locs X' e' N O' (I.fresh E' A'.lt))
  · show Array.replicate _ _ = _
    simp
  · rw [(List.mem_replicate.mp hv).2]; exact hdf
theorem initO (C : Cx Z W own nm code maxL ret) {ix Wn : Nat} (hd : decode code pc = .ok (.invokespecial ix, 3)) (w1 : (Cond.methodLink own ix Lib.objectInit).before a0 Z = true) (w2 : (Cond.instanceMethod Lib.objectInit).before a0 Z = true) (w3 : (Cond.code Lib.objectInit ⟨#[0xb1]⟩ 1 none).before a0 Z = true) {a : Addr} (hsz : Ls.size = maxL) (hf : 1 ≤ R.frames) (hW : (st.map fun v => v.category).sum ≤ Wn) (hl : Wn + 12 ≤ R.locals) (hp : pc + 3 = pc')
    (r : Run l R Z EL W Q S h k n (mkF W.m pc' Ls st)) : Run l R Z EL W Q S h k n (mkF W.m pc Ls (.ref a :: st)) := by
  subst hp
  exact Run.via (fun vm0 T locs X eT I => RoadKit.initO X C.hx I.hZ (I.ow C) w1 w2 w3 eT (g := mkF W.m pc Ls (.ref a :: st)) rfl (hsz.trans C.ml.symm) rfl (C.hb hd) hf (W := Wn) (by show 2 * 0 + _ ≤ _; omega) hl) r
/-- a String constant -/
theorem ldcS (C : Cx Z W own nm code maxL ret) {ix k' n' nb : Nat} {text : String} {vs : List Value} {z : Int32} (hd : decode code pc = .ok (.ldc ix, 2)) (w : (Cond.stringLink own ix text).before a0 Z = true) (wS : ∀ a ∈ Bundle.stringAtoms, a.before a0 Z = true) (hE : EW Z a0 EL) (hm : (own, ix) ∈ EL) (ht : (∀ c ∈ text.toList, c.toNat < 256) ∧ text.toList.map (fun c => Value.int (Jvm.Lit.byteI c.toNat.toUInt16)) = vs) (hz : ¬ z < 0) (hl : z.toNatClampNeg = vs.length)
    (hn : 4 * text.toList.length ≤ nb) (hb : nb ≤ 536870912) (hk : k + 2 = k') (hn' : n + (nb + 4) = n') (hc : k' ≤ R.cells) (hl' : n' ≤ R.slots) (hp : pc + 2 = pc')
    (r : ∀ a b h', Ext h h' → Exa Z h' a "java/lang/String" → Fld Z h' a "java/lang/String" "coder" "B" (.int 0) → Fld Z h' a "java/lang/String" "value" "[B" (.ref b) → Ary Z h' b .byte vs → (∀ x ∈ S, x ≠ a ∧ x ≠ b) → Ext Z.heap h' → Run l R Z EL W Q S h' k' n' (mkF W.m pc' Ls (.ref a :: st))) : Run l R Z EL W Q S h k n (mkF W.m pc Ls st) := by
  subst hp hk hn'
  intro vm0 T locs X eT N O I
  have I0 := I
  obtain ⟨⟨k0, hS, hk0⟩, hZ, hr, hs⟩ := I
  obtain ⟨a, T', h', k1, b, kc, X', e', E', hS', hk1, hZ', -, A', Cd', V', F', -, -, CH', -, ne', s'⟩ := ldcCH X C.hx hZ (I0.ow C) w wS eT hS hk0 hE hm hr.1 ht hz hl (g := mkF W.m pc Ls st) rfl (C.hb hd) hn hb hc hl'
  have O' : Ext Z.heap h' := ((old_of O).ext E').2
  have I' : Inv Z EL W S T'.vm h' := ⟨⟨k1, hS', hk1⟩, hZ', hr.trans CH', fun x hx => ⟨Nat.lt_of_lt_of_le (hs x hx).1 E'.1, CH'.safe (hs x hx).1 (hs x hx).2⟩⟩
  exact Go.step s' (r a b h' E' A' Cd' V' (Ary.of_arv F' hl) (fun x hx => ne' x (I'.2.2.2 x hx).2) O' T'.vm T' locs X' e' N O' I')
/-- a String constant of which nothing is said -/
theorem ldcS0 (C : Cx Z W own nm code maxL ret) {ix k' n' nb : Nat} {text : String} (hd : decode code pc = .ok (.ldc ix, 2)) (w : (Cond.stringLink own ix text).before a0 Z = true) (wS : ∀ a ∈ Bundle.stringAtoms, a.before a0 Z = true) (hEL : EL = [])
    (hn : 4 * text.toList.length ≤ nb) (hb : nb ≤ 536870912) (hk : k + 2 = k') (hn' : n + (nb + 4) = n') (hc : k' ≤ R.cells) (hl' : n' ≤ R.slots) (hp : pc + 2 = pc')
    (r : ∀ a h', Ext h h' → Ext Z.heap h' → Run l R Z EL W Q S h' k' n' (mkF W.m pc' Ls (.ref a :: st))) : Run l R Z EL W Q S h k n (mkF W.m pc Ls st) := by
  subst hp hk hn' hEL
  intro vm0 T locs X eT N O I
  have I0 := I
  obtain ⟨⟨k0, hS, hk0⟩, hZ, hr, hs⟩ := I
  obtain ⟨a, T', h', k1, X', e', E', hS', hk1, hZ', -, s'⟩ := Jvm.RoadKit.ldcS X C.hx hZ (I0.ow C) w wS eT hS hk0 (g := mkF W.m pc Ls st) rfl (C.hb hd) hn hb hc hl'
  have O' : Ext Z.heap h' := ((old_of O).ext E').2
  have I' : Inv Z [] W S T'.vm h' := ⟨⟨k1, hS', hk1⟩, hZ', ⟨(fun p hp => nomatch hp), Nat.le_trans hr.2.1 E'.1, fun y q => by obtain ⟨p, hp, -⟩ := q; cases hp⟩, fun x hx => ⟨Nat.lt_of_lt_of_le (hs x hx).1 E'.1, fun q => by obtain ⟨p, hp, -⟩ := q; cases hp⟩⟩
  exact Go.step s' (r a h' E' O' T'.vm T' locs X' e' N O' I')
/-! ## contracts and calls -/
def Con (l : Launch) (Z : State) (EL : List (String × Nat)) (y : MethodName) (bytes : ByteArray) (maxL : Nat) (ret : Option FieldType) (rm : Room) (as' : Array Value) (h0 : Heap) (Q : Post) : Prop :=
  ∀ ws, MetFree l y (head1 (Jvm.Cond.code y bytes maxL ret :: ws) rm) (fun a U => a = as' ∧ Z.Warmed39 U.vm ∧ U.heap = h0 ∧ CHv Z EL U.vm h0) (fun _ _ _ _ _ => True) (fun _ U o U' => ∃ v L, o = .returned v ∧ (Q v U'.heap ∧ Ext Z.heap U'.heap ∧ Fr Z.heap.size L) ∧ CHr Z EL U.vm U.heap U'.vm U'.heap ∧ ReturnedEndW U o U' L rm.cells rm.slots)
theorem Con.intro {y : MethodName} {bytes : ByteArray} {rm : Room} {as' : Array Value} {Ls0 : Array Slot} (hy : plainFor y = true) (O : Ext Z.heap h) (he : ∀ m, entryFrame m as' maxL = mkF m 0 Ls0 [])
    (body : ∀ W : Wd, Cx Z W y.cls y.name bytes maxL ret → Run l rm Z EL W Q [] h 0 0 (mkF W.m 0 Ls0 [])) : Con l Z EL y bytes maxL ret rm as' h Q := by
  intro ws
  refine MetFree.of_bodySF hy hisR ?_
  intro p e s m args below meth c s₁ Bd hml0 hP hK
  obtain ⟨rfl, hZ, hh, hCH⟩ := hP
  have e0 : s₁.heap = h := by rw [← hh, Bd.state]; rfl
  have X0 : Stand p l e rm s m args below meth c s₁ [] 0 0 := Stand.of_body Bd
  have I0 : Inv Z EL (p, e, s, m, args, below, meth, c) [] s.vm h := ⟨⟨h.size, (State.WarmedH.refl s).since _, Nat.le_refl _⟩, hZ, by rw [← hh] at hCH ⊢; exact CHr.refl hCH, fun _ q => nomatch q⟩
  have r := body (p, e, s, m, args, below, meth, c) ⟨Bd.exec, Bd.bytes, hml0, findClass_of_methodNamed Bd.named, hZ, Bd.returns, (name_of_methodNamed Bd.named Bd.method).1, Bd.notSynchronized⟩ s.vm s₁ [] X0 e0 (Fr.nil _) O I0
  rw [he m]
  exact r
section Calls
variable {y : MethodName} {bytes : ByteArray} {mxL : Nat} {rt : Option FieldType} {rm : Room} {Qc : Post} {argsL : List Value} {as' : Array Value} {ix Wn k' n' kc nc : Nat} {st' : List Value}
/-- how a narrow callee leaves the heap -/
def Car (S : List Addr) (h h' : Heap) : Prop := h' = h ∨ Ext h h' ∨ ∃ a ∈ S, Keep h h' [a]
theorem Inv.car {vm0 : Vm} {h' : Heap} (I : Inv Z EL W S vm0 h) (c : Car S h h') : Inv Z EL W S vm0 h' := by
  rcases c with rfl | E | ⟨a, ha, K⟩
  · exact I
  · exact I.ext E
  · exact I.keep K fun x hx => by cases List.mem_singleton.mp hx; exact ha
abbrev PaysS (l : Launch) (R : Room) (Z : State) (EL : List (String × Nat)) (W : Wd) (vm0 : Vm) (y : MethodName) (ln Wn : Nat) (as' : Array Value) (h : Heap) (kc nc : Nat) (Qv : Option Value → Heap → List Loc → Prop) : Prop :=
  BackS l R W.p W.e W.b (W.s.setVm vm0) W.a y ln Wn (fun P a => a = as' ∧ P.U.heap = h ∧ P.cells + kc ≤ R.cells ∧ P.slots + nc ≤ R.slots) (fun P _ v B => ∃ L, Qv v B.U.heap L ∧ B.locs = P.locs ++ L ∧ B.cells = P.cells + kc ∧ B.slots = P.slots + nc ∧ CHr Z EL vm0 h B.U.vm B.U.heap)
theorem Con.pays {ln : Nat} (hE : EW Z a0 EL) (K : Con l Z EL y bytes mxL rt rm as' h Qc) (w4 : (Cond.code y bytes mxL rt).before a0 Z = true) (wz : (Cond.initialized y.cls).before a0 Z = true) (hf : rm.frames + 1 ≤ R.frames) (hl : Wn + (mxL + 11) + rm.locals ≤ R.locals) : ∀ vm0, Inv Z EL W S vm0 h →
    PaysS l R Z EL W vm0 y ln Wn as' h rm.cells rm.slots (fun v h' L => Qc v h' ∧ Ext Z.heap h' ∧ Fr Z.heap.size L) := fun vm0 I => backOfSH (W := Wn) (Q := fun v h' L => Qc v h' ∧ Ext Z.heap h' ∧ Fr Z.heap.size L) (K []) I.2.1 w4 wz hf hl hE I.ch
theorem Inv.back {vm0 vm1 : Vm} {h1 : Heap} (I : Inv Z EL W S vm0 h) (hS : (W.s.setVm vm0).Since vm1 h1.size) (hg : h.size ≤ h1.size) (hr : CHr Z EL vm0 h vm1 h1) : Inv Z EL W S vm1 h1 := by
  obtain ⟨⟨k0, hS0, hk⟩, hZ, hr0, hs⟩ := I
  exact ⟨⟨h1.size, hS0.trans hS (Nat.le_trans hk hg), Nat.le_refl _⟩, State.Warmed39.trans (t := W.s.setVm vm0) hZ hS.1, hr0.trans hr, fun x hx => ⟨Nat.lt_of_lt_of_le (hs x hx).1 hg, hr.safe (hs x hx).1 (hs x hx).2⟩⟩
theorem callS (C : Cx Z W own nm code maxL ret) (hd : decode code pc = .ok (.invokestatic ix, 3)) {Qv : Option Value → Heap → List Loc → Prop} (K : ∀ vm0, Cx Z (At W vm0) own nm code maxL ret → Wk.Pays l R (At W vm0) y 3 Wn as' h kc nc Qv) (hQ : Clean Z Qc Qv) (hcar : ∀ v h', Qc v h' → Car S h h') (w1 : (Cond.methodLink own ix y).before a0 Z = true) (w2 : (Cond.static y).before a0 Z = true) (w3 : (Cond.initialized y.cls).before a0 Z = true) (w4 : (Cond.code y bytes mxL rt).before a0 Z = true) (hy : y.cls ≠ "java/lang/invoke/MethodHandle" ∧ y.cls ≠ "java/lang/invoke/VarHandle")
    (has : argsL.toArray = as') (hst : argsL.reverse ++ st = st') (hlen : ∀ sig, parseMethodDescriptor y.desc = some sig → argsL.length = sig.parameters.length) (hsz : Ls.size = maxL) (hW : (st.map fun v => v.category).sum ≤ Wn) (hk : k + kc = k') (hn : n + nc = n') (hk' : k' ≤ R.cells) (hn' : n' ≤ R.slots) (hp : pc + 3 = pc')
    (r : ∀ v h', Qc v h' → Ext Z.heap h' → Run l R Z EL W Q S h' k' n' (mkF W.m pc' Ls (v.toList ++ st))) : Run l R Z EL W Q S h k n (mkF W.m pc Ls st') := by
  subst hp hk hn has hst
  intro vm0 T locs X eT N O I
  obtain ⟨v, vm₁, ⟨T', L', k', n'⟩, -, X', ⟨L, q0, l1, y1, z1⟩, s'⟩ := Jvm.LawKit.callS X C.hx (y := y) (I.ow C) (mvT I.hZ w1) (mvT I.hZ w2) (mvT I.hZ w3) (mvT I.hZ w4) hy (K vm0 (I.cx C)) (g := mkF W.m pc Ls (argsL.reverse ++ st)) rfl (hsz.trans C.ml.symm) (argsL := argsL) (rest := st) hlen rfl (by show 2 * 0 + _ ≤ _; omega) (C.hb hd) (fun _ _ => ⟨rfl, eT, hk', hn'⟩)
  dsimp only [Pt.U, Pt.locs, Pt.cells, Pt.slots] at X' l1 y1 z1 s' q0
  subst l1 y1 z1
  obtain ⟨q1, q2, q3⟩ := hQ _ _ _ q0
  exact Go.step s' (r v T'.heap q1 q2 vm0 T' _ X' rfl (N.app q3) q2 (I.car (hcar _ _ q1)))
theorem callSS (C : Cx Z W own nm code maxL ret) (hd : decode code pc = .ok (.invokestatic ix, 3)) {Qv : Option Value → Heap → List Loc → Prop} (K : ∀ vm0, Inv Z EL W S vm0 h → PaysS l R Z EL W vm0 y 3 Wn as' h kc nc Qv) (hQ : Clean Z Qc Qv) (w1 : (Cond.methodLink own ix y).before a0 Z = true) (w2 : (Cond.static y).before a0 Z = true) (w3 : (Cond.initialized y.cls).before a0 Z = true) (w4 : (Cond.code y bytes mxL rt).before a0 Z = true) (hy : y.cls ≠ "java/lang/invoke/MethodHandle" ∧ y.cls ≠ "java/lang/invoke/VarHandle")
    (has : argsL.toArray = as') (hst : argsL.reverse ++ st = st') (hlen : ∀ sig, parseMethodDescriptor y.desc = some sig → argsL.length = sig.parameters.length) (hsz : Ls.size = maxL) (hW : (st.map fun v => v.category).sum ≤ Wn) (hk : k + kc = k') (hn : n + nc = n') (hk' : k' ≤ R.cells) (hn' : n' ≤ R.slots) (hp : pc + 3 = pc')
    (r : ∀ v h', Qc v h' → Ext Z.heap h' → Run l R Z EL W Q S h' k' n' (mkF W.m pc' Ls (v.toList ++ st))) : Run l R Z EL W Q S h k n (mkF W.m pc Ls st') := by
  subst hp hk hn has hst
  intro vm0 T locs X eT N O I
  obtain ⟨v, vm₁, ⟨T', L', k', n'⟩, -, X', hS, hg, ⟨L, q0, l1, y1, z1, hr⟩, s'⟩ := callSS X C.hx (y := y) (I.ow C) (mvT I.hZ w1) (mvT I.hZ w2) (mvT I.hZ w3) (mvT I.hZ w4) hy (K vm0 I) (g := mkF W.m pc Ls (argsL.reverse ++ st)) rfl (hsz.trans C.ml.symm) (argsL := argsL) (rest := st) hlen rfl (by show 2 * 0 + _ ≤ _; omega) (C.hb hd) (fun _ _ => ⟨rfl, eT, hk', hn'⟩)
  dsimp only [Pt.U, Pt.locs, Pt.cells, Pt.slots] at X' l1 y1 z1 s' q0 hS hg hr
  subst l1 y1 z1
  obtain ⟨q1, q2, q3⟩ := hQ _ _ _ q0
  exact Go.step (fun t => s'.trans) (r v T'.heap q1 q2 T'.vm T' _ X' rfl (N.app q3) q2 (I.back hS (eT ▸ hg) hr))
theorem callI (C : Cx Z W own nm code maxL ret) (hd : decode code pc = .ok (.invokespecial ix, 3)) {a : Addr} {Qv : Option Value → Heap → List Loc → Prop} (K : ∀ vm0, Cx Z (At W vm0) own nm code maxL ret → Wk.Pays l R (At W vm0) y 3 Wn as' h kc nc Qv) (hQ : Clean Z Qc Qv) (hcar : ∀ v h', Qc v h' → Car S h h') (hi : y.name = "<init>") (w1 : (Cond.methodLink own ix y).before a0 Z = true) (w2 : (Cond.instanceMethod y).before a0 Z = true) (w4 : (Cond.code y bytes mxL none).before a0 Z = true) (hy : y.cls ≠ "java/lang/invoke/MethodHandle" ∧ y.cls ≠ "java/lang/invoke/VarHandle")
    (has : (Value.ref a :: argsL).toArray = as') (hst : argsL.reverse ++ .ref a :: st = st') (hlen : ∀ sig, parseMethodDescriptor y.desc = some sig → argsL.length = sig.parameters.length) (hsz : Ls.size = maxL) (hW : (st.map fun v => v.category).sum ≤ Wn) (hk : k + kc = k') (hn : n + nc = n') (hk' : k' ≤ R.cells) (hn' : n' ≤ R.slots) (hp : pc + 3 = pc')
    (r : ∀ v h', Qc v h' → Ext Z.heap h' → Run l R Z EL W Q S h' k' n' (mkF W.m pc' Ls (v.toList ++ st))) : Run l R Z EL W Q S h k n (mkF W.m pc Ls st') := by
  subst hp hk hn has hst
  intro vm0 T locs X eT N O I
  obtain ⟨v, vm₁, ⟨T', L', k', n'⟩, -, X', ⟨L, q0, l1, y1, z1⟩, s'⟩ := X.specialBack C.hx (y := y) hi (I.ow C) (mvT I.hZ w1) (mvT I.hZ w2) (mvT I.hZ w4) hy (K vm0 (I.cx C)) (g := mkF W.m pc Ls (argsL.reverse ++ .ref a :: st)) rfl (hsz.trans C.ml.symm) (Steps.refl _) (a := a) (argsL := argsL) (rest := st) hlen rfl (by show 2 * 0 + _ ≤ _; omega) (C.hb hd) (fun _ _ => ⟨rfl, eT, hk', hn'⟩)
  dsimp only [Pt.U, Pt.locs, Pt.cells, Pt.slots] at X' l1 y1 z1 s' q0
  subst l1 y1 z1
  obtain ⟨q1, q2, q3⟩ := hQ _ _ _ q0
  exact Go.step (fun t => s'.trans) (r v T'.heap q1 q2 vm0 T' _ X' rfl (N.app q3) q2 (I.car (hcar _ _ q1)))
theorem callIS (C : Cx Z W own nm code maxL ret) (hd : decode code pc = .ok (.invokespecial ix, 3)) {a : Addr} {Qv : Option Value → Heap → List Loc → Prop} (K : ∀ vm0, Inv Z EL W S vm0 h → PaysS l R Z EL W vm0 y 3 Wn as' h kc nc Qv) (hQ : Clean Z Qc Qv) (hi : y.name = "<init>") (w1 : (Cond.methodLink own ix y).before a0 Z = true) (w2 : (Cond.instanceMethod y).before a0 Z = true) (w4 : (Cond.code y bytes mxL none).before a0 Z = true) (hy : y.cls ≠ "java/lang/invoke/MethodHandle" ∧ y.cls ≠ "java/lang/invoke/VarHandle")
    (has : (Value.ref a :: argsL).toArray = as') (hst : argsL.reverse ++ .ref a :: st = st') (hlen : ∀ sig, parseMethodDescriptor y.desc = some sig → argsL.length = sig.parameters.length) (hsz : Ls.size = maxL) (hW : (st.map fun v => v.category).sum ≤ Wn) (hk : k + kc = k') (hn : n + nc = n') (hk' : k' ≤ R.cells) (hn' : n' ≤ R.slots) (hp : pc + 3 = pc')
    (r : ∀ v h', Qc v h' → Ext Z.heap h' → Run l R Z EL W Q S h' k' n' (mkF W.m pc' Ls (v.toList ++ st))) : Run l R Z EL W Q S h k n (mkF W.m pc Ls st') := by
  subst hp hk hn has hst
  intro vm0 T locs X eT N O I
  obtain ⟨v, vm₁, ⟨T', L', k', n'⟩, -, X', hS, hg, ⟨L, q0, l1, y1, z1, hr⟩, s'⟩ := X.specialBackS C.hx (y := y) hi (I.ow C) (mvT I.hZ w1) (mvT I.hZ w2) (mvT I.hZ w4) hy (K vm0 I) (g := mkF W.m pc Ls (argsL.reverse ++ .ref a :: st)) rfl (hsz.trans C.ml.symm) (Steps.refl _) (a := a) (argsL := argsL) (rest := st) hlen rfl (by show 2 * 0 + _ ≤ _; omega) (C.hb hd) (fun _ _ => ⟨rfl, eT, hk', hn'⟩)
  dsimp only [Pt.U, Pt.locs, Pt.cells, Pt.slots] at X' l1 y1 z1 s' q0 hS hg hr
  subst l1 y1 z1
  obtain ⟨q1, q2, q3⟩ := hQ _ _ _ q0
  exact Go.step (fun t => s'.trans) (r v T'.heap q1 q2 T'.vm T' _ X' rfl (N.app q3) q2 (I.back hS (eT ▸ hg) hr))
theorem callV (C : Cx Z W own nm code maxL ret) (hd : decode code pc = .ok (.invokevirtual ix, 3)) {y0 : MethodName} {K0 : String} {a : Addr} {Qv : Option Value → Heap → List Loc → Prop} (K : ∀ vm0, Cx Z (At W vm0) own nm code maxL ret → Wk.Pays l R (At W vm0) y 3 Wn as' h kc nc Qv) (hQ : Clean Z Qc Qv) (hcar : ∀ v h', Qc v h' → Car S h h') (E : Exa Z h a K0) (w1 : (Cond.methodLink own ix y0).before a0 Z = true) (w2 : (Cond.declares y0).before a0 Z = true) (nf : ∀ vm0, Z.Warmed39 vm0 → NotFace (W.s.setVm vm0) y0) (w3 : (Cond.selects K0 y0 y).before a0 Z = true) (w5 : (Cond.instanceMethod y).before a0 Z = true) (hy : y0.cls ≠ "java/lang/invoke/MethodHandle" ∧ y0.cls ≠ "java/lang/invoke/VarHandle")
    (has : (Value.ref a :: argsL).toArray = as') (hst : argsL.reverse ++ .ref a :: st = st') (hlen : ∀ sig, parseMethodDescriptor y0.desc = some sig → argsL.length = sig.parameters.length) (hsz : Ls.size = maxL) (hW : (st.map fun v => v.category).sum ≤ Wn) (hk : k + kc = k') (hn : n + nc = n') (hk' : k' ≤ R.cells) (hn' : n' ≤ R.slots) (hp : pc + 3 = pc')
    (r : ∀ v h', Qc v h' → Ext Z.heap h' → Run l R Z EL W Q S h' k' n' (mkF W.m pc' Ls (v.toList ++ st))) : Run l R Z EL W Q S h k n (mkF W.m pc Ls st') := by
  subst hp hk hn has hst
  intro vm0 T locs X eT N O I
  obtain ⟨cq, kq, qa, qb, qc⟩ := isOf I.hZ eT E
  obtain ⟨v, vm₁, ⟨T', L', k', n'⟩, -, X', ⟨L, q0, l1, y1, z1⟩, s'⟩ := X.virtualBack C.hx (y := y0) (z := y) (I.ow C) (mvT I.hZ w1) (mvT I.hZ w2) (nf vm0 I.2.1) (mvT I.hZ w3) (mvT I.hZ w5) hy (K vm0 (I.cx C)) qa qc (g := mkF W.m pc Ls (argsL.reverse ++ .ref a :: st)) rfl (hsz.trans C.ml.symm) (Steps.refl _) (argsL := argsL) (rest := st) hlen rfl (by show 2 * 0 + _ ≤ _; omega) (C.hb hd) (fun _ _ => ⟨rfl, eT, hk', hn'⟩)
  dsimp only [Pt.U, Pt.locs, Pt.cells, Pt.slots] at X' l1 y1 z1 s' q0
  subst l1 y1 z1
  obtain ⟨q1, q2, q3⟩ := hQ _ _ _ q0
  exact Go.step (fun t => s'.trans) (r v T'.heap q1 q2 vm0 T' _ X' rfl (N.app q3) q2 (I.car (hcar _ _ q1)))
theorem callVS (C : Cx Z W own nm code maxL ret) (hd : decode code pc = .ok (.invokevirtual ix, 3)) {y0 : MethodName} {K0 : String} {a : Addr} {Qv : Option Value → Heap → List Loc → Prop} (K : ∀ vm0, Inv Z EL W S vm0 h → PaysS l R Z EL W vm0 y 3 Wn as' h kc nc Qv) (hQ : Clean Z Qc Qv) (E : Exa Z h a K0) (w1 : (Cond.methodLink own ix y0).before a0 Z = true) (w2 : (Cond.declares y0).before a0 Z = true) (nf : ∀ vm0, Z.Warmed39 vm0 → NotFace (W.s.setVm vm0) y0) (w3 : (Cond.selects K0 y0 y).before a0 Z = true) (w5 : (Cond.instanceMethod y).before a0 Z = true) (hy : y0.cls ≠ "java/lang/invoke/MethodHandle" ∧ y0.cls ≠ "java/lang/invoke/VarHandle")
    (has : (Value.ref a :: argsL).toArray = as') (hst : argsL.reverse ++ .ref a :: st = st') (hlen : ∀ sig, parseMethodDescriptor y0.desc = some sig → argsL.length = sig.parameters.length) (hsz : Ls.size = maxL) (hW : (st.map fun v => v.category).sum ≤ Wn) (hk : k + kc = k') (hn : n + nc = n') (hk' : k' ≤ R.cells) (hn' : n' ≤ R.slots) (hp : pc + 3 = pc')
    (r : ∀ v h', Qc v h' → Ext Z.heap h' → Run l R Z EL W Q S h' k' n' (mkF W.m pc' Ls (v.toList ++ st))) : Run l R Z EL W Q S h k n (mkF W.m pc Ls st') := by
  subst hp hk hn has hst
  intro vm0 T locs X eT N O I
  obtain ⟨cq, kq, qa, qb, qc⟩ := isOf I.hZ eT E
  obtain ⟨v, vm₁, ⟨T', L', k', n'⟩, -, X', hS, hg, ⟨L, q0, l1, y1, z1, hr⟩, s'⟩ := X.virtualBackS C.hx (y := y0) (z := y) (I.ow C) (mvT I.hZ w1) (mvT I.hZ w2) (nf vm0 I.2.1) (mvT I.hZ w3) (mvT I.hZ w5) hy (K vm0 I) qa qc (g := mkF W.m pc Ls (argsL.reverse ++ .ref a :: st)) rfl (hsz.trans C.ml.symm) (Steps.refl _) (argsL := argsL) (rest := st) hlen rfl (by show 2 * 0 + _ ≤ _; omega) (C.hb hd) (fun _ _ => ⟨rfl, eT, hk', hn'⟩)
  dsimp only [Pt.U, Pt.locs, Pt.cells, Pt.slots] at X' l1 y1 z1 s' q0 hS hg hr
  subst l1 y1 z1
  obtain ⟨q1, q2, q3⟩ := hQ _ _ _ q0
  exact Go.step (fun t => s'.trans) (r v T'.heap q1 q2 T'.vm T' _ X' rfl (N.app q3) q2 (I.back hS (eT ▸ hg) hr))
end Calls
/-! ## returns -/
theorem Run.leave (C : Cx Z W own nm code maxL ret) (hE : EW Z a0 EL) {v : Option Value} {f : JFrame} (hv : ret = none → v = none) (q : Q v h) (hk : k ≤ R.cells) (hn : n ≤ R.slots)
    (s' : ∀ vm0 T locs, Std l R W vm0 T locs k n → ∀ fs, (∀ (f : JFrame) (acts : List Action), f.method = W.m → f.locked = none → f.entered = [] → (doReturn W.e (T.setTop f) acts v).1 = T.setFrames fs) → Steps W.p.tables W.e W.b (T.setTop f) (T.setFrames fs)) : Run l R Z EL W Q S h k n f := by
  intro vm0 T locs X eT N O I
  have hlk : W.t.locks = false := C.lk
  obtain ⟨fs, hr, hrun, hended, hW, hsame⟩ := X.leave (v := v) (fun hh => hv (C.rt.symm.trans hh))
  have e2 : (T.setFrames fs).heap = h := eT
  obtain ⟨⟨k0, hS, hk0⟩, hZ, hr0, -⟩ := I
  have hc := CHv.at X hZ hE hr0.1
  obtain ⟨e4, e5, e6⟩ := hS.ended (U := T.setFrames fs) hW (by rw [e2]; exact hk0) hsame
  exact ⟨_, _, s' vm0 T locs X fs hr, hrun, hended, _, _, rfl, ⟨by rw [e2]; exact q, by rw [e2]; exact O, N⟩, by rw [e2]; exact hr0.trans hc, ⟨_, rfl⟩, e4, e5, e6.mono hk hn⟩
theorem retV (C : Cx Z W own nm code maxL none) (hE : EW Z a0 EL) (hd : decode code pc = .ok (.return_, 1)) (hk : k ≤ R.cells) (hn : n ≤ R.slots) (q : Q none h) : Run l R Z EL W Q S h k n (mkF W.m pc Ls []) :=
  Run.leave C hE (fun _ => rfl) q hk hn (fun vm0 T locs X fs hr => X.returnOut C.hx C.rt (C.hb hd) hr)
theorem retI (C : Cx Z W own nm code maxL (some .int)) (hE : EW Z a0 EL) (hd : decode code pc = .ok (.ireturn, 1)) {z : Int32} (hk : k ≤ R.cells) (hn : n ≤ R.slots) (q : Q (some (.int z)) h) : Run l R Z EL W Q S h k n (mkF W.m pc Ls (.int z :: st)) :=
  Run.leave C hE (fun hh => nomatch hh) q hk hn (fun vm0 T locs X fs hr => retOut X C.hx C.rt rfl (Or.inl ⟨rfl, Or.inl rfl, z, rfl⟩) (C.hb hd) hr)
theorem retNar {ty : FieldType} (C : Cx Z W own nm code maxL (some ty)) (hE : EW Z a0 EL) (ht : ty = .boolean ∨ ty = .byte ∨ ty = .char ∨ ty = .short) (hd : decode code pc = .ok (.ireturn, 1)) {z z' : Int32} (hz : nar ty z = z') (hk : k ≤ R.cells) (hn : n ≤ R.slots) (q : Q (some (.int z')) h) : Run l R Z EL W Q S h k n (mkF W.m pc Ls (.int z :: st)) := by
  subst hz
  exact Run.leave C hE (fun hh => nomatch hh) q hk hn (fun vm0 T locs X fs hr => retN X C.hx C.rt ht (C.hb hd) hr)
theorem retL (C : Cx Z W own nm code maxL (some .long)) (hE : EW Z a0 EL) (hd : decode code pc = .ok (.lreturn, 1)) {z : Int64} (hk : k ≤ R.cells) (hn : n ≤ R.slots) (q : Q (some (.long z)) h) : Run l R Z EL W Q S h k n (mkF W.m pc Ls (.long z :: st)) :=
  Run.leave C hE (fun hh => nomatch hh) q hk hn (fun vm0 T locs X fs hr => retOut X C.hx C.rt rfl (Or.inr (Or.inl ⟨rfl, rfl, z, rfl⟩)) (C.hb hd) hr)
theorem retA {ty : FieldType} {v : Value} (C : Cx Z W own nm code maxL (some ty)) (hE : EW Z a0 EL) (ht : ty.isReference = true) (hv : v.isRef = true) (hd : decode code pc = .ok (.areturn, 1)) (hk : k ≤ R.cells) (hn : n ≤ R.slots) (q : Q (some v) h) : Run l R Z EL W Q S h k n (mkF W.m pc Ls (v :: st)) :=
  Run.leave C hE (fun hh => nomatch hh) q hk hn (fun vm0 T locs X fs hr => retOut X C.hx C.rt (by rcases ref_cases hv with rfl | ⟨a, rfl⟩ <;> cases ty <;> simp [FieldType.isReference] at ht <;> rfl) (Or.inr (Or.inr (Or.inr (Or.inr ⟨rfl, ht, hv⟩)))) (C.hb hd) hr)
end Kit
end Ww
abbrev EL : List (String × Nat) := []
theorem own_EW {a0 : Array Value} {Z : State} (hw : Ws a0 Z) : EW Z a0 EL := EW.nil
theorem wS {a0 : Array Value} {Z : State} (hw : Ws a0 Z) : ∀ a ∈ Bundle.stringAtoms, a.before a0 Z = true := by
  intro a ha
  simp only [Bundle.stringAtoms, List.mem_cons, List.not_mem_nil, or_false] at ha
  rcases ha with rfl | rfl | rfl | rfl | rfl | rfl | rfl
  · exact (w1 hw)
  · exact (w2 hw)
  · exact (w3 hw)
  · exact (w4 hw)
  · exact (w5 hw)
  · exact (w6 hw)
  · exact (w7 hw)
set_option maxRecDepth 65536 in
set_option maxHeartbeats 40000000 in
theorem own_absColl (l : Launch) {Z : State} {a0 : Array Value} (hw : Ws a0 Z) {h0 : Heap} (O0 : Ext Z.heap h0) (a1 : Addr)  :
    Wk.Con l Z (⟨"java/util/AbstractCollection", "<init>", "()V"⟩ : MethodName) jdk_22_method_1_code 1 none ({ frames := 1, cells := 0, slots := 0, locals := 12 } : Room) #[(.ref a1)] h0 (fun v h' => v = none ∧ h' = h0) := by
  refine Wk.Con.intro (plainFor_of_name pn0) O0 (fun m => ef0 m a1) ?_
  intro W C
  replace C : Wk.Cx Z W "java/util/AbstractCollection" "<init>" jdk_22_method_1_code 1 none := C
  refine Wk.aloadN (pc' := 1) C d_jdk_22m1_0 rfl rfl rfl ?_
  refine Wk.initO (pc' := 4) C d_jdk_22m1_1 (Wn := 0) (w47 hw) (w25 hw) (w26 hw) rfl (by decide) (Nat.le_of_eq rfl) (by decide) rfl ?_
  exact Wk.retV C d_jdk_22m1_4 (by decide) (by decide) ⟨rfl, rfl⟩
set_option maxRecDepth 65536 in
set_option maxHeartbeats 40000000 in
theorem own_record (l : Launch) {Z : State} {a0 : Array Value} (hw : Ws a0 Z) {h0 : Heap} (O0 : Ext Z.heap h0) (a1 : Addr)  :
    Wk.Con l Z (⟨"java/lang/Record", "<init>", "()V"⟩ : MethodName) jdk_30_method_1_code 1 none ({ frames := 1, cells := 0, slots := 0, locals := 12 } : Room) #[(.ref a1)] h0 (fun v h' => v = none ∧ h' = h0) := by
  refine Wk.Con.intro (plainFor_of_name pn1) O0 (fun m => ef1 m a1) ?_
  intro W C
  replace C : Wk.Cx Z W "java/lang/Record" "<init>" jdk_30_method_1_code 1 none := C
  refine Wk.aloadN (pc' := 1) C d_jdk_30m1_0 rfl rfl rfl ?_
  refine Wk.initO (pc' := 4) C d_jdk_30m1_1 (Wn := 0) (w95 hw) (w25 hw) (w26 hw) rfl (by decide) (Nat.le_of_eq rfl) (by decide) rfl ?_
  exact Wk.retV C d_jdk_30m1_4 (by decide) (by decide) ⟨rfl, rfl⟩
set_option maxRecDepth 65536 in
set_option maxHeartbeats 40000000 in
theorem own_absList (l : Launch) {Z : State} {a0 : Array Value} (hw : Ws a0 Z) {h0 : Heap} (O0 : Ext Z.heap h0) (a1 : Addr) (g1 : Z.heap.size ≤ a1) (E1 : Exa Z h0 a1 "java/util/ArrayList") (F1 : Fld Z h0 a1 "java/util/AbstractList" "modCount" "I" (.int (0 : Int32))) (F2 : Fld Z h0 a1 "java/util/ArrayList" "elementData" "[Ljava/lang/Object;" .null) (F3 : Fld Z h0 a1 "java/util/ArrayList" "size" "I" (.int (0 : Int32))) :
    Wk.Con l Z (⟨"java/util/AbstractList", "<init>", "()V"⟩ : MethodName) jdk_39_method_1_code 1 none ({ frames := 2, cells := 0, slots := 0, locals := 24 } : Room) #[(.ref a1)] h0 (fun v h' => v = none ∧ Keep h0 h' [a1] ∧ Exa Z h' a1 "java/util/ArrayList" ∧ Fld Z h' a1 "java/util/AbstractList" "modCount" "I" (.int (0 : Int32)) ∧ Fld Z h' a1 "java/util/ArrayList" "elementData" "[Ljava/lang/Object;" .null ∧ Fld Z h' a1 "java/util/ArrayList" "size" "I" (.int (0 : Int32))) := by
  refine Wk.Con.intro (plainFor_of_name pn2) O0 (fun m => ef2 m a1) ?_
  intro W C
  replace C : Wk.Cx Z W "java/util/AbstractList" "<init>" jdk_39_method_1_code 1 none := C
  refine Wk.aloadN (pc' := 1) C d_jdk_39m1_0 rfl rfl rfl ?_
  refine Wk.callI (pc' := 4) C d_jdk_39m1_1 (a := a1) (Wk.Con.pays C (Wn := 0) (own_absColl l hw O0 a1) (w46 hw) (w45 hw) (by decide) (by decide)) Wk.cleanC rfl (w41 hw) (w42 hw) (w46 hw) (by decide) (argsL := []) (st := []) rfl rfl (lenOf pd0 rfl) rfl (Nat.le_of_eq rfl) (k' := 0) rfl (n' := 0) rfl (by decide) (by decide) rfl ?_
  intro r11 h12 Q12 O12
  obtain ⟨rfl, e13⟩ := Q12
  obtain rfl := e13.symm
  refine Wk.aloadN (pc' := 5) C d_jdk_39m1_4 rfl rfl rfl ?_
  refine Wk.iconst (pc' := 6) C d_jdk_39m1_5 (v := (0 : Int32)) rfl rfl ?_
  refine Wk.putF (pc' := 9) C d_jdk_39m1_6 (w48 hw) Via.refl F1 E1 (Or.inl (w49 hw)) (w30 hw) (ty := .int) (by decide) rfl rfl g1 rfl ?_
  intro h14 W14 O14
  have F15 := F1.same W14
  exact Wk.retV C d_jdk_39m1_9 (by decide) (by decide) ⟨rfl, ((Keep.refl _ _).wr W14 (Or.inl (List.mem_singleton.mpr rfl))), (E1.wr W14), F15, (F2.other W14 (Or.inr (slot_ne (Or.inl (w52 hw)) (Or.inl (w49 hw)) (by decide) (t := (.array (.object "java/lang/Object"))) (t' := .int) (by decide) (by decide)))), (F3.other W14 (Or.inr (slot_ne (Or.inl (w61 hw)) (Or.inl (w49 hw)) (by decide) (t := .int) (t' := .int) (by decide) (by decide))))⟩
set_option maxRecDepth 65536 in
set_option maxHeartbeats 40000000 in
theorem own_alInit (l : Launch) {Z : State} {a0 : Array Value} (hw : Ws a0 Z) {h0 : Heap} (O0 : Ext Z.heap h0) (aD a1 : Addr) (SD : Sta Z Z.heap "java/util/ArrayList" "DEFAULTCAPACITY_EMPTY_ELEMENTDATA" "[Ljava/lang/Object;" (.ref aD)) (g1 : Z.heap.size ≤ a1) (E1 : Exa Z h0 a1 "java/util/ArrayList") (F1 : Fld Z h0 a1 "java/util/AbstractList" "modCount" "I" (.int (0 : Int32))) (F2 : Fld Z h0 a1 "java/util/ArrayList" "elementData" "[Ljava/lang/Object;" .null) (F3 : Fld Z h0 a1 "java/util/ArrayList" "size" "I" (.int (0 : Int32))) :
    Wk.Con l Z (⟨"java/util/ArrayList", "<init>", "()V"⟩ : MethodName) jdk_38_method_2_code 1 none ({ frames := 3, cells := 0, slots := 0, locals := 36 } : Room) #[(.ref a1)] h0 (fun v h' => v = none ∧ Keep h0 h' [a1] ∧ Exa Z h' a1 "java/util/ArrayList" ∧ Fld Z h' a1 "java/util/AbstractList" "modCount" "I" (.int (0 : Int32)) ∧ Fld Z h' a1 "java/util/ArrayList" "elementData" "[Ljava/lang/Object;" (.ref aD) ∧ Fld Z h' a1 "java/util/ArrayList" "size" "I" (.int (0 : Int32))) := by
  refine Wk.Con.intro (plainFor_of_name pn3) O0 (fun m => ef3 m a1) ?_
  intro W C
  replace C : Wk.Cx Z W "java/util/ArrayList" "<init>" jdk_38_method_2_code 1 none := C
  refine Wk.aloadN (pc' := 1) C d_jdk_38m2_0 rfl rfl rfl ?_
  refine Wk.callI (pc' := 4) C d_jdk_38m2_1 (a := a1) (Wk.Con.pays C (Wn := 0) (own_absList l hw O0 a1 g1 E1 F1 F2 F3) (w40 hw) (w39 hw) (by decide) (by decide)) Wk.cleanC rfl (w35 hw) (w36 hw) (w40 hw) (by decide) (argsL := []) (st := []) rfl rfl (lenOf pd0 rfl) rfl (Nat.le_of_eq rfl) (k' := 0) rfl (n' := 0) rfl (by decide) (by decide) rfl ?_
  intro r11 h12 Q12 O12
  obtain ⟨rfl, K12, A12, M12, D12, Z12⟩ := Q12
  refine Wk.aloadN (pc' := 5) C d_jdk_38m2_4 rfl rfl rfl ?_
  refine Wk.getS (pc' := 8) C d_jdk_38m2_5 (w50 hw) Via.refl (SD.ext O12) rfl ?_
  refine Wk.putF (pc' := 11) C d_jdk_38m2_8 (w51 hw) Via.refl D12 A12 (Or.inl (w52 hw)) (w30 hw) (ty := (.array (.object "java/lang/Object"))) (by decide) rfl rfl g1 rfl ?_
  intro h13 W13 O13
  have F14 := D12.same W13
  exact Wk.retV C d_jdk_38m2_11 (by decide) (by decide) ⟨rfl, (((Keep.refl _ _).trans K12 (allS (Or.inl (List.mem_singleton.mpr rfl)) all0)).wr W13 (Or.inl (List.mem_singleton.mpr rfl))), (A12.wr W13), (M12.other W13 (Or.inr (slot_ne (Or.inl (w49 hw)) (Or.inl (w52 hw)) (by decide) (t := .int) (t' := (.array (.object "java/lang/Object"))) (by decide) (by decide)))), F14, (Z12.other W13 (Or.inr (slot_ne (Or.inl (w61 hw)) (Or.inl (w52 hw)) (by decide) (t := .int) (t' := (.array (.object "java/lang/Object"))) (by decide) (by decide))))⟩
set_option maxRecDepth 65536 in
set_option maxHeartbeats 40000000 in
theorem own_max (l : Launch) {Z : State} {a0 : Array Value} (hw : Ws a0 Z) {h0 : Heap} (O0 : Ext Z.heap h0) (x y : Int32) (hm : ¬ x < y) :
    Wk.Con l Z (⟨"java/lang/Math", "max", "(II)I"⟩ : MethodName) jdk_29_method_65_code 2 (some .int) ({ frames := 0, cells := 0, slots := 0, locals := 0 } : Room) #[(.int x), (.int y)] h0 (fun v h' => v = some (.int x) ∧ h' = h0) := by
  refine Wk.Con.intro (Jvm.Free.JP.mathPlain rfl (by decide +kernel)) O0 (fun m => ef4 m x y) ?_
  intro W C
  replace C : Wk.Cx Z W "java/lang/Math" "max" jdk_29_method_65_code 2 (some .int) := C
  refine Wk.iloadN (pc' := 1) C d_jdk_29m65_0 rfl rfl ?_
  refine Wk.iloadN (pc' := 2) C d_jdk_29m65_1 rfl rfl ?_
  refine Wk.icmp_lt C d_jdk_29m65_2 (by decide) (pcT := 9) (by decide) (pc' := 5) rfl (fun q => absurd q hm) (fun q11 => ?_)
  refine Wk.iloadN (pc' := 6) C d_jdk_29m65_5 rfl rfl ?_
  refine Wk.goto C d_jdk_29m65_6 (by decide) (pc' := 10) (by decide) ?_
  exact Wk.retI C d_jdk_29m65_10 (by decide) (by decide) ⟨rfl, rfl⟩
set_option maxRecDepth 65536 in
set_option maxHeartbeats 40000000 in
theorem own_grow1 (l : Launch) {Z : State} {a0 : Array Value} (hw : Ws a0 Z) {h0 : Heap} (O0 : Ext Z.heap h0) (aD a1 : Addr) (m : Int32) (SD : Sta Z Z.heap "java/util/ArrayList" "DEFAULTCAPACITY_EMPTY_ELEMENTDATA" "[Ljava/lang/Object;" (.ref aD)) (VD : Wk.Ary Z Z.heap aD (.object "java/lang/Object") []) (g1 : Z.heap.size ≤ a1) (E1 : Exa Z h0 a1 "java/util/ArrayList") (F1 : Fld Z h0 a1 "java/util/AbstractList" "modCount" "I" (.int m)) (F2 : Fld Z h0 a1 "java/util/ArrayList" "elementData" "[Ljava/lang/Object;" (.ref aD)) (F3 : Fld Z h0 a1 "java/util/ArrayList" "size" "I" (.int (0 : Int32))) :
    Wk.Con l Z (⟨"java/util/ArrayList", "grow", "(I)[Ljava/lang/Object;"⟩ : MethodName) jdk_38_method_6_code 4 (some (.array (.object "java/lang/Object"))) ({ frames := 1, cells := 1, slots := 10, locals := 15 } : Room) #[(.ref a1), (.int (1 : Int32))] h0 (fun v h' => ∃ b : Addr, v = some (.ref b) ∧ b = h0.size ∧ Z.heap.size ≤ b ∧ Wk.Ary Z h' b (.object "java/lang/Object") [.null, .null, .null, .null, .null, .null, .null, .null, .null, .null] ∧ Wk.RefA Z h' b "java/lang/Object" ∧ Keep h0 h' [a1] ∧ Exa Z h' a1 "java/util/ArrayList" ∧ Fld Z h' a1 "java/util/AbstractList" "modCount" "I" (.int m) ∧ Fld Z h' a1 "java/util/ArrayList" "elementData" "[Ljava/lang/Object;" (.ref b) ∧ Fld Z h' a1 "java/util/ArrayList" "size" "I" (.int (0 : Int32))) := by
  refine Wk.Con.intro (plainFor_of_name pn3) O0 (fun m => ef5 m a1) ?_
  intro W C
  replace C : Wk.Cx Z W "java/util/ArrayList" "grow" jdk_38_method_6_code 4 (some (.array (.object "java/lang/Object"))) := C
  refine Wk.aloadN (pc' := 1) C d_jdk_38m6_0 rfl rfl rfl ?_
  refine Wk.getF (pc' := 4) C d_jdk_38m6_1 (w51 hw) Via.refl F2 rfl ?_
  refine Wk.alen (pc' := 5) C d_jdk_38m6_4 (VD.ext O0) (z := (0 : Int32)) rfl rfl ?_
  refine Wk.istoreN (pc' := 6) C d_jdk_38m6_5 (Ls' := #[.val (.ref a1), .val (.int (1 : Int32)), .val (.int (0 : Int32)), .unset]) rfl rfl ?_
  refine Wk.iloadN (pc' := 7) C d_jdk_38m6_6 rfl rfl ?_
  refine Wk.if_gt C d_jdk_38m6_7 (by decide) (pcT := 20) (by decide) (pc' := 10) rfl (fun q => absurd q (by decide)) (fun q11 => ?_)
  refine Wk.aloadN (pc' := 11) C d_jdk_38m6_10 rfl rfl rfl ?_
  refine Wk.getF (pc' := 14) C d_jdk_38m6_11 (w51 hw) Via.refl F2 rfl ?_
  refine Wk.getS (pc' := 17) C d_jdk_38m6_14 (w50 hw) Via.refl (SD.ext O0) rfl ?_
  refine Wk.acmp_eq C d_jdk_38m6_17 rfl rfl (by decide) (pcT := 45) (by decide) (pc' := 20) rfl (fun q12 => ?_) (fun q => absurd rfl q)
  refine Wk.aloadN (pc' := 46) C d_jdk_38m6_45 rfl rfl rfl ?_
  refine Wk.bipush (pc' := 48) C d_jdk_38m6_46 (v := (10 : Int32)) rfl rfl ?_
  refine Wk.iloadN (pc' := 49) C d_jdk_38m6_48 rfl rfl ?_
  refine Wk.callS (pc' := 52) C d_jdk_38m6_49 (Wk.Con.pays C (Wn := 1) (own_max l hw O0 (10 : Int32) (1 : Int32) (by decide)) (w80 hw) (w79 hw) (by decide) (by decide)) Wk.cleanC (w77 hw) (w78 hw) (w79 hw) (w80 hw) (by decide) (argsL := [(.int (10 : Int32)), (.int (1 : Int32))]) (st := [(.ref a1)]) rfl rfl (lenOf pd1 rfl) rfl (Nat.le_of_eq rfl) (k' := 0) rfl (n' := 0) rfl (by decide) (by decide) rfl ?_
  intro r13 h14 Q14 O14
  obtain ⟨rfl, e15⟩ := Q14
  obtain rfl := e15.symm
  refine Wk.newR (pc' := 55) C d_jdk_38m6_52 (w81 hw) (w82 hw) (ad := "[Ljava/lang/Object;") (by decide) (by decide) (cap := 10) (by decide) (by decide) (k' := 1) rfl (n' := 10) rfl (by decide) (by decide) rfl ?_
  intro a16 h17 ga16 za16 E17 Va16 Aa16 Ra16 O17
  have V18 : Wk.Ary Z h17 a16 (.object "java/lang/Object") [.null, .null, .null, .null, .null, .null, .null, .null, .null, .null] := Va16
  refine Wk.dupX1 (pc' := 56) C d_jdk_38m6_55 rfl rfl rfl ?_
  refine Wk.putF (pc' := 59) C d_jdk_38m6_56 (w51 hw) Via.refl (F2.ext E17) (E1.ext E17) (Or.inl (w52 hw)) (w30 hw) (ty := (.array (.object "java/lang/Object"))) (by decide) rfl rfl g1 rfl ?_
  intro h19 W19 O19
  have F20 := (F2.ext E17).same W19
  exact Wk.retA C rfl rfl d_jdk_38m6_59 (by decide) (by decide) ⟨_, rfl, ga16, za16, (V18.other W19 (Ne.symm (Nat.ne_of_lt (Nat.lt_of_lt_of_le E1.lt (Nat.le_of_eq ga16.symm))))), (Ra16.wr W19), (((Keep.refl _ _).ext E17).wr W19 (Or.inl (List.mem_singleton.mpr rfl))), ((E1.ext E17).wr W19), ((F1.ext E17).other W19 (Or.inr (slot_ne (Or.inl (w49 hw)) (Or.inl (w52 hw)) (by decide) (t := .int) (t' := (.array (.object "java/lang/Object"))) (by decide) (by decide)))), F20, ((F3.ext E17).other W19 (Or.inr (slot_ne (Or.inl (w61 hw)) (Or.inl (w52 hw)) (by decide) (t := .int) (t' := (.array (.object "java/lang/Object"))) (by decide) (by decide))))⟩
set_option maxRecDepth 65536 in
set_option maxHeartbeats 40000000 in
theorem own_grow0 (l : Launch) {Z : State} {a0 : Array Value} (hw : Ws a0 Z) {h0 : Heap} (O0 : Ext Z.heap h0) (aD a1 : Addr) (m : Int32) (SD : Sta Z Z.heap "java/util/ArrayList" "DEFAULTCAPACITY_EMPTY_ELEMENTDATA" "[Ljava/lang/Object;" (.ref aD)) (VD : Wk.Ary Z Z.heap aD (.object "java/lang/Object") []) (g1 : Z.heap.size ≤ a1) (E1 : Exa Z h0 a1 "java/util/ArrayList") (F1 : Fld Z h0 a1 "java/util/AbstractList" "modCount" "I" (.int m)) (F2 : Fld Z h0 a1 "java/util/ArrayList" "elementData" "[Ljava/lang/Object;" (.ref aD)) (F3 : Fld Z h0 a1 "java/util/ArrayList" "size" "I" (.int (0 : Int32))) :
    Wk.Con l Z (⟨"java/util/ArrayList", "grow", "()[Ljava/lang/Object;"⟩ : MethodName) jdk_38_method_7_code 1 (some (.array (.object "java/lang/Object"))) ({ frames := 2, cells := 1, slots := 10, locals := 30 } : Room) #[(.ref a1)] h0 (fun v h' => ∃ b : Addr, v = some (.ref b) ∧ b = h0.size ∧ Z.heap.size ≤ b ∧ Wk.Ary Z h' b (.object "java/lang/Object") [.null, .null, .null, .null, .null, .null, .null, .null, .null, .null] ∧ Wk.RefA Z h' b "java/lang/Object" ∧ Keep h0 h' [a1] ∧ Exa Z h' a1 "java/util/ArrayList" ∧ Fld Z h' a1 "java/util/AbstractList" "modCount" "I" (.int m) ∧ Fld Z h' a1 "java/util/ArrayList" "elementData" "[Ljava/lang/Object;" (.ref b) ∧ Fld Z h' a1 "java/util/ArrayList" "size" "I" (.int (0 : Int32))) := by
  refine Wk.Con.intro (plainFor_of_name pn3) O0 (fun m => ef6 m a1) ?_
  intro W C
  replace C : Wk.Cx Z W "java/util/ArrayList" "grow" jdk_38_method_7_code 1 (some (.array (.object "java/lang/Object"))) := C
  refine Wk.aloadN (pc' := 1) C d_jdk_38m7_0 rfl rfl rfl ?_
  refine Wk.aloadN (pc' := 2) C d_jdk_38m7_1 rfl rfl rfl ?_
  refine Wk.getF (pc' := 5) C d_jdk_38m7_2 (w60 hw) Via.refl F3 rfl ?_
  refine Wk.iconst (pc' := 6) C d_jdk_38m7_5 (v := (1 : Int32)) rfl rfl ?_
  refine Wk.iadd (pc' := 7) C d_jdk_38m7_6 (v := (1 : Int32)) (by decide) rfl ?_
  refine Wk.callV (pc' := 10) C d_jdk_38m7_7 (a := a1) (Wk.Con.pays C (Wn := 0) (own_grow1 l hw O0 aD a1 m SD VD g1 E1 F1 F2 F3) (w76 hw) (w31 hw) (by decide) (by decide)) Wk.cleanC E1 (w72 hw) (Wk.declOf (w73 hw) (w76 hw)) (notFace_of_selects (args := #[]) (mvT C.hZ (w75 hw))) (w75 hw) (w73 hw) (by decide) (argsL := [(.int (1 : Int32))]) (st := []) rfl rfl (lenOf pd2 rfl) rfl (Nat.le_of_eq rfl) (k' := 1) rfl (n' := 10) rfl (by decide) (by decide) rfl ?_
  intro r11 h12 Q12 O12
  obtain ⟨b13, rfl, gb13, zb13, Vb13, Rb13, K12, A12, M12, D12, Z12⟩ := Q12
  exact Wk.retA C rfl rfl d_jdk_38m7_10 (by decide) (by decide) ⟨_, rfl, gb13, zb13, Vb13, Rb13, ((Keep.refl _ _).trans K12 (allS (Or.inl (List.mem_singleton.mpr rfl)) all0)), A12, M12, D12, Z12⟩
set_option maxRecDepth 65536 in
set_option maxHeartbeats 40000000 in
theorem own_add3 (l : Launch) {Z : State} {a0 : Array Value} (hw : Ws a0 Z) {h0 : Heap} (O0 : Ext Z.heap h0) (aD a1 x : Addr) (m : Int32) (SD : Sta Z Z.heap "java/util/ArrayList" "DEFAULTCAPACITY_EMPTY_ELEMENTDATA" "[Ljava/lang/Object;" (.ref aD)) (VD : Wk.Ary Z Z.heap aD (.object "java/lang/Object") []) (g1 : Z.heap.size ≤ a1) (E1 : Exa Z h0 a1 "java/util/ArrayList") (F1 : Fld Z h0 a1 "java/util/AbstractList" "modCount" "I" (.int m)) (F2 : Fld Z h0 a1 "java/util/ArrayList" "elementData" "[Ljava/lang/Object;" (.ref aD)) (F3 : Fld Z h0 a1 "java/util/ArrayList" "size" "I" (.int (0 : Int32))) (EX : Exa Z h0 x "java/lang/String") (nx : x ≠ a1) :
    Wk.Con l Z (⟨"java/util/ArrayList", "add", "(Ljava/lang/Object;[Ljava/lang/Object;I)V"⟩ : MethodName) jdk_38_method_24_code 4 none ({ frames := 3, cells := 1, slots := 10, locals := 44 } : Room) #[(.ref a1), (.ref x), (.ref aD), (.int (0 : Int32))] h0 (fun v h' => v = none ∧ Keep h0 h' [a1]) := by
  refine Wk.Con.intro (plainFor_of_name pn3) O0 (fun m => ef7 m a1 x aD) ?_
  intro W C
  replace C : Wk.Cx Z W "java/util/ArrayList" "add" jdk_38_method_24_code 4 none := C
  refine Wk.iloadN (pc' := 1) C d_jdk_38m24_0 rfl rfl ?_
  refine Wk.aloadN (pc' := 2) C d_jdk_38m24_1 rfl rfl rfl ?_
  refine Wk.alen (pc' := 3) C d_jdk_38m24_2 (VD.ext O0) (z := (0 : Int32)) rfl rfl ?_
  refine Wk.icmp_ne C d_jdk_38m24_3 (by decide) (pcT := 11) (by decide) (pc' := 6) rfl (fun q => absurd q (by decide)) (fun q11 => ?_)
  refine Wk.aloadN (pc' := 7) C d_jdk_38m24_6 rfl rfl rfl ?_
  refine Wk.callV (pc' := 10) C d_jdk_38m24_7 (a := a1) (Wk.Con.pays C (Wn := 0) (own_grow0 l hw O0 aD a1 m SD VD g1 E1 F1 F2 F3) (w71 hw) (w31 hw) (by decide) (by decide)) Wk.cleanC E1 (w67 hw) (Wk.declOf (w68 hw) (w71 hw)) (notFace_of_selects (args := #[]) (mvT C.hZ (w70 hw))) (w70 hw) (w68 hw) (by decide) (argsL := []) (st := []) rfl rfl (lenOf pd3 rfl) rfl (Nat.le_of_eq rfl) (k' := 1) rfl (n' := 10) rfl (by decide) (by decide) rfl ?_
  intro r12 h13 Q13 O13
  obtain ⟨b14, rfl, gb14, zb14, Vb14, Rb14, K13, A13, M13, D13, Z13⟩ := Q13
  refine Wk.astoreN (pc' := 11) C d_jdk_38m24_10 rfl (Ls' := #[.val (.ref a1), .val (.ref x), .val (.ref b14), .val (.int (0 : Int32))]) rfl rfl ?_
  refine Wk.aloadN (pc' := 12) C d_jdk_38m24_11 rfl rfl rfl ?_
  refine Wk.iloadN (pc' := 13) C d_jdk_38m24_12 rfl rfl ?_
  refine Wk.aloadN (pc' := 14) C d_jdk_38m24_13 rfl rfl rfl ?_
  refine Wk.aastore (pc' := 15) C d_jdk_38m24_14 Vb14 (by decide) (show _ < _ from Nat.le_of_ble_eq_true rfl) rfl (Wk.RefA.sto Rb14 Vb14 (Ins.of_exa (EX.keep K13) (w83 hw))) rfl (vs' := [(.ref x), .null, .null, .null, .null, .null, .null, .null, .null, .null]) rfl zb14 rfl ?_
  intro h15 W15 V15 O15
  refine Wk.aloadN (pc' := 16) C d_jdk_38m24_15 rfl rfl rfl ?_
  refine Wk.iloadN (pc' := 17) C d_jdk_38m24_16 rfl rfl ?_
  refine Wk.iconst (pc' := 18) C d_jdk_38m24_17 (v := (1 : Int32)) rfl rfl ?_
  refine Wk.iadd (pc' := 19) C d_jdk_38m24_18 (v := (1 : Int32)) (by decide) rfl ?_
  refine Wk.putF (pc' := 22) C d_jdk_38m24_19 (w60 hw) Via.refl (Z13.other W15 (Or.inl (Nat.ne_of_lt (Nat.lt_of_lt_of_le E1.lt (Nat.le_of_eq gb14.symm))))) (A13.wr W15) (Or.inl (w61 hw)) (w30 hw) (ty := .int) (by decide) rfl rfl g1 rfl ?_
  intro h16 W16 O16
  have F17 := (Z13.other W15 (Or.inl (Nat.ne_of_lt (Nat.lt_of_lt_of_le E1.lt (Nat.le_of_eq gb14.symm))))).same W16
  exact Wk.retV C d_jdk_38m24_22 (by decide) (by decide) ⟨rfl, ((((Keep.refl _ _).trans K13 (allS (Or.inl (List.mem_singleton.mpr rfl)) all0)).wr W15 (Or.inr (Nat.le_of_eq gb14.symm))).wr W16 (Or.inl (List.mem_singleton.mpr rfl)))⟩
set_option maxRecDepth 65536 in
set_option maxHeartbeats 40000000 in
theorem own_add1 (l : Launch) {Z : State} {a0 : Array Value} (hw : Ws a0 Z) {h0 : Heap} (O0 : Ext Z.heap h0) (aD a1 x : Addr) (SD : Sta Z Z.heap "java/util/ArrayList" "DEFAULTCAPACITY_EMPTY_ELEMENTDATA" "[Ljava/lang/Object;" (.ref aD)) (VD : Wk.Ary Z Z.heap aD (.object "java/lang/Object") []) (g1 : Z.heap.size ≤ a1) (E1 : Exa Z h0 a1 "java/util/ArrayList") (F1 : Fld Z h0 a1 "java/util/AbstractList" "modCount" "I" (.int (0 : Int32))) (F2 : Fld Z h0 a1 "java/util/ArrayList" "elementData" "[Ljava/lang/Object;" (.ref aD)) (F3 : Fld Z h0 a1 "java/util/ArrayList" "size" "I" (.int (0 : Int32))) (EX : Exa Z h0 x "java/lang/String") (nx : x ≠ a1) :
    Wk.Con l Z (⟨"java/util/ArrayList", "add", "(Ljava/lang/Object;)Z"⟩ : MethodName) jdk_38_method_25_code 2 (some .boolean) ({ frames := 4, cells := 1, slots := 10, locals := 60 } : Room) #[(.ref a1), (.ref x)] h0 (fun v h' => v = some (.int 1) ∧ Keep h0 h' [a1]) := by
  refine Wk.Con.intro (plainFor_of_name pn3) O0 (fun m => ef8 m a1 x) ?_
  intro W C
  replace C : Wk.Cx Z W "java/util/ArrayList" "add" jdk_38_method_25_code 2 (some .boolean) := C
  refine Wk.aloadN (pc' := 1) C d_jdk_38m25_0 rfl rfl rfl ?_
  refine Wk.dup (pc' := 2) C d_jdk_38m25_1 rfl rfl ?_
  refine Wk.getF (pc' := 5) C d_jdk_38m25_2 (w58 hw) (Via.of (w59 hw)) F1 rfl ?_
  refine Wk.iconst (pc' := 6) C d_jdk_38m25_5 (v := (1 : Int32)) rfl rfl ?_
  refine Wk.iadd (pc' := 7) C d_jdk_38m25_6 (v := (1 : Int32)) (by decide) rfl ?_
  refine Wk.putF (pc' := 10) C d_jdk_38m25_7 (w58 hw) (Via.of (w59 hw)) F1 E1 (Or.inl (w49 hw)) (w30 hw) (ty := .int) (by decide) rfl rfl g1 rfl ?_
  intro h11 W11 O11
  have F12 := F1.same W11
  refine Wk.aloadN (pc' := 11) C d_jdk_38m25_10 rfl rfl rfl ?_
  refine Wk.aloadN (pc' := 12) C d_jdk_38m25_11 rfl rfl rfl ?_
  refine Wk.aloadN (pc' := 13) C d_jdk_38m25_12 rfl rfl rfl ?_
  refine Wk.getF (pc' := 16) C d_jdk_38m25_13 (w51 hw) Via.refl (F2.other W11 (Or.inr (slot_ne (Or.inl (w52 hw)) (Or.inl (w49 hw)) (by decide) (t := (.array (.object "java/lang/Object"))) (t' := .int) (by decide) (by decide)))) rfl ?_
  refine Wk.aloadN (pc' := 17) C d_jdk_38m25_16 rfl rfl rfl ?_
  refine Wk.getF (pc' := 20) C d_jdk_38m25_17 (w60 hw) Via.refl (F3.other W11 (Or.inr (slot_ne (Or.inl (w61 hw)) (Or.inl (w49 hw)) (by decide) (t := .int) (t' := .int) (by decide) (by decide)))) rfl ?_
  refine Wk.callV (pc' := 23) C d_jdk_38m25_20 (a := a1) (Wk.Con.pays C (Wn := 0) (own_add3 l hw O11 aD a1 x (1 : Int32) SD VD g1 (E1.wr W11) F12 (F2.other W11 (Or.inr (slot_ne (Or.inl (w52 hw)) (Or.inl (w49 hw)) (by decide) (t := (.array (.object "java/lang/Object"))) (t' := .int) (by decide) (by decide)))) (F3.other W11 (Or.inr (slot_ne (Or.inl (w61 hw)) (Or.inl (w49 hw)) (by decide) (t := .int) (t' := .int) (by decide) (by decide)))) (EX.wr W11) nx) (w66 hw) (w31 hw) (by decide) (by decide)) Wk.cleanC (E1.wr W11) (w62 hw) (Wk.declOf (w63 hw) (w66 hw)) (notFace_of_selects (args := #[]) (mvT C.hZ (w65 hw))) (w65 hw) (w63 hw) (by decide) (argsL := [(.ref x), (.ref aD), (.int (0 : Int32))]) (st := []) rfl rfl (lenOf pd4 rfl) rfl (Nat.le_of_eq rfl) (k' := 1) rfl (n' := 10) rfl (by decide) (by decide) rfl ?_
  intro r13 h14 Q14 O14
  obtain ⟨rfl, Kh14⟩ := Q14
  refine Wk.iconst (pc' := 24) C d_jdk_38m25_23 (v := (1 : Int32)) rfl rfl ?_
  exact Wk.retNar (ty := .boolean) C (by simp) d_jdk_38m25_24 rfl (by decide) (by decide) ⟨rfl, (((Keep.refl _ _).wr W11 (Or.inl (List.mem_singleton.mpr rfl))).trans Kh14 (allS (Or.inl (List.mem_singleton.mpr rfl)) all0))⟩
set_option maxRecDepth 65536 in
set_option maxHeartbeats 40000000 in
theorem own_token (l : Launch) {Z : State} {a0 : Array Value} (hw : Ws a0 Z) {h0 : Heap} (O0 : Ext Z.heap h0) (a1 x u : Addr) (e : Value) (he : e.isRef = true) (p2 p3 : Int64) (g1 : Z.heap.size ≤ a1) (E1 : Exa Z h0 a1 "com/example/scopegate/scopegate/token/AccessToken") (F0 : Fld Z h0 a1 "com/example/scopegate/scopegate/token/AccessToken" "application" "Ljava/lang/String;" .null) (F1 : Fld Z h0 a1 "com/example/scopegate/scopegate/token/AccessToken" "user" "Ljava/lang/String;" .null) (F2 : Fld Z h0 a1 "com/example/scopegate/scopegate/token/AccessToken" "subject" "Ljava/lang/String;" .null) (F3 : Fld Z h0 a1 "com/example/scopegate/scopegate/token/AccessToken" "scope" "Ljava/lang/String;" .null) (F4 : Fld Z h0 a1 "com/example/scopegate/scopegate/token/AccessToken" "issued" "J" (.long (0 : Int64))) (F5 : Fld Z h0 a1 "com/example/scopegate/scopegate/token/AccessToken" "expires" "J" (.long (0 : Int64))) (F6 : Fld Z h0 a1 "com/example/scopegate/scopegate/token/AccessToken" "issuer" "Ljava/lang/String;" .null) (F7 : Fld Z h0 a1 "com/example/scopegate/scopegate/token/AccessToken" "audience" "Ljava/util/List;" .null) (F8 : Fld Z h0 a1 "com/example/scopegate/scopegate/token/AccessToken" "id" "Ljava/lang/String;" .null) :
    Wk.Con l Z (⟨"com/example/scopegate/scopegate/token/AccessToken", "<init>", "(Ljava/lang/String;Ljava/lang/String;Ljava/lang/String;Ljava/lang/String;JJLjava/lang/String;Ljava/util/List;Ljava/lang/String;)V"⟩ : MethodName) prog_13_method_1_code 12 none ({ frames := 2, cells := 0, slots := 0, locals := 24 } : Room) #[(.ref a1), (.ref x), .null, (.ref x), e, (.long p2), (.long p3), .null, (.ref u), .null] h0 (fun v h' => v = none ∧ Keep h0 h' [a1]) := by
  refine Wk.Con.intro (plainFor_of_name pn4) O0 (fun m => ef9 m a1 x x e he p2 p3 u) ?_
  intro W C
  replace C : Wk.Cx Z W "com/example/scopegate/scopegate/token/AccessToken" "<init>" prog_13_method_1_code 12 none := C
  refine Wk.aloadN (pc' := 1) C d_prog_13m1_0 rfl rfl rfl ?_
  refine Wk.callI (pc' := 4) C d_prog_13m1_1 (a := a1) (Wk.Con.pays C (Wn := 0) (own_record l hw O0 a1) (w94 hw) (w93 hw) (by decide) (by decide)) Wk.cleanC rfl (w90 hw) (w91 hw) (w94 hw) (by decide) (argsL := []) (st := []) rfl rfl (lenOf pd0 rfl) rfl (Nat.le_of_eq rfl) (k' := 0) rfl (n' := 0) rfl (by decide) (by decide) rfl ?_
  intro r11 h12 Q12 O12
  obtain ⟨rfl, e13⟩ := Q12
  obtain rfl := e13.symm
  refine Wk.aloadN (pc' := 5) C d_prog_13m1_4 rfl rfl rfl ?_
  refine Wk.aloadN (pc' := 6) C d_prog_13m1_5 rfl rfl rfl ?_
  refine Wk.putF (pc' := 9) C d_prog_13m1_6 (w96 hw) Via.refl F0 E1 (Or.inr ⟨(w97 hw), rfl, rfl⟩) (w85 hw) (ty := (.object "java/lang/String")) (by decide) rfl rfl g1 rfl ?_
  intro h14 W14 O14
  have F15 := F0.same W14
  refine Wk.aloadN (pc' := 10) C d_prog_13m1_9 rfl rfl rfl ?_
  refine Wk.aloadN (pc' := 11) C d_prog_13m1_10 rfl rfl rfl ?_
  refine Wk.putF (pc' := 14) C d_prog_13m1_11 (w98 hw) Via.refl (F1.other W14 (Or.inr (slot_ne (Or.inr (w99 hw)) (Or.inr (w97 hw)) (by decide) (t := (.object "java/lang/String")) (t' := (.object "java/lang/String")) (by decide) (by decide)))) (E1.wr W14) (Or.inr ⟨(w99 hw), rfl, rfl⟩) (w85 hw) (ty := (.object "java/lang/String")) (by decide) rfl rfl g1 rfl ?_
  intro h16 W16 O16
  have F17 := (F1.other W14 (Or.inr (slot_ne (Or.inr (w99 hw)) (Or.inr (w97 hw)) (by decide) (t := (.object "java/lang/String")) (t' := (.object "java/lang/String")) (by decide) (by decide)))).same W16
  refine Wk.aloadN (pc' := 15) C d_prog_13m1_14 rfl rfl rfl ?_
  refine Wk.aloadN (pc' := 16) C d_prog_13m1_15 rfl rfl rfl ?_
  refine Wk.putF (pc' := 19) C d_prog_13m1_16 (w100 hw) Via.refl ((F2.other W14 (Or.inr (slot_ne (Or.inr (w101 hw)) (Or.inr (w97 hw)) (by decide) (t := (.object "java/lang/String")) (t' := (.object "java/lang/String")) (by decide) (by decide)))).other W16 (Or.inr (slot_ne (Or.inr (w101 hw)) (Or.inr (w99 hw)) (by decide) (t := (.object "java/lang/String")) (t' := (.object "java/lang/String")) (by decide) (by decide)))) ((E1.wr W14).wr W16) (Or.inr ⟨(w101 hw), rfl, rfl⟩) (w85 hw) (ty := (.object "java/lang/String")) (by decide) rfl rfl g1 rfl ?_
  intro h18 W18 O18
  have F19 := ((F2.other W14 (Or.inr (slot_ne (Or.inr (w101 hw)) (Or.inr (w97 hw)) (by decide) (t := (.object "java/lang/String")) (t' := (.object "java/lang/String")) (by decide) (by decide)))).other W16 (Or.inr (slot_ne (Or.inr (w101 hw)) (Or.inr (w99 hw)) (by decide) (t := (.object "java/lang/String")) (t' := (.object "java/lang/String")) (by decide) (by decide)))).same W18
  refine Wk.aloadN (pc' := 20) C d_prog_13m1_19 rfl rfl rfl ?_
  refine Wk.aload (pc' := 22) C d_prog_13m1_20 rfl he rfl ?_
  refine Wk.putF (pc' := 25) C d_prog_13m1_22 (w102 hw) Via.refl (((F3.other W14 (Or.inr (slot_ne (Or.inr (w103 hw)) (Or.inr (w97 hw)) (by decide) (t := (.object "java/lang/String")) (t' := (.object "java/lang/String")) (by decide) (by decide)))).other W16 (Or.inr (slot_ne (Or.inr (w103 hw)) (Or.inr (w99 hw)) (by decide) (t := (.object "java/lang/String")) (t' := (.object "java/lang/String")) (by decide) (by decide)))).other W18 (Or.inr (slot_ne (Or.inr (w103 hw)) (Or.inr (w101 hw)) (by decide) (t := (.object "java/lang/String")) (t' := (.object "java/lang/String")) (by decide) (by decide)))) (((E1.wr W14).wr W16).wr W18) (Or.inr ⟨(w103 hw), rfl, rfl⟩) (w85 hw) (ty := (.object "java/lang/String")) (by decide) (Wk.narR he rfl) (Wk.fitR he rfl) g1 rfl ?_
  intro h20 W20 O20
  have F21 := (((F3.other W14 (Or.inr (slot_ne (Or.inr (w103 hw)) (Or.inr (w97 hw)) (by decide) (t := (.object "java/lang/String")) (t' := (.object "java/lang/String")) (by decide) (by decide)))).other W16 (Or.inr (slot_ne (Or.inr (w103 hw)) (Or.inr (w99 hw)) (by decide) (t := (.object "java/lang/String")) (t' := (.object "java/lang/String")) (by decide) (by decide)))).other W18 (Or.inr (slot_ne (Or.inr (w103 hw)) (Or.inr (w101 hw)) (by decide) (t := (.object "java/lang/String")) (t' := (.object "java/lang/String")) (by decide) (by decide)))).same W20
  refine Wk.aloadN (pc' := 26) C d_prog_13m1_25 rfl rfl rfl ?_
  refine Wk.lload (pc' := 28) C d_prog_13m1_26 rfl rfl ?_
  refine Wk.putF (pc' := 31) C d_prog_13m1_28 (w104 hw) Via.refl ((((F4.other W14 (Or.inr (slot_ne (Or.inr (w105 hw)) (Or.inr (w97 hw)) (by decide) (t := .long) (t' := (.object "java/lang/String")) (by decide) (by decide)))).other W16 (Or.inr (slot_ne (Or.inr (w105 hw)) (Or.inr (w99 hw)) (by decide) (t := .long) (t' := (.object "java/lang/String")) (by decide) (by decide)))).other W18 (Or.inr (slot_ne (Or.inr (w105 hw)) (Or.inr (w101 hw)) (by decide) (t := .long) (t' := (.object "java/lang/String")) (by decide) (by decide)))).other W20 (Or.inr (slot_ne (Or.inr (w105 hw)) (Or.inr (w103 hw)) (by decide) (t := .long) (t' := (.object "java/lang/String")) (by decide) (by decide)))) ((((E1.wr W14).wr W16).wr W18).wr W20) (Or.inr ⟨(w105 hw), rfl, rfl⟩) (w85 hw) (ty := .long) (by decide) rfl rfl g1 rfl ?_
  intro h22 W22 O22
  have F23 := ((((F4.other W14 (Or.inr (slot_ne (Or.inr (w105 hw)) (Or.inr (w97 hw)) (by decide) (t := .long) (t' := (.object "java/lang/String")) (by decide) (by decide)))).other W16 (Or.inr (slot_ne (Or.inr (w105 hw)) (Or.inr (w99 hw)) (by decide) (t := .long) (t' := (.object "java/lang/String")) (by decide) (by decide)))).other W18 (Or.inr (slot_ne (Or.inr (w105 hw)) (Or.inr (w101 hw)) (by decide) (t := .long) (t' := (.object "java/lang/String")) (by decide) (by decide)))).other W20 (Or.inr (slot_ne (Or.inr (w105 hw)) (Or.inr (w103 hw)) (by decide) (t := .long) (t' := (.object "java/lang/String")) (by decide) (by decide)))).same W22
  refine Wk.aloadN (pc' := 32) C d_prog_13m1_31 rfl rfl rfl ?_
  refine Wk.lload (pc' := 34) C d_prog_13m1_32 rfl rfl ?_
  refine Wk.putF (pc' := 37) C d_prog_13m1_34 (w106 hw) Via.refl (((((F5.other W14 (Or.inr (slot_ne (Or.inr (w107 hw)) (Or.inr (w97 hw)) (by decide) (t := .long) (t' := (.object "java/lang/String")) (by decide) (by decide)))).other W16 (Or.inr (slot_ne (Or.inr (w107 hw)) (Or.inr (w99 hw)) (by decide) (t := .long) (t' := (.object "java/lang/String")) (by decide) (by decide)))).other W18 (Or.inr (slot_ne (Or.inr (w107 hw)) (Or.inr (w101 hw)) (by decide) (t := .long) (t' := (.object "java/lang/String")) (by decide) (by decide)))).other W20 (Or.inr (slot_ne (Or.inr (w107 hw)) (Or.inr (w103 hw)) (by decide) (t := .long) (t' := (.object "java/lang/String")) (by decide) (by decide)))).other W22 (Or.inr (slot_ne (Or.inr (w107 hw)) (Or.inr (w105 hw)) (by decide) (t := .long) (t' := .long) (by decide) (by decide)))) (((((E1.wr W14).wr W16).wr W18).wr W20).wr W22) (Or.inr ⟨(w107 hw), rfl, rfl⟩) (w85 hw) (ty := .long) (by decide) rfl rfl g1 rfl ?_
  intro h24 W24 O24
  have F25 := (((((F5.other W14 (Or.inr (slot_ne (Or.inr (w107 hw)) (Or.inr (w97 hw)) (by decide) (t := .long) (t' := (.object "java/lang/String")) (by decide) (by decide)))).other W16 (Or.inr (slot_ne (Or.inr (w107 hw)) (Or.inr (w99 hw)) (by decide) (t := .long) (t' := (.object "java/lang/String")) (by decide) (by decide)))).other W18 (Or.inr (slot_ne (Or.inr (w107 hw)) (Or.inr (w101 hw)) (by decide) (t := .long) (t' := (.object "java/lang/String")) (by decide) (by decide)))).other W20 (Or.inr (slot_ne (Or.inr (w107 hw)) (Or.inr (w103 hw)) (by decide) (t := .long) (t' := (.object "java/lang/String")) (by decide) (by decide)))).other W22 (Or.inr (slot_ne (Or.inr (w107 hw)) (Or.inr (w105 hw)) (by decide) (t := .long) (t' := .long) (by decide) (by decide)))).same W24
  refine Wk.aloadN (pc' := 38) C d_prog_13m1_37 rfl rfl rfl ?_
  refine Wk.aload (pc' := 40) C d_prog_13m1_38 rfl rfl rfl ?_
  refine Wk.putF (pc' := 43) C d_prog_13m1_40 (w108 hw) Via.refl ((((((F6.other W14 (Or.inr (slot_ne (Or.inr (w109 hw)) (Or.inr (w97 hw)) (by decide) (t := (.object "java/lang/String")) (t' := (.object "java/lang/String")) (by decide) (by decide)))).other W16 (Or.inr (slot_ne (Or.inr (w109 hw)) (Or.inr (w99 hw)) (by decide) (t := (.object "java/lang/String")) (t' := (.object "java/lang/String")) (by decide) (by decide)))).other W18 (Or.inr (slot_ne (Or.inr (w109 hw)) (Or.inr (w101 hw)) (by decide) (t := (.object "java/lang/String")) (t' := (.object "java/lang/String")) (by decide) (by decide)))).other W20 (Or.inr (slot_ne (Or.inr (w109 hw)) (Or.inr (w103 hw)) (by decide) (t := (.object "java/lang/String")) (t' := (.object "java/lang/String")) (by decide) (by decide)))).other W22 (Or.inr (slot_ne (Or.inr (w109 hw)) (Or.inr (w105 hw)) (by decide) (t := (.object "java/lang/String")) (t' := .long) (by decide) (by decide)))).other W24 (Or.inr (slot_ne (Or.inr (w109 hw)) (Or.inr (w107 hw)) (by decide) (t := (.object "java/lang/String")) (t' := .long) (by decide) (by decide)))) ((((((E1.wr W14).wr W16).wr W18).wr W20).wr W22).wr W24) (Or.inr ⟨(w109 hw), rfl, rfl⟩) (w85 hw) (ty := (.object "java/lang/String")) (by decide) rfl rfl g1 rfl ?_
  intro h26 W26 O26
  have F27 := ((((((F6.other W14 (Or.inr (slot_ne (Or.inr (w109 hw)) (Or.inr (w97 hw)) (by decide) (t := (.object "java/lang/String")) (t' := (.object "java/lang/String")) (by decide) (by decide)))).other W16 (Or.inr (slot_ne (Or.inr (w109 hw)) (Or.inr (w99 hw)) (by decide) (t := (.object "java/lang/String")) (t' := (.object "java/lang/String")) (by decide) (by decide)))).other W18 (Or.inr (slot_ne (Or.inr (w109 hw)) (Or.inr (w101 hw)) (by decide) (t := (.object "java/lang/String")) (t' := (.object "java/lang/String")) (by decide) (by decide)))).other W20 (Or.inr (slot_ne (Or.inr (w109 hw)) (Or.inr (w103 hw)) (by decide) (t := (.object "java/lang/String")) (t' := (.object "java/lang/String")) (by decide) (by decide)))).other W22 (Or.inr (slot_ne (Or.inr (w109 hw)) (Or.inr (w105 hw)) (by decide) (t := (.object "java/lang/String")) (t' := .long) (by decide) (by decide)))).other W24 (Or.inr (slot_ne (Or.inr (w109 hw)) (Or.inr (w107 hw)) (by decide) (t := (.object "java/lang/String")) (t' := .long) (by decide) (by decide)))).same W26
  refine Wk.aloadN (pc' := 44) C d_prog_13m1_43 rfl rfl rfl ?_
  refine Wk.aload (pc' := 46) C d_prog_13m1_44 rfl rfl rfl ?_
  refine Wk.putF (pc' := 49) C d_prog_13m1_46 (w110 hw) Via.refl (((((((F7.other W14 (Or.inr (slot_ne (Or.inr (w111 hw)) (Or.inr (w97 hw)) (by decide) (t := (.object "java/util/List")) (t' := (.object "java/lang/String")) (by decide) (by decide)))).other W16 (Or.inr (slot_ne (Or.inr (w111 hw)) (Or.inr (w99 hw)) (by decide) (t := (.object "java/util/List")) (t' := (.object "java/lang/String")) (by decide) (by decide)))).other W18 (Or.inr (slot_ne (Or.inr (w111 hw)) (Or.inr (w101 hw)) (by decide) (t := (.object "java/util/List")) (t' := (.object "java/lang/String")) (by decide) (by decide)))).other W20 (Or.inr (slot_ne (Or.inr (w111 hw)) (Or.inr (w103 hw)) (by decide) (t := (.object "java/util/List")) (t' := (.object "java/lang/String")) (by decide) (by decide)))).other W22 (Or.inr (slot_ne (Or.inr (w111 hw)) (Or.inr (w105 hw)) (by decide) (t := (.object "java/util/List")) (t' := .long) (by decide) (by decide)))).other W24 (Or.inr (slot_ne (Or.inr (w111 hw)) (Or.inr (w107 hw)) (by decide) (t := (.object "java/util/List")) (t' := .long) (by decide) (by decide)))).other W26 (Or.inr (slot_ne (Or.inr (w111 hw)) (Or.inr (w109 hw)) (by decide) (t := (.object "java/util/List")) (t' := (.object "java/lang/String")) (by decide) (by decide)))) (((((((E1.wr W14).wr W16).wr W18).wr W20).wr W22).wr W24).wr W26) (Or.inr ⟨(w111 hw), rfl, rfl⟩) (w85 hw) (ty := (.object "java/util/List")) (by decide) rfl rfl g1 rfl ?_
  intro h28 W28 O28
  have F29 := (((((((F7.other W14 (Or.inr (slot_ne (Or.inr (w111 hw)) (Or.inr (w97 hw)) (by decide) (t := (.object "java/util/List")) (t' := (.object "java/lang/String")) (by decide) (by decide)))).other W16 (Or.inr (slot_ne (Or.inr (w111 hw)) (Or.inr (w99 hw)) (by decide) (t := (.object "java/util/List")) (t' := (.object "java/lang/String")) (by decide) (by decide)))).other W18 (Or.inr (slot_ne (Or.inr (w111 hw)) (Or.inr (w101 hw)) (by decide) (t := (.object "java/util/List")) (t' := (.object "java/lang/String")) (by decide) (by decide)))).other W20 (Or.inr (slot_ne (Or.inr (w111 hw)) (Or.inr (w103 hw)) (by decide) (t := (.object "java/util/List")) (t' := (.object "java/lang/String")) (by decide) (by decide)))).other W22 (Or.inr (slot_ne (Or.inr (w111 hw)) (Or.inr (w105 hw)) (by decide) (t := (.object "java/util/List")) (t' := .long) (by decide) (by decide)))).other W24 (Or.inr (slot_ne (Or.inr (w111 hw)) (Or.inr (w107 hw)) (by decide) (t := (.object "java/util/List")) (t' := .long) (by decide) (by decide)))).other W26 (Or.inr (slot_ne (Or.inr (w111 hw)) (Or.inr (w109 hw)) (by decide) (t := (.object "java/util/List")) (t' := (.object "java/lang/String")) (by decide) (by decide)))).same W28
  refine Wk.aloadN (pc' := 50) C d_prog_13m1_49 rfl rfl rfl ?_
  refine Wk.aload (pc' := 52) C d_prog_13m1_50 rfl rfl rfl ?_
  refine Wk.putF (pc' := 55) C d_prog_13m1_52 (w112 hw) Via.refl ((((((((F8.other W14 (Or.inr (slot_ne (Or.inr (w113 hw)) (Or.inr (w97 hw)) (by decide) (t := (.object "java/lang/String")) (t' := (.object "java/lang/String")) (by decide) (by decide)))).other W16 (Or.inr (slot_ne (Or.inr (w113 hw)) (Or.inr (w99 hw)) (by decide) (t := (.object "java/lang/String")) (t' := (.object "java/lang/String")) (by decide) (by decide)))).other W18 (Or.inr (slot_ne (Or.inr (w113 hw)) (Or.inr (w101 hw)) (by decide) (t := (.object "java/lang/String")) (t' := (.object "java/lang/String")) (by decide) (by decide)))).other W20 (Or.inr (slot_ne (Or.inr (w113 hw)) (Or.inr (w103 hw)) (by decide) (t := (.object "java/lang/String")) (t' := (.object "java/lang/String")) (by decide) (by decide)))).other W22 (Or.inr (slot_ne (Or.inr (w113 hw)) (Or.inr (w105 hw)) (by decide) (t := (.object "java/lang/String")) (t' := .long) (by decide) (by decide)))).other W24 (Or.inr (slot_ne (Or.inr (w113 hw)) (Or.inr (w107 hw)) (by decide) (t := (.object "java/lang/String")) (t' := .long) (by decide) (by decide)))).other W26 (Or.inr (slot_ne (Or.inr (w113 hw)) (Or.inr (w109 hw)) (by decide) (t := (.object "java/lang/String")) (t' := (.object "java/lang/String")) (by decide) (by decide)))).other W28 (Or.inr (slot_ne (Or.inr (w113 hw)) (Or.inr (w111 hw)) (by decide) (t := (.object "java/lang/String")) (t' := (.object "java/util/List")) (by decide) (by decide)))) ((((((((E1.wr W14).wr W16).wr W18).wr W20).wr W22).wr W24).wr W26).wr W28) (Or.inr ⟨(w113 hw), rfl, rfl⟩) (w85 hw) (ty := (.object "java/lang/String")) (by decide) rfl rfl g1 rfl ?_
  intro h30 W30 O30
  have F31 := ((((((((F8.other W14 (Or.inr (slot_ne (Or.inr (w113 hw)) (Or.inr (w97 hw)) (by decide) (t := (.object "java/lang/String")) (t' := (.object "java/lang/String")) (by decide) (by decide)))).other W16 (Or.inr (slot_ne (Or.inr (w113 hw)) (Or.inr (w99 hw)) (by decide) (t := (.object "java/lang/String")) (t' := (.object "java/lang/String")) (by decide) (by decide)))).other W18 (Or.inr (slot_ne (Or.inr (w113 hw)) (Or.inr (w101 hw)) (by decide) (t := (.object "java/lang/String")) (t' := (.object "java/lang/String")) (by decide) (by decide)))).other W20 (Or.inr (slot_ne (Or.inr (w113 hw)) (Or.inr (w103 hw)) (by decide) (t := (.object "java/lang/String")) (t' := (.object "java/lang/String")) (by decide) (by decide)))).other W22 (Or.inr (slot_ne (Or.inr (w113 hw)) (Or.inr (w105 hw)) (by decide) (t := (.object "java/lang/String")) (t' := .long) (by decide) (by decide)))).other W24 (Or.inr (slot_ne (Or.inr (w113 hw)) (Or.inr (w107 hw)) (by decide) (t := (.object "java/lang/String")) (t' := .long) (by decide) (by decide)))).other W26 (Or.inr (slot_ne (Or.inr (w113 hw)) (Or.inr (w109 hw)) (by decide) (t := (.object "java/lang/String")) (t' := (.object "java/lang/String")) (by decide) (by decide)))).other W28 (Or.inr (slot_ne (Or.inr (w113 hw)) (Or.inr (w111 hw)) (by decide) (t := (.object "java/lang/String")) (t' := (.object "java/util/List")) (by decide) (by decide)))).same W30
  exact Wk.retV C d_prog_13m1_55 (by decide) (by decide) ⟨rfl, ((((((((((Keep.refl _ _).wr W14 (Or.inl (List.mem_singleton.mpr rfl))).wr W16 (Or.inl (List.mem_singleton.mpr rfl))).wr W18 (Or.inl (List.mem_singleton.mpr rfl))).wr W20 (Or.inl (List.mem_singleton.mpr rfl))).wr W22 (Or.inl (List.mem_singleton.mpr rfl))).wr W24 (Or.inl (List.mem_singleton.mpr rfl))).wr W26 (Or.inl (List.mem_singleton.mpr rfl))).wr W28 (Or.inl (List.mem_singleton.mpr rfl))).wr W30 (Or.inl (List.mem_singleton.mpr rfl)))⟩
set_option maxRecDepth 65536 in
set_option maxHeartbeats 40000000 in
theorem own_vInit (l : Launch) {Z : State} {a0 : Array Value} (hw : Ws a0 Z) {h0 : Heap} (O0 : Ext Z.heap h0) (a1 o t : Addr) (e : Value) (he : e.isRef = true) (g1 : Z.heap.size ≤ a1) (E1 : Exa Z h0 a1 "com/example/scopegate/scopegate/token/Verdict") (F0 : Fld Z h0 a1 "com/example/scopegate/scopegate/token/Verdict" "outcome" "Lcom/example/scopegate/scopegate/token/Verdict$Outcome;" .null) (F1 : Fld Z h0 a1 "com/example/scopegate/scopegate/token/Verdict" "token" "Lcom/example/scopegate/scopegate/token/AccessToken;" .null) (F2 : Fld Z h0 a1 "com/example/scopegate/scopegate/token/Verdict" "requiredScope" "Ljava/lang/String;" .null) :
    Wk.Con l Z (⟨"com/example/scopegate/scopegate/token/Verdict", "<init>", "(Lcom/example/scopegate/scopegate/token/Verdict$Outcome;Lcom/example/scopegate/scopegate/token/AccessToken;Ljava/lang/String;)V"⟩ : MethodName) prog_19_method_1_code 4 none ({ frames := 2, cells := 0, slots := 0, locals := 24 } : Room) #[(.ref a1), (.ref o), (.ref t), e] h0 (fun v h' => v = none ∧ Keep h0 h' [a1] ∧ Exa Z h' a1 "com/example/scopegate/scopegate/token/Verdict" ∧ Fld Z h' a1 "com/example/scopegate/scopegate/token/Verdict" "outcome" "Lcom/example/scopegate/scopegate/token/Verdict$Outcome;" (.ref o) ∧ Fld Z h' a1 "com/example/scopegate/scopegate/token/Verdict" "token" "Lcom/example/scopegate/scopegate/token/AccessToken;" (.ref t) ∧ Fld Z h' a1 "com/example/scopegate/scopegate/token/Verdict" "requiredScope" "Ljava/lang/String;" e) := by
  refine Wk.Con.intro (plainFor_of_name pn5) O0 (fun m => ef10 m a1 o t e he) ?_
  intro W C
  replace C : Wk.Cx Z W "com/example/scopegate/scopegate/token/Verdict" "<init>" prog_19_method_1_code 4 none := C
  refine Wk.aloadN (pc' := 1) C d_prog_19m1_0 rfl rfl rfl ?_
  refine Wk.callI (pc' := 4) C d_prog_19m1_1 (a := a1) (Wk.Con.pays C (Wn := 0) (own_record l hw O0 a1) (w94 hw) (w93 hw) (by decide) (by decide)) Wk.cleanC rfl (w126 hw) (w91 hw) (w94 hw) (by decide) (argsL := []) (st := []) rfl rfl (lenOf pd0 rfl) rfl (Nat.le_of_eq rfl) (k' := 0) rfl (n' := 0) rfl (by decide) (by decide) rfl ?_
  intro r11 h12 Q12 O12
  obtain ⟨rfl, e13⟩ := Q12
  obtain rfl := e13.symm
  refine Wk.aloadN (pc' := 5) C d_prog_19m1_4 rfl rfl rfl ?_
  refine Wk.aloadN (pc' := 6) C d_prog_19m1_5 rfl rfl rfl ?_
  refine Wk.putF (pc' := 9) C d_prog_19m1_6 (w127 hw) Via.refl F0 E1 (Or.inr ⟨(w128 hw), rfl, rfl⟩) (w119 hw) (ty := (.object "com/example/scopegate/scopegate/token/Verdict$Outcome")) (by decide) rfl rfl g1 rfl ?_
  intro h14 W14 O14
  have F15 := F0.same W14
  refine Wk.aloadN (pc' := 10) C d_prog_19m1_9 rfl rfl rfl ?_
  refine Wk.aloadN (pc' := 11) C d_prog_19m1_10 rfl rfl rfl ?_
  refine Wk.putF (pc' := 14) C d_prog_19m1_11 (w129 hw) Via.refl (F1.other W14 (Or.inr (slot_ne (Or.inr (w130 hw)) (Or.inr (w128 hw)) (by decide) (t := (.object "com/example/scopegate/scopegate/token/AccessToken")) (t' := (.object "com/example/scopegate/scopegate/token/Verdict$Outcome")) (by decide) (by decide)))) (E1.wr W14) (Or.inr ⟨(w130 hw), rfl, rfl⟩) (w119 hw) (ty := (.object "com/example/scopegate/scopegate/token/AccessToken")) (by decide) rfl rfl g1 rfl ?_
  intro h16 W16 O16
  have F17 := (F1.other W14 (Or.inr (slot_ne (Or.inr (w130 hw)) (Or.inr (w128 hw)) (by decide) (t := (.object "com/example/scopegate/scopegate/token/AccessToken")) (t' := (.object "com/example/scopegate/scopegate/token/Verdict$Outcome")) (by decide) (by decide)))).same W16
  refine Wk.aloadN (pc' := 15) C d_prog_19m1_14 rfl rfl rfl ?_
  refine Wk.aloadN (pc' := 16) C d_prog_19m1_15 rfl he rfl ?_
  refine Wk.putF (pc' := 19) C d_prog_19m1_16 (w131 hw) Via.refl ((F2.other W14 (Or.inr (slot_ne (Or.inr (w132 hw)) (Or.inr (w128 hw)) (by decide) (t := (.object "java/lang/String")) (t' := (.object "com/example/scopegate/scopegate/token/Verdict$Outcome")) (by decide) (by decide)))).other W16 (Or.inr (slot_ne (Or.inr (w132 hw)) (Or.inr (w130 hw)) (by decide) (t := (.object "java/lang/String")) (t' := (.object "com/example/scopegate/scopegate/token/AccessToken")) (by decide) (by decide)))) ((E1.wr W14).wr W16) (Or.inr ⟨(w132 hw), rfl, rfl⟩) (w119 hw) (ty := (.object "java/lang/String")) (by decide) (Wk.narR he rfl) (Wk.fitR he rfl) g1 rfl ?_
  intro h18 W18 O18
  have F19 := ((F2.other W14 (Or.inr (slot_ne (Or.inr (w132 hw)) (Or.inr (w128 hw)) (by decide) (t := (.object "java/lang/String")) (t' := (.object "com/example/scopegate/scopegate/token/Verdict$Outcome")) (by decide) (by decide)))).other W16 (Or.inr (slot_ne (Or.inr (w132 hw)) (Or.inr (w130 hw)) (by decide) (t := (.object "java/lang/String")) (t' := (.object "com/example/scopegate/scopegate/token/AccessToken")) (by decide) (by decide)))).same W18
  exact Wk.retV C d_prog_19m1_19 (by decide) (by decide) ⟨rfl, ((((Keep.refl _ _).wr W14 (Or.inl (List.mem_singleton.mpr rfl))).wr W16 (Or.inl (List.mem_singleton.mpr rfl))).wr W18 (Or.inl (List.mem_singleton.mpr rfl))), (((E1.wr W14).wr W16).wr W18), ((F15.other W16 (Or.inr (slot_ne (Or.inr (w128 hw)) (Or.inr (w130 hw)) (by decide) (t := (.object "com/example/scopegate/scopegate/token/Verdict$Outcome")) (t' := (.object "com/example/scopegate/scopegate/token/AccessToken")) (by decide) (by decide)))).other W18 (Or.inr (slot_ne (Or.inr (w128 hw)) (Or.inr (w132 hw)) (by decide) (t := (.object "com/example/scopegate/scopegate/token/Verdict$Outcome")) (t' := (.object "java/lang/String")) (by decide) (by decide)))), (F17.other W18 (Or.inr (slot_ne (Or.inr (w130 hw)) (Or.inr (w132 hw)) (by decide) (t := (.object "com/example/scopegate/scopegate/token/AccessToken")) (t' := (.object "java/lang/String")) (by decide) (by decide)))), F19⟩
set_option maxRecDepth 65536 in
set_option maxHeartbeats 40000000 in
theorem own_valid (l : Launch) {Z : State} {a0 : Array Value} (hw : Ws a0 Z) {h0 : Heap} (O0 : Ext Z.heap h0) (o t : Addr) (e : Value) (he : e.isRef = true) (SO : Sta Z Z.heap "com/example/scopegate/scopegate/token/Verdict$Outcome" "VALID" "Lcom/example/scopegate/scopegate/token/Verdict$Outcome;" (.ref o)) :
    Wk.Con l Z (⟨"com/example/scopegate/scopegate/token/Verdict", "valid", "(Lcom/example/scopegate/scopegate/token/AccessToken;Ljava/lang/String;)Lcom/example/scopegate/scopegate/token/Verdict;"⟩ : MethodName) prog_19_method_2_code 2 (some (.object "com/example/scopegate/scopegate/token/Verdict")) ({ frames := 3, cells := 1, slots := 3, locals := 40 } : Room) #[(.ref t), e] h0 (fun v h' => ∃ b : Addr, v = some (.ref b) ∧ b = h0.size ∧ Ext h0 h' ∧ Exa Z h' b "com/example/scopegate/scopegate/token/Verdict" ∧ Fld Z h' b "com/example/scopegate/scopegate/token/Verdict" "outcome" "Lcom/example/scopegate/scopegate/token/Verdict$Outcome;" (.ref o) ∧ Fld Z h' b "com/example/scopegate/scopegate/token/Verdict" "token" "Lcom/example/scopegate/scopegate/token/AccessToken;" (.ref t) ∧ Fld Z h' b "com/example/scopegate/scopegate/token/Verdict" "requiredScope" "Ljava/lang/String;" e) := by
  refine Wk.Con.intro (plainFor_of_name pn5) O0 (fun m => ef11 m t e he) ?_
  intro W C
  replace C : Wk.Cx Z W "com/example/scopegate/scopegate/token/Verdict" "valid" prog_19_method_2_code 2 (some (.object "com/example/scopegate/scopegate/token/Verdict")) := C
  refine Wk.newO (pc' := 3) C d_prog_19m2_0 (w118 hw) (w119 hw) (w116 hw) (k' := 1) rfl (n' := 3) rfl (by decide) (by decide) rfl ?_
  intro a11 h12 ga11 za11 E12 Aa11 Da11 Ua11 O12
  have F13 : Fld Z h12 a11 "com/example/scopegate/scopegate/token/Verdict" "outcome" "Lcom/example/scopegate/scopegate/token/Verdict$Outcome;" .null := Da11 (Or.inr (w128 hw)) (ty := (.object "com/example/scopegate/scopegate/token/Verdict$Outcome")) (by decide)
  have F14 : Fld Z h12 a11 "com/example/scopegate/scopegate/token/Verdict" "token" "Lcom/example/scopegate/scopegate/token/AccessToken;" .null := Da11 (Or.inr (w130 hw)) (ty := (.object "com/example/scopegate/scopegate/token/AccessToken")) (by decide)
  have F15 : Fld Z h12 a11 "com/example/scopegate/scopegate/token/Verdict" "requiredScope" "Ljava/lang/String;" .null := Da11 (Or.inr (w132 hw)) (ty := (.object "java/lang/String")) (by decide)
  refine Wk.dup (pc' := 4) C d_prog_19m2_3 rfl rfl ?_
  refine Wk.getS (pc' := 7) C d_prog_19m2_4 (w120 hw) Via.refl (SO.ext O12) rfl ?_
  refine Wk.aloadN (pc' := 8) C d_prog_19m2_7 rfl rfl rfl ?_
  refine Wk.aloadN (pc' := 9) C d_prog_19m2_8 rfl he rfl ?_
  refine Wk.callI (pc' := 12) C d_prog_19m2_9 (a := a11) (Wk.Con.pays C (Wn := 1) (own_vInit l hw O12 a11 o t e he za11 Aa11 F13 F14 F15) (w125 hw) (w116 hw) (by decide) (by decide)) Wk.cleanC rfl (w123 hw) (w124 hw) (w125 hw) (by decide) (argsL := [(.ref o), (.ref t), e]) (st := [(.ref a11)]) rfl rfl (lenOf pd5 rfl) rfl (Nat.le_of_eq rfl) (k' := 1) rfl (n' := 3) rfl (by decide) (by decide) rfl ?_
  intro r16 h17 Q17 O17
  obtain ⟨rfl, K17, A17, P17, T17, S17⟩ := Q17
  have X18 : Ext h0 h17 := Wk.Ext.keep1 (Z := Z) E12 K17 (Nat.le_of_eq ga11.symm)
  exact Wk.retA C rfl rfl d_prog_19m2_12 (by decide) (by decide) ⟨_, rfl, ga11, X18, A17, P17, T17, S17⟩
set_option maxRecDepth 65536 in
set_option maxHeartbeats 40000000 in
theorem own_rd_outcome (l : Launch) {Z : State} {a0 : Array Value} (hw : Ws a0 Z) {h0 : Heap} (O0 : Ext Z.heap h0) (a1 : Addr) (r : Addr) (F : Fld Z h0 a1 "com/example/scopegate/scopegate/token/Verdict" "outcome" "Lcom/example/scopegate/scopegate/token/Verdict$Outcome;" (.ref r)) :
    Wk.Con l Z (⟨"com/example/scopegate/scopegate/token/Verdict", "outcome", "()Lcom/example/scopegate/scopegate/token/Verdict$Outcome;"⟩ : MethodName) prog_19_method_8_code 1 (some (.object "com/example/scopegate/scopegate/token/Verdict$Outcome")) ({ frames := 0, cells := 0, slots := 0, locals := 0 } : Room) #[(.ref a1)] h0 (fun v h' => v = some (.ref r) ∧ h' = h0) := by
  refine Wk.Con.intro (plainFor_of_name pn5) O0 (fun m => ef12 m a1) ?_
  intro W C
  replace C : Wk.Cx Z W "com/example/scopegate/scopegate/token/Verdict" "outcome" prog_19_method_8_code 1 (some (.object "com/example/scopegate/scopegate/token/Verdict$Outcome")) := C
  refine Wk.aloadN (pc' := 1) C d_prog_19m8_0 rfl rfl rfl ?_
  refine Wk.getF (pc' := 4) C d_prog_19m8_1 (w127 hw) Via.refl F rfl ?_
  exact Wk.retA C rfl rfl d_prog_19m8_4 (by decide) (by decide) ⟨rfl, rfl⟩
set_option maxRecDepth 65536 in
set_option maxHeartbeats 40000000 in
theorem own_rd_token (l : Launch) {Z : State} {a0 : Array Value} (hw : Ws a0 Z) {h0 : Heap} (O0 : Ext Z.heap h0) (a1 : Addr) (r : Addr) (F : Fld Z h0 a1 "com/example/scopegate/scopegate/token/Verdict" "token" "Lcom/example/scopegate/scopegate/token/AccessToken;" (.ref r)) :
    Wk.Con l Z (⟨"com/example/scopegate/scopegate/token/Verdict", "token", "()Lcom/example/scopegate/scopegate/token/AccessToken;"⟩ : MethodName) prog_19_method_9_code 1 (some (.object "com/example/scopegate/scopegate/token/AccessToken")) ({ frames := 0, cells := 0, slots := 0, locals := 0 } : Room) #[(.ref a1)] h0 (fun v h' => v = some (.ref r) ∧ h' = h0) := by
  refine Wk.Con.intro (plainFor_of_name pn5) O0 (fun m => ef13 m a1) ?_
  intro W C
  replace C : Wk.Cx Z W "com/example/scopegate/scopegate/token/Verdict" "token" prog_19_method_9_code 1 (some (.object "com/example/scopegate/scopegate/token/AccessToken")) := C
  refine Wk.aloadN (pc' := 1) C d_prog_19m9_0 rfl rfl rfl ?_
  refine Wk.getF (pc' := 4) C d_prog_19m9_1 (w129 hw) Via.refl F rfl ?_
  exact Wk.retA C rfl rfl d_prog_19m9_4 (by decide) (by decide) ⟨rfl, rfl⟩
set_option maxRecDepth 65536 in
set_option maxHeartbeats 40000000 in
theorem own_rd_requiredScope (l : Launch) {Z : State} {a0 : Array Value} (hw : Ws a0 Z) {h0 : Heap} (O0 : Ext Z.heap h0) (a1 : Addr) (r : Value) (hr : r.isRef = true) (F : Fld Z h0 a1 "com/example/scopegate/scopegate/token/Verdict" "requiredScope" "Ljava/lang/String;" r) :
    Wk.Con l Z (⟨"com/example/scopegate/scopegate/token/Verdict", "requiredScope", "()Ljava/lang/String;"⟩ : MethodName) prog_19_method_10_code 1 (some (.object "java/lang/String")) ({ frames := 0, cells := 0, slots := 0, locals := 0 } : Room) #[(.ref a1)] h0 (fun v h' => v = some r ∧ h' = h0) := by
  refine Wk.Con.intro (plainFor_of_name pn5) O0 (fun m => ef14 m a1) ?_
  intro W C
  replace C : Wk.Cx Z W "com/example/scopegate/scopegate/token/Verdict" "requiredScope" prog_19_method_10_code 1 (some (.object "java/lang/String")) := C
  refine Wk.aloadN (pc' := 1) C d_prog_19m10_0 rfl rfl rfl ?_
  refine Wk.getF (pc' := 4) C d_prog_19m10_1 (w131 hw) Via.refl F rfl ?_
  exact Wk.retA C rfl hr d_prog_19m10_4 (by decide) (by decide) ⟨rfl, rfl⟩
set_option maxRecDepth 65536 in
set_option maxHeartbeats 40000000 in
theorem own_challenge (l : Launch) {Z : State} {a0 : Array Value} (hw : Ws a0 Z) {h0 : Heap} (O0 : Ext Z.heap h0) (a1 o : Addr) (SO : Sta Z Z.heap "com/example/scopegate/scopegate/token/Verdict$Outcome" "VALID" "Lcom/example/scopegate/scopegate/token/Verdict$Outcome;" (.ref o)) (F : Fld Z h0 a1 "com/example/scopegate/scopegate/token/Verdict" "outcome" "Lcom/example/scopegate/scopegate/token/Verdict$Outcome;" (.ref o)) :
    Wk.Con l Z (⟨"com/example/scopegate/scopegate/token/Verdict", "challenge", "()Ljava/lang/String;"⟩ : MethodName) prog_19_method_4_code 1 (some (.object "java/lang/String")) ({ frames := 0, cells := 0, slots := 0, locals := 0 } : Room) #[(.ref a1)] h0 (fun v h' => v = some .null ∧ h' = h0) := by
  refine Wk.Con.intro (plainFor_of_name pn5) O0 (fun m => ef15 m a1) ?_
  intro W C
  replace C : Wk.Cx Z W "com/example/scopegate/scopegate/token/Verdict" "challenge" prog_19_method_4_code 1 (some (.object "java/lang/String")) := C
  refine Wk.aloadN (pc' := 1) C d_prog_19m4_0 rfl rfl rfl ?_
  refine Wk.getF (pc' := 4) C d_prog_19m4_1 (w127 hw) Via.refl F rfl ?_
  refine Wk.getS (pc' := 7) C d_prog_19m4_4 (w120 hw) Via.refl (SO.ext O0) rfl ?_
  refine Wk.acmp_ne C d_prog_19m4_7 rfl rfl (by decide) (pcT := 12) (by decide) (pc' := 10) rfl (fun q => absurd rfl q) (fun q11 => ?_)
  refine Wk.aconstNull (pc' := 11) C d_prog_19m4_10 rfl ?_
  exact Wk.retA C rfl rfl d_prog_19m4_11 (by decide) (by decide) ⟨rfl, rfl⟩
set_option maxRecDepth 65536 in
set_option maxHeartbeats 40000000 in
theorem own_status (l : Launch) {Z : State} {a0 : Array Value} (hw : Ws a0 Z) {h0 : Heap} (O0 : Ext Z.heap h0) (o : Addr) (F : Fld Z h0 o "com/example/scopegate/scopegate/token/Verdict$Outcome" "status" "I" (.int (200 : Int32))) :
    Wk.Con l Z (⟨"com/example/scopegate/scopegate/token/Verdict$Outcome", "status", "()I"⟩ : MethodName) prog_20_method_4_code 1 (some .int) ({ frames := 0, cells := 0, slots := 0, locals := 0 } : Room) #[(.ref o)] h0 (fun v h' => v = some (.int (200 : Int32)) ∧ h' = h0) := by
  refine Wk.Con.intro (plainFor_of_name pn6) O0 (fun m => ef16 m o) ?_
  intro W C
  replace C : Wk.Cx Z W "com/example/scopegate/scopegate/token/Verdict$Outcome" "status" prog_20_method_4_code 1 (some .int) := C
  refine Wk.aloadN (pc' := 1) C d_prog_20m4_0 rfl rfl rfl ?_
  refine Wk.getF (pc' := 4) C d_prog_20m4_1 (w159 hw) Via.refl F rfl ?_
  exact Wk.retI C d_prog_20m4_4 (by decide) (by decide) ⟨rfl, rfl⟩
set_option maxRecDepth 65536 in
set_option maxHeartbeats 40000000 in
theorem own_error (l : Launch) {Z : State} {a0 : Array Value} (hw : Ws a0 Z) {h0 : Heap} (O0 : Ext Z.heap h0) (o : Addr) (F : Fld Z h0 o "com/example/scopegate/scopegate/token/Verdict$Outcome" "error" "Ljava/lang/String;" .null) :
    Wk.Con l Z (⟨"com/example/scopegate/scopegate/token/Verdict$Outcome", "error", "()Ljava/lang/String;"⟩ : MethodName) prog_20_method_5_code 1 (some (.object "java/lang/String")) ({ frames := 0, cells := 0, slots := 0, locals := 0 } : Room) #[(.ref o)] h0 (fun v h' => v = some .null ∧ h' = h0) := by
  refine Wk.Con.intro (plainFor_of_name pn6) O0 (fun m => ef17 m o) ?_
  intro W C
  replace C : Wk.Cx Z W "com/example/scopegate/scopegate/token/Verdict$Outcome" "error" prog_20_method_5_code 1 (some (.object "java/lang/String")) := C
  refine Wk.aloadN (pc' := 1) C d_prog_20m5_0 rfl rfl rfl ?_
  refine Wk.getF (pc' := 4) C d_prog_20m5_1 (w166 hw) Via.refl F rfl ?_
  exact Wk.retA C rfl rfl d_prog_20m5_4 (by decide) (by decide) ⟨rfl, rfl⟩
set_option maxRecDepth 65536 in
set_option maxHeartbeats 40000000 in
theorem own_canEnc (l : Launch) {Z : State} {a0 : Array Value} (hw : Ws a0 Z) {h0 : Heap} (O0 : Ext Z.heap h0) (c : Int32) (hc : ¬ c < 0 ∧ ¬ (255 : Int32) < c) :
    Wk.Con l Z (⟨"java/lang/StringLatin1", "canEncode", "(C)Z"⟩ : MethodName) jdk_43_method_3_code 1 (some .boolean) ({ frames := 0, cells := 0, slots := 0, locals := 0 } : Room) #[(.int c)] h0 (fun v h' => v = some (.int 1) ∧ h' = h0) := by
  refine Wk.Con.intro (plainFor_of_name pn7) O0 (fun m => ef18 m c) ?_
  intro W C
  replace C : Wk.Cx Z W "java/lang/StringLatin1" "canEncode" jdk_43_method_3_code 1 (some .boolean) := C
  refine Wk.iloadN (pc' := 1) C d_jdk_43m3_0 rfl rfl ?_
  refine Wk.sipush (pc' := 4) C d_jdk_43m3_1 (v := (255 : Int32)) rfl rfl ?_
  refine Wk.icmp_gt C d_jdk_43m3_4 (by decide) (pcT := 11) (by decide) (pc' := 7) rfl (fun q => absurd q hc.2) (fun q11 => ?_)
  refine Wk.iconst (pc' := 8) C d_jdk_43m3_7 (v := (1 : Int32)) rfl rfl ?_
  refine Wk.goto C d_jdk_43m3_8 (by decide) (pc' := 12) (by decide) ?_
  exact Wk.retNar (ty := .boolean) C (by simp) d_jdk_43m3_12 rfl (by decide) (by decide) ⟨rfl, rfl⟩
set_option maxRecDepth 65536 in
set_option maxHeartbeats 40000000 in
theorem own_toBytes (l : Launch) {Z : State} {a0 : Array Value} (hw : Ws a0 Z) {h0 : Heap} (O0 : Ext Z.heap h0) (c : Int32)  :
    Wk.Con l Z (⟨"java/lang/StringLatin1", "toBytes", "(C)[B"⟩ : MethodName) jdk_43_method_46_code 1 (some (.array .byte)) ({ frames := 0, cells := 1, slots := 1, locals := 0 } : Room) #[(.int c)] h0 (fun v h' => ∃ b : Addr, v = some (.ref b) ∧ b = h0.size ∧ Ext h0 h' ∧ Wk.Ary Z h' b .byte [.int c.toInt8.toInt32]) := by
  refine Wk.Con.intro (plainFor_of_name pn7) O0 (fun m => ef19 m c) ?_
  intro W C
  replace C : Wk.Cx Z W "java/lang/StringLatin1" "toBytes" jdk_43_method_46_code 1 (some (.array .byte)) := C
  refine Wk.iconst (pc' := 1) C d_jdk_43m46_0 (v := (1 : Int32)) rfl rfl ?_
  refine Wk.newA (pc' := 3) C d_jdk_43m46_1 (ty := .byte) rfl (w3 hw) (by decide) (cap := 1) (by decide) (by decide) (k' := 1) rfl (n' := 1) rfl (by decide) (by decide) rfl rfl ?_
  intro a11 h12 ga11 za11 E12 Va11 O12
  have V13 : Wk.Ary Z h12 a11 .byte [(.int (0 : Int32))] := Va11
  refine Wk.dup (pc' := 4) C d_jdk_43m46_3 rfl rfl ?_
  refine Wk.iconst (pc' := 5) C d_jdk_43m46_4 (v := (0 : Int32)) rfl rfl ?_
  refine Wk.iloadN (pc' := 6) C d_jdk_43m46_5 rfl rfl ?_
  obtain ⟨v14, hv14⟩ : ∃ z : Int32, c.toInt8.toInt32 = z := ⟨_, rfl⟩
  refine Wk.i2b (pc' := 7) C d_jdk_43m46_6 hv14 rfl ?_
  refine Wk.bastore (pc' := 8) C d_jdk_43m46_7 V13 (by decide) (show _ < _ from Nat.le_of_ble_eq_true rfl) (vs' := [(.int v14)]) (by rw [Wk.nar_i2b hv14]; rfl) za11 rfl ?_
  intro h15 W15 V15 O15
  have X16 : Ext h0 h15 := Wk.Ext.wr (Z := Z) E12 W15 (Nat.le_of_eq ga11.symm)
  exact Wk.retA C rfl rfl d_jdk_43m46_8 (by decide) (by decide) ⟨_, rfl, ga11, X16, by rw [hv14]; exact V15⟩
set_option maxRecDepth 65536 in
set_option maxHeartbeats 40000000 in
theorem own_strInitB (l : Launch) {Z : State} {a0 : Array Value} (hw : Ws a0 Z) {h0 : Heap} (O0 : Ext Z.heap h0) (a1 a2 : Addr) (v0 c0 : Value) (g1 : Z.heap.size ≤ a1) (E1 : Exa Z h0 a1 "java/lang/String") (F1 : Fld Z h0 a1 "java/lang/String" "value" "[B" v0) (F2 : Fld Z h0 a1 "java/lang/String" "coder" "B" c0) :
    Wk.Con l Z (⟨"java/lang/String", "<init>", "([BB)V"⟩ : MethodName) jdk_42_method_151_code 3 none ({ frames := 1, cells := 0, slots := 0, locals := 12 } : Room) #[(.ref a1), (.ref a2), (.int (0 : Int32))] h0 (fun v h' => v = none ∧ Keep h0 h' [a1] ∧ Exa Z h' a1 "java/lang/String" ∧ Fld Z h' a1 "java/lang/String" "value" "[B" (.ref a2) ∧ Fld Z h' a1 "java/lang/String" "coder" "B" (.int 0)) := by
  refine Wk.Con.intro (plainFor_of_name pn8) O0 (fun m => ef20 m a1 a2) ?_
  intro W C
  replace C : Wk.Cx Z W "java/lang/String" "<init>" jdk_42_method_151_code 3 none := C
  refine Wk.aloadN (pc' := 1) C d_jdk_42m151_0 rfl rfl rfl ?_
  refine Wk.initO (pc' := 4) C d_jdk_42m151_1 (Wn := 0) (w24 hw) (w25 hw) (w26 hw) rfl (by decide) (Nat.le_of_eq rfl) (by decide) rfl ?_
  refine Wk.aloadN (pc' := 5) C d_jdk_42m151_4 rfl rfl rfl ?_
  refine Wk.aloadN (pc' := 6) C d_jdk_42m151_5 rfl rfl rfl ?_
  refine Wk.putF (pc' := 9) C d_jdk_42m151_6 (w27 hw) Via.refl F1 E1 (Or.inr ⟨(w4 hw), rfl, rfl⟩) (w2 hw) (ty := (.array .byte)) (by decide) rfl rfl g1 rfl ?_
  intro h11 W11 O11
  have F12 := F1.same W11
  refine Wk.aloadN (pc' := 10) C d_jdk_42m151_9 rfl rfl rfl ?_
  refine Wk.iloadN (pc' := 11) C d_jdk_42m151_10 rfl rfl ?_
  refine Wk.putF (pc' := 14) C d_jdk_42m151_11 (w28 hw) Via.refl (F2.other W11 (Or.inr (slot_ne (Or.inr (w5 hw)) (Or.inr (w4 hw)) (by decide) (t := .byte) (t' := (.array .byte)) (by decide) (by decide)))) (E1.wr W11) (Or.inr ⟨(w5 hw), rfl, rfl⟩) (w2 hw) (ty := .byte) (by decide) (by decide) (by decide) g1 rfl ?_
  intro h13 W13 O13
  have F14 := (F2.other W11 (Or.inr (slot_ne (Or.inr (w5 hw)) (Or.inr (w4 hw)) (by decide) (t := .byte) (t' := (.array .byte)) (by decide) (by decide)))).same W13
  exact Wk.retV C d_jdk_42m151_14 (by decide) (by decide) ⟨rfl, (((Keep.refl _ _).wr W11 (Or.inl (List.mem_singleton.mpr rfl))).wr W13 (Or.inl (List.mem_singleton.mpr rfl))), ((E1.wr W11).wr W13), (F12.other W13 (Or.inr (slot_ne (Or.inr (w4 hw)) (Or.inr (w5 hw)) (by decide) (t := (.array .byte)) (t' := .byte) (by decide) (by decide)))), F14⟩
set_option maxRecDepth 65536 in
set_option maxHeartbeats 40000000 in
theorem own_valueOf (l : Launch) {Z : State} {a0 : Array Value} (hw : Ws a0 Z) {h0 : Heap} (O0 : Ext Z.heap h0) (hs : Sets Z) (c : Int32) (hc : ¬ c < 0 ∧ ¬ (255 : Int32) < c) :
    Wk.Con l Z (⟨"java/lang/String", "valueOf", "(C)Ljava/lang/String;"⟩ : MethodName) jdk_42_method_139_code 1 (some (.object "java/lang/String")) ({ frames := 2, cells := 2, slots := 5, locals := 40 } : Room) #[(.int c)] h0 (fun v h' => ∃ a : Addr, v = some (.ref a) ∧ a = h0.size ∧ Ext h0 h' ∧ Str Z h' a [c]) := by
  refine Wk.Con.intro (plainFor_of_name pn8) O0 (fun m => ef21 m c) ?_
  intro W C
  replace C : Wk.Cx Z W "java/lang/String" "valueOf" jdk_42_method_139_code 1 (some (.object "java/lang/String")) := C
  obtain ⟨zc, fm, SC, hzc, -, -⟩ := hs
  refine Wk.getS (pc' := 3) C d_jdk_42m139_0 (w11 hw) Via.refl (SC.ext O0) rfl ?_
  refine Wk.if_eq C d_jdk_42m139_3 (by decide) (pcT := 26) (by decide) (pc' := 6) rfl (fun q => absurd q hzc) (fun q11 => ?_)
  refine Wk.iloadN (pc' := 7) C d_jdk_42m139_6 rfl rfl ?_
  refine Wk.callS (pc' := 10) C d_jdk_42m139_7 (Wk.Con.pays C (Wn := 0) (own_canEnc l hw O0 c hc) (w15 hw) (w14 hw) (by decide) (by decide)) Wk.cleanC (w12 hw) (w13 hw) (w14 hw) (w15 hw) (by decide) (argsL := [(.int c)]) (st := []) rfl rfl (lenOf pd6 rfl) rfl (Nat.le_of_eq rfl) (k' := 0) rfl (n' := 0) rfl (by decide) (by decide) rfl ?_
  intro r12 h13 Q13 O13
  obtain ⟨rfl, e14⟩ := Q13
  obtain rfl := e14.symm
  refine Wk.if_eq C d_jdk_42m139_10 (by decide) (pcT := 26) (by decide) (pc' := 13) rfl (fun q => absurd q (by decide)) (fun q15 => ?_)
  refine Wk.newO (pc' := 16) C d_jdk_42m139_13 (w16 hw) (w2 hw) (w1 hw) (k' := 1) rfl (n' := 4) rfl (by decide) (by decide) rfl ?_
  intro a16 h17 ga16 za16 E17 Aa16 Da16 Ua16 O17
  have F18 : Fld Z h17 a16 "java/lang/String" "value" "[B" .null := Da16 (Or.inr (w4 hw)) (ty := (.array .byte)) (by decide)
  have F19 : Fld Z h17 a16 "java/lang/String" "coder" "B" (.int (0 : Int32)) := Da16 (Or.inr (w5 hw)) (ty := .byte) (by decide)
  refine Wk.dup (pc' := 17) C d_jdk_42m139_16 rfl rfl ?_
  refine Wk.iloadN (pc' := 18) C d_jdk_42m139_17 rfl rfl ?_
  refine Wk.callS (pc' := 21) C d_jdk_42m139_18 (Wk.Con.pays C (Wn := 2) (own_toBytes l hw O17 c) (w19 hw) (w14 hw) (by decide) (by decide)) Wk.cleanC (w17 hw) (w18 hw) (w14 hw) (w19 hw) (by decide) (argsL := [(.int c)]) (st := [(.ref a16), (.ref a16)]) rfl rfl (lenOf pd7 rfl) rfl (Nat.le_of_eq rfl) (k' := 2) rfl (n' := 5) rfl (by decide) (by decide) rfl ?_
  intro r20 h21 Q21 O21
  obtain ⟨b22, rfl, gb22, Eh21, Vh21⟩ := Q21
  refine Wk.iconst (pc' := 22) C d_jdk_42m139_21 (v := (0 : Int32)) rfl rfl ?_
  refine Wk.callI (pc' := 25) C d_jdk_42m139_22 (a := a16) (Wk.Con.pays C (Wn := 1) (own_strInitB l hw O21 a16 b22 _ _ za16 (Aa16.ext Eh21) (F18.ext Eh21) (F19.ext Eh21)) (w23 hw) (w1 hw) (by decide) (by decide)) Wk.cleanC rfl (w20 hw) (w21 hw) (w23 hw) (by decide) (argsL := [(.ref b22), (.int (0 : Int32))]) (st := [(.ref a16)]) rfl rfl (lenOf pd8 rfl) rfl (Nat.le_of_eq rfl) (k' := 2) rfl (n' := 5) rfl (by decide) (by decide) rfl ?_
  intro r23 h24 Q24 O24
  obtain ⟨rfl, Kh24, Ah24, Vh24, Ch24⟩ := Q24
  have X25 : Ext h0 h21 := Wk.Ext.trans E17 Eh21
  have X26 : Ext h0 h24 := Wk.Ext.keep1 (Z := Z) X25 Kh24 (Nat.le_of_eq ga16.symm)
  exact Wk.retA C rfl rfl d_jdk_42m139_25 (by decide) (by decide) ⟨_, rfl, ga16, X26, Ah24, Ch24, ⟨_, Vh24, (Vh21.keep Kh24 (ninS (Ne.symm (Nat.ne_of_lt (Nat.lt_of_lt_of_le Aa16.lt (Nat.le_of_eq gb22.symm)))) nin0))⟩, List.forall_mem_cons.mpr ⟨hc, (fun _ h => nomatch h)⟩, (show 1 ≤ 4000 by decide)⟩
set_option maxRecDepth 65536 in
set_option maxHeartbeats 80000000 in
theorem own_law (l : Launch) {Z : State} {a0 : Array Value} (hw : Ws a0 Z) (hE : EW Z a0 EL) (p0 p1 : Int32) (p2 p3 : Int64) (aD o : Addr) (SD : Sta Z Z.heap "java/util/ArrayList" "DEFAULTCAPACITY_EMPTY_ELEMENTDATA" "[Ljava/lang/Object;" (.ref aD)) (VD : Wk.Ary Z Z.heap aD (.object "java/lang/Object") []) (SO : Sta Z Z.heap "com/example/scopegate/scopegate/token/Verdict$Outcome" "VALID" "Lcom/example/scopegate/scopegate/token/Verdict$Outcome;" (.ref o)) (EO : Exa Z Z.heap o "com/example/scopegate/scopegate/token/Verdict$Outcome") (FO0 : Fld Z Z.heap o "com/example/scopegate/scopegate/token/Verdict$Outcome" "status" "I" (.int 200)) (FO1 : Fld Z Z.heap o "com/example/scopegate/scopegate/token/Verdict$Outcome" "error" "Ljava/lang/String;" .null) (hs : Sets Z) :
    Ww.Con l Z EL x code maxLocals ret room_1 #[(.int p0), (.int p1), (.long p2), (.long p3)] Z.heap (fun v _ => v = some (.int 1)) := by
  refine Ww.Con.intro (plainFor_of_name pn9) (Wk.Ext.refl _) (fun m => ef22 m p0 p1 p2 p3) ?_
  intro W C
  replace C : Wk.Cx Z W "com/example/scopegate/scopegate/token/VerdictValidPinLaw" "law" code 15 (some .boolean) := C
  have O0 : Ext Z.heap Z.heap := Wk.Ext.refl _
  refine Ww.iloadN (pc' := 1) C at_0 rfl rfl ?_
  refine Ww.sipush (pc' := 4) C at_1 (v := (255 : Int32)) rfl rfl ?_
  obtain ⟨v11, hv11⟩ : ∃ z : Int32, p0 &&& (255 : Int32) = z := ⟨_, rfl⟩
  refine Ww.iand (pc' := 5) C at_4 hv11 rfl ?_
  obtain ⟨v12, hv12⟩ : ∃ z : Int32, v11.toUInt32.toUInt16.toUInt32.toInt32 = z := ⟨_, rfl⟩
  refine Ww.i2c (pc' := 6) C at_5 hv12 rfl ?_
  refine Ww.istore (pc' := 8) C at_6 (Ls' := #[.val (.int p0), .val (.int p1), .val (.long p2), .second, .val (.long p3), .second, .val (.int v12), .unset, .unset, .unset, .unset, .unset, .unset, .unset, .unset]) rfl rfl ?_
  refine Ww.iloadN (pc' := 9) C at_8 rfl rfl ?_
  refine Ww.bipush (pc' := 11) C at_9 (v := (8 : Int32)) rfl rfl ?_
  obtain ⟨v13, hv13⟩ : ∃ z : Int32, (p0.toUInt32 >>> ((8 : Int32) &&& 31).toUInt32).toInt32 = z := ⟨_, rfl⟩
  refine Ww.iushr (pc' := 12) C at_11 hv13 rfl ?_
  refine Ww.sipush (pc' := 15) C at_12 (v := (255 : Int32)) rfl rfl ?_
  obtain ⟨v14, hv14⟩ : ∃ z : Int32, v13 &&& (255 : Int32) = z := ⟨_, rfl⟩
  refine Ww.iand (pc' := 16) C at_15 hv14 rfl ?_
  obtain ⟨v15, hv15⟩ : ∃ z : Int32, v14.toUInt32.toUInt16.toUInt32.toInt32 = z := ⟨_, rfl⟩
  refine Ww.i2c (pc' := 17) C at_16 hv15 rfl ?_
  refine Ww.istore (pc' := 19) C at_17 (Ls' := #[.val (.int p0), .val (.int p1), .val (.long p2), .second, .val (.long p3), .second, .val (.int v12), .val (.int v15), .unset, .unset, .unset, .unset, .unset, .unset, .unset]) rfl rfl ?_
  refine Ww.iloadN (pc' := 20) C at_19 rfl rfl ?_
  refine Ww.iconst (pc' := 21) C at_20 (v := (3 : Int32)) rfl rfl ?_
  obtain ⟨v16, hv16⟩ : ∃ z : Int32, p1 &&& (3 : Int32) = z := ⟨_, rfl⟩
  refine Ww.iand (pc' := 22) C at_21 hv16 rfl ?_
  refine Ww.istore (pc' := 24) C at_22 (Ls' := #[.val (.int p0), .val (.int p1), .val (.long p2), .second, .val (.long p3), .second, .val (.int v12), .val (.int v15), .val (.int v16), .unset, .unset, .unset, .unset, .unset, .unset]) rfl rfl ?_
  have J86 : ∀ (e : Value) hx, e.isRef = true → Ext Z.heap hx → Ww.Run l room_1 Z EL W (fun v _ => v = some (.int 1)) [] hx 4 16 (mkF W.m 86 #[.val (.int p0), .val (.int p1), .val (.long p2), .second, .val (.long p3), .second, .val (.int v12), .val (.int v15), .val (.int v16), .val e, .unset, .unset, .unset, .unset, .unset] []) := by
    intro e hx he Ox
    refine Ww.iload (pc' := 88) C at_86 rfl rfl ?_
    refine Ww.callS (pc' := 91) C at_88 (fun vm0 C => (Wk.Con.pays C (Wn := 0) (own_valueOf l hw Ox hs v15 (Wk.rng255 hv14 hv15)) (w10 hw) (w1 hw) (by decide) (by decide))) Wk.cleanC (fun v h' q => by obtain ⟨_, -, -, e, -⟩ := q; exact Or.inr (Or.inl e)) (w8 hw) (w9 hw) (w1 hw) (w10 hw) (by decide) (argsL := [(.int v15)]) (st := []) rfl rfl (lenOf pd9 rfl) rfl (Nat.le_of_eq rfl) (k' := 6) rfl (n' := 21) rfl (by decide) (by decide) rfl ?_
    intro r17 h18 Q18 O18
    obtain ⟨a19, rfl, ga19, Eh18, Sh18⟩ := Q18
    refine Ww.astore (pc' := 93) C at_91 rfl (Ls' := #[.val (.int p0), .val (.int p1), .val (.long p2), .second, .val (.long p3), .second, .val (.int v12), .val (.int v15), .val (.int v16), .val e, .val (.ref a19), .unset, .unset, .unset, .unset]) rfl rfl ?_
    refine Ww.newO (pc' := 96) C at_93 (w29 hw) (w30 hw) (w31 hw) (k' := 7) rfl (n' := 24) rfl (by decide) (by decide) rfl ?_
    intro a20 h21 ga20 za20 E21 Aa20 Da20 Ua20 O21
    have F22 : Fld Z h21 a20 "java/util/AbstractList" "modCount" "I" (.int (0 : Int32)) := Da20 (Or.inl (w49 hw)) (ty := .int) (by decide)
    have F23 : Fld Z h21 a20 "java/util/ArrayList" "elementData" "[Ljava/lang/Object;" .null := Da20 (Or.inl (w52 hw)) (ty := (.array (.object "java/lang/Object"))) (by decide)
    have F24 : Fld Z h21 a20 "java/util/ArrayList" "size" "I" (.int (0 : Int32)) := Da20 (Or.inl (w61 hw)) (ty := .int) (by decide)
    refine Ww.dup (pc' := 97) C at_96 rfl rfl ?_
    refine Ww.callI (pc' := 100) C at_97 (a := a20) (fun vm0 C => (Wk.Con.pays C (Wn := 1) (own_alInit l hw O21 aD a20 SD za20 Aa20 F22 F23 F24) (w34 hw) (w31 hw) (by decide) (by decide))) Wk.cleanC (fun v h' q => Or.inr (Or.inr ⟨a20, (List.mem_of_getElem? (i := 0) rfl), q.2.1⟩)) rfl (w32 hw) (w33 hw) (w34 hw) (by decide) (argsL := []) (st := [(.ref a20)]) rfl rfl (lenOf pd0 rfl) rfl (Nat.le_of_eq rfl) (k' := 7) rfl (n' := 24) rfl (by decide) (by decide) rfl ?_
    intro r25 h26 Q26 O26
    obtain ⟨rfl, K26, A26, M26, D26, Z26⟩ := Q26
    refine Ww.astore (pc' := 102) C at_100 rfl (Ls' := #[.val (.int p0), .val (.int p1), .val (.long p2), .second, .val (.long p3), .second, .val (.int v12), .val (.int v15), .val (.int v16), .val e, .val (.ref a19), .val (.ref a20), .unset, .unset, .unset]) rfl rfl ?_
    refine Ww.aload (pc' := 104) C at_102 rfl rfl rfl ?_
    refine Ww.aload (pc' := 106) C at_104 rfl rfl rfl ?_
    have X27 : Ext h18 h26 := Wk.Ext.keep1 (Z := Z) E21 K26 (Nat.le_of_eq ga20.symm)
    refine Ww.callV (pc' := 109) C at_106 (a := a20) (fun vm0 C => (Wk.Con.pays C (Wn := 0) (own_add1 l hw O26 aD a20 a19 SD VD za20 A26 M26 D26 Z26 (Sh18.exa.ext X27) (Nat.ne_of_lt (Nat.lt_of_lt_of_le Sh18.exa.lt (Nat.le_of_eq ga20.symm)))) (w57 hw) (w31 hw) (by decide) (by decide))) Wk.cleanC (fun v h' q => Or.inr (Or.inr ⟨a20, (List.mem_of_getElem? (i := 0) rfl), q.2⟩)) A26 (w53 hw) (w54 hw) (fun vm0 hZ0 => notFace_of_selects (args := #[]) (mvT (s := W.s.setVm vm0) hZ0 (w56 hw))) (w56 hw) (w55 hw) (by decide) (argsL := [(.ref a19)]) (st := []) rfl rfl (lenOf pd10 rfl) rfl (Nat.le_of_eq rfl) (k' := 8) rfl (n' := 34) rfl (by decide) (by decide) rfl ?_
    intro r28 h29 Q29 O29
    obtain ⟨rfl, Kh29⟩ := Q29
    refine Ww.pop (pc' := 110) C at_109 rfl rfl ?_
    refine Ww.newO (pc' := 113) C at_110 (w84 hw) (w85 hw) (w86 hw) (k' := 9) rfl (n' := 43) rfl (by decide) (by decide) rfl ?_
    intro a30 h31 ga30 za30 E31 Aa30 Da30 Ua30 O31
    have F32 : Fld Z h31 a30 "com/example/scopegate/scopegate/token/AccessToken" "application" "Ljava/lang/String;" .null := Da30 (Or.inr (w97 hw)) (ty := (.object "java/lang/String")) (by decide)
    have F33 : Fld Z h31 a30 "com/example/scopegate/scopegate/token/AccessToken" "user" "Ljava/lang/String;" .null := Da30 (Or.inr (w99 hw)) (ty := (.object "java/lang/String")) (by decide)
    have F34 : Fld Z h31 a30 "com/example/scopegate/scopegate/token/AccessToken" "subject" "Ljava/lang/String;" .null := Da30 (Or.inr (w101 hw)) (ty := (.object "java/lang/String")) (by decide)
    have F35 : Fld Z h31 a30 "com/example/scopegate/scopegate/token/AccessToken" "scope" "Ljava/lang/String;" .null := Da30 (Or.inr (w103 hw)) (ty := (.object "java/lang/String")) (by decide)
    have F36 : Fld Z h31 a30 "com/example/scopegate/scopegate/token/AccessToken" "issued" "J" (.long (0 : Int64)) := Da30 (Or.inr (w105 hw)) (ty := .long) (by decide)
    have F37 : Fld Z h31 a30 "com/example/scopegate/scopegate/token/AccessToken" "expires" "J" (.long (0 : Int64)) := Da30 (Or.inr (w107 hw)) (ty := .long) (by decide)
    have F38 : Fld Z h31 a30 "com/example/scopegate/scopegate/token/AccessToken" "issuer" "Ljava/lang/String;" .null := Da30 (Or.inr (w109 hw)) (ty := (.object "java/lang/String")) (by decide)
    have F39 : Fld Z h31 a30 "com/example/scopegate/scopegate/token/AccessToken" "audience" "Ljava/util/List;" .null := Da30 (Or.inr (w111 hw)) (ty := (.object "java/util/List")) (by decide)
    have F40 : Fld Z h31 a30 "com/example/scopegate/scopegate/token/AccessToken" "id" "Ljava/lang/String;" .null := Da30 (Or.inr (w113 hw)) (ty := (.object "java/lang/String")) (by decide)
    refine Ww.dup (pc' := 114) C at_113 rfl rfl ?_
    refine Ww.aload (pc' := 116) C at_114 rfl rfl rfl ?_
    refine Ww.aconstNull (pc' := 117) C at_116 rfl ?_
    refine Ww.aload (pc' := 119) C at_117 rfl rfl rfl ?_
    refine Ww.aload (pc' := 121) C at_119 rfl he rfl ?_
    refine Ww.lloadN (pc' := 122) C at_121 rfl rfl ?_
    refine Ww.lload (pc' := 124) C at_122 rfl rfl ?_
    refine Ww.aconstNull (pc' := 125) C at_124 rfl ?_
    refine Ww.aload (pc' := 127) C at_125 rfl rfl rfl ?_
    refine Ww.aconstNull (pc' := 128) C at_127 rfl ?_
    refine Ww.callI (pc' := 131) C at_128 (a := a30) (fun vm0 C => (Wk.Con.pays C (Wn := 1) (own_token l hw O31 a30 a19 a20 e he p2 p3 za30 Aa30 F32 F33 F34 F35 F36 F37 F38 F39 F40) (w89 hw) (w86 hw) (by decide) (by decide))) Wk.cleanC (fun v h' q => Or.inr (Or.inr ⟨a30, (List.mem_of_getElem? (i := 0) rfl), q.2⟩)) rfl (w87 hw) (w88 hw) (w89 hw) (by decide) (argsL := [(.ref a19), .null, (.ref a19), e, (.long p2), (.long p3), .null, (.ref a20), .null]) (st := [(.ref a30)]) rfl rfl (lenOf pd11 rfl) rfl (Nat.le_of_eq rfl) (k' := 9) rfl (n' := 43) rfl (by decide) (by decide) rfl ?_
    intro r41 h42 Q42 O42
    obtain ⟨rfl, Kh42⟩ := Q42
    refine Ww.astore (pc' := 133) C at_131 rfl (Ls' := #[.val (.int p0), .val (.int p1), .val (.long p2), .second, .val (.long p3), .second, .val (.int v12), .val (.int v15), .val (.int v16), .val e, .val (.ref a19), .val (.ref a20), .val (.ref a30), .unset, .unset]) rfl rfl ?_
    refine Ww.aload (pc' := 135) C at_133 rfl rfl rfl ?_
    refine Ww.aload (pc' := 137) C at_135 rfl he rfl ?_
    refine Ww.callS (pc' := 140) C at_137 (fun vm0 C => (Wk.Con.pays C (Wn := 0) (own_valid l hw O42 o a30 e he SO) (w117 hw) (w116 hw) (by decide) (by decide))) Wk.cleanC (fun v h' q => by obtain ⟨_, -, -, e, -⟩ := q; exact Or.inr (Or.inl e)) (w114 hw) (w115 hw) (w116 hw) (w117 hw) (by decide) (argsL := [(.ref a30), e]) (st := []) rfl rfl (lenOf pd12 rfl) rfl (Nat.le_of_eq rfl) (k' := 10) rfl (n' := 46) rfl (by decide) (by decide) rfl ?_
    intro r43 h44 Q44 O44
    obtain ⟨b45, rfl, gb45, E44, A44, P44, T44, S44⟩ := Q44
    refine Ww.astore (pc' := 142) C at_140 rfl (Ls' := #[.val (.int p0), .val (.int p1), .val (.long p2), .second, .val (.long p3), .second, .val (.int v12), .val (.int v15), .val (.int v16), .val e, .val (.ref a19), .val (.ref a20), .val (.ref a30), .val (.ref b45), .unset]) rfl rfl ?_
    refine Ww.aload (pc' := 144) C at_142 rfl rfl rfl ?_
    refine Ww.callV (pc' := 147) C at_144 (a := b45) (fun vm0 C => (Wk.Con.pays C (Wn := 0) (own_rd_outcome l hw O44 b45 o P44) (w137 hw) (w116 hw) (by decide) (by decide))) Wk.cleanC (fun v h' q => Or.inl q.2) A44 (w133 hw) (w134 hw) (fun vm0 hZ0 => notFace_of_selects (args := #[]) (mvT (s := W.s.setVm vm0) hZ0 (w136 hw))) (w136 hw) (w135 hw) (by decide) (argsL := []) (st := []) rfl rfl (lenOf pd13 rfl) rfl (Nat.le_of_eq rfl) (k' := 10) rfl (n' := 46) rfl (by decide) (by decide) rfl ?_
    intro r46 h47 Q47 O47
    obtain ⟨rfl, e48⟩ := Q47
    obtain rfl := e48.symm
    refine Ww.astore (pc' := 149) C at_147 rfl (Ls' := #[.val (.int p0), .val (.int p1), .val (.long p2), .second, .val (.long p3), .second, .val (.int v12), .val (.int v15), .val (.int v16), .val e, .val (.ref a19), .val (.ref a20), .val (.ref a30), .val (.ref b45), .val (.ref o)]) rfl rfl ?_
    refine Ww.aload (pc' := 151) C at_149 rfl rfl rfl ?_
    refine Ww.getS (pc' := 154) C at_151 (w138 hw) Via.refl (SO.ext O44) rfl ?_
    refine Ww.acmp_ne C at_154 rfl rfl (by decide) (pcT := 208) (by decide) (pc' := 157) rfl (fun q => absurd rfl q) (fun q49 => ?_)
    refine Ww.aload (pc' := 159) C at_157 rfl rfl rfl ?_
    refine Ww.callV (pc' := 162) C at_159 (a := b45) (fun vm0 C => (Wk.Con.pays C (Wn := 0) (own_rd_token l hw O44 b45 a30 T44) (w143 hw) (w116 hw) (by decide) (by decide))) Wk.cleanC (fun v h' q => Or.inl q.2) A44 (w139 hw) (w140 hw) (fun vm0 hZ0 => notFace_of_selects (args := #[]) (mvT (s := W.s.setVm vm0) hZ0 (w142 hw))) (w142 hw) (w141 hw) (by decide) (argsL := []) (st := []) rfl rfl (lenOf pd14 rfl) rfl (Nat.le_of_eq rfl) (k' := 10) rfl (n' := 46) rfl (by decide) (by decide) rfl ?_
    intro r50 h51 Q51 O51
    obtain ⟨rfl, e52⟩ := Q51
    obtain rfl := e52.symm
    refine Ww.aload (pc' := 164) C at_162 rfl rfl rfl ?_
    refine Ww.acmp_ne C at_164 rfl rfl (by decide) (pcT := 208) (by decide) (pc' := 167) rfl (fun q => absurd rfl q) (fun q53 => ?_)
    refine Ww.aload (pc' := 169) C at_167 rfl rfl rfl ?_
    refine Ww.callV (pc' := 172) C at_169 (a := b45) (fun vm0 C => (Wk.Con.pays C (Wn := 0) (own_rd_requiredScope l hw O44 b45 e he S44) (w148 hw) (w116 hw) (by decide) (by decide))) Wk.cleanC (fun v h' q => Or.inl q.2) A44 (w144 hw) (w145 hw) (fun vm0 hZ0 => notFace_of_selects (args := #[]) (mvT (s := W.s.setVm vm0) hZ0 (w147 hw))) (w147 hw) (w146 hw) (by decide) (argsL := []) (st := []) rfl rfl (lenOf pd15 rfl) rfl (Nat.le_of_eq rfl) (k' := 10) rfl (n' := 46) rfl (by decide) (by decide) rfl ?_
    intro r54 h55 Q55 O55
    obtain ⟨rfl, e56⟩ := Q55
    obtain rfl := e56.symm
    refine Ww.aload (pc' := 174) C at_172 rfl he rfl ?_
    refine Ww.acmp_ne C at_174 he he (by decide) (pcT := 208) (by decide) (pc' := 177) rfl (fun q => absurd rfl q) (fun q57 => ?_)
    refine Ww.aload (pc' := 179) C at_177 rfl rfl rfl ?_
    refine Ww.callV (pc' := 182) C at_179 (a := b45) (fun vm0 C => (Wk.Con.pays C (Wn := 0) (own_challenge l hw O44 b45 o SO P44) (w153 hw) (w116 hw) (by decide) (by decide))) Wk.cleanC (fun v h' q => Or.inl q.2) A44 (w149 hw) (w150 hw) (fun vm0 hZ0 => notFace_of_selects (args := #[]) (mvT (s := W.s.setVm vm0) hZ0 (w152 hw))) (w152 hw) (w151 hw) (by decide) (argsL := []) (st := []) rfl rfl (lenOf pd15 rfl) rfl (Nat.le_of_eq rfl) (k' := 10) rfl (n' := 46) rfl (by decide) (by decide) rfl ?_
    intro r58 h59 Q59 O59
    obtain ⟨rfl, e60⟩ := Q59
    obtain rfl := e60.symm
    refine Ww.ifnonnullN (pc' := 185) C at_182 rfl ?_
    refine Ww.aload (pc' := 187) C at_185 rfl rfl rfl ?_
    have X61 : Ext hx h21 := Wk.Ext.trans Eh18 E21
    have X62 : Ext hx h26 := Wk.Ext.keep1 (Z := Z) X61 K26 (Nat.le_trans Eh18.1 (Nat.le_of_eq ga20.symm))
    have X63 : Ext hx h29 := Wk.Ext.keep1 (Z := Z) X62 Kh29 (Nat.le_trans Eh18.1 (Nat.le_of_eq ga20.symm))
    have X64 : Ext hx h31 := Wk.Ext.trans X63 E31
    have X65 : Ext hx h42 := Wk.Ext.keep1 (Z := Z) X64 Kh42 (Nat.le_trans X63.1 (Nat.le_of_eq ga30.symm))
    have X66 : Ext hx h44 := Wk.Ext.trans X65 E44
    refine Ww.callV (pc' := 190) C at_187 (a := o) (fun vm0 C => (Wk.Con.pays C (Wn := 0) (own_status l hw O44 o ((FO0.ext Ox).ext X66)) (w158 hw) (w121 hw) (by decide) (by decide))) Wk.cleanC (fun v h' q => Or.inl q.2) ((EO.ext Ox).ext X66) (w154 hw) (w155 hw) (fun vm0 hZ0 => notFace_of_selects (args := #[]) (mvT (s := W.s.setVm vm0) hZ0 (w157 hw))) (w157 hw) (w156 hw) (by decide) (argsL := []) (st := []) rfl rfl (lenOf pd16 rfl) rfl (Nat.le_of_eq rfl) (k' := 10) rfl (n' := 46) rfl (by decide) (by decide) rfl ?_
    intro r67 h68 Q68 O68
    obtain ⟨rfl, e69⟩ := Q68
    obtain rfl := e69.symm
    refine Ww.sipush (pc' := 193) C at_190 (v := (200 : Int32)) rfl rfl ?_
    refine Ww.icmp_ne C at_193 (by decide) (pcT := 208) (by decide) (pc' := 196) rfl (fun q => absurd q (by decide)) (fun q70 => ?_)
    refine Ww.aload (pc' := 198) C at_196 rfl rfl rfl ?_
    refine Ww.callV (pc' := 201) C at_198 (a := o) (fun vm0 C => (Wk.Con.pays C (Wn := 0) (own_error l hw O44 o ((FO1.ext Ox).ext X66)) (w165 hw) (w121 hw) (by decide) (by decide))) Wk.cleanC (fun v h' q => Or.inl q.2) ((EO.ext Ox).ext X66) (w161 hw) (w162 hw) (fun vm0 hZ0 => notFace_of_selects (args := #[]) (mvT (s := W.s.setVm vm0) hZ0 (w164 hw))) (w164 hw) (w163 hw) (by decide) (argsL := []) (st := []) rfl rfl (lenOf pd15 rfl) rfl (Nat.le_of_eq rfl) (k' := 10) rfl (n' := 46) rfl (by decide) (by decide) rfl ?_
    intro r71 h72 Q72 O72
    obtain ⟨rfl, e73⟩ := Q72
    obtain rfl := e73.symm
    refine Ww.ifnonnullN (pc' := 204) C at_201 rfl ?_
    refine Ww.iconst (pc' := 205) C at_204 (v := (1 : Int32)) rfl rfl ?_
    refine Ww.goto C at_205 (by decide) (pc' := 209) (by decide) ?_
    exact Ww.retNar (ty := .boolean) C hE (by simp) at_209 rfl (by decide) (by decide) rfl
  refine Ww.iload (pc' := 26) C at_24 rfl rfl ?_
  refine Ww.if_ne C at_26 (by decide) (pcT := 35) (by decide) (pc' := 29) rfl (fun q74 => ?_) (fun q74 => ?_)
  · -- pc 26: taken
    refine Ww.iload (pc' := 37) C at_35 rfl rfl ?_
    refine Ww.iconst (pc' := 38) C at_37 (v := (1 : Int32)) rfl rfl ?_
    refine Ww.icmp_ne C at_38 (by decide) (pcT := 51) (by decide) (pc' := 41) rfl (fun q75 => ?_) (fun q75 => ?_)
    · -- pc 38: taken
      refine Ww.iload (pc' := 53) C at_51 rfl rfl ?_
      refine Ww.iconst (pc' := 54) C at_53 (v := (2 : Int32)) rfl rfl ?_
      refine Ww.icmp_ne C at_54 (by decide) (pcT := 82) (by decide) (pc' := 57) rfl (fun q76 => ?_) (fun q76 => ?_)
      · -- pc 54: taken
        refine Ww.ldcS0 (pc' := 84) C at_82 (w0 hw) (wS hw) rfl (nb := 0) (by decide) (by decide) (k' := 2) rfl (n' := 4) rfl (by decide) (by decide) rfl ?_
        intro a77 h78 E78 O78
        refine Ww.astore (pc' := 86) C at_84 rfl (Ls' := #[.val (.int p0), .val (.int p1), .val (.long p2), .second, .val (.long p3), .second, .val (.int v12), .val (.int v15), .val (.int v16), .val (.ref a77), .unset, .unset, .unset, .unset, .unset]) rfl rfl ?_
        refine Ww.Run.grow (k' := 4) (n' := 16) (by decide) (by decide) (Ww.Run.less (S' := []) (fun _ h => nomatch h) ?_)
        exact J86 (.ref a77) h78 rfl O78
      · -- pc 54: not taken
        refine Ww.newO (pc' := 60) C at_57 (w168 hw) (w2 hw) (w1 hw) (k' := 1) rfl (n' := 4) rfl (by decide) (by decide) rfl ?_
        intro a79 h80 ga79 za79 E80 Aa79 Da79 Ua79 O80
        have F81 : Fld Z h80 a79 "java/lang/String" "value" "[B" .null := Da79 (Or.inr (w4 hw)) (ty := (.array .byte)) (by decide)
        have F82 : Fld Z h80 a79 "java/lang/String" "coder" "B" (.int (0 : Int32)) := Da79 (Or.inr (w5 hw)) (ty := .byte) (by decide)
        refine Ww.dup (pc' := 61) C at_60 rfl rfl ?_
        refine Ww.iconst (pc' := 62) C at_61 (v := (2 : Int32)) rfl rfl ?_
        refine Ww.newA (pc' := 64) C at_62 (ty := .char) rfl (w169 hw) (by decide) (cap := 2) (by decide) (by decide) (k' := 2) rfl (n' := 6) rfl (by decide) (by decide) rfl rfl ?_
        intro a83 h84 ga83 za83 E84 Va83 O84
        have V85 : Wk.Ary Z h84 a83 .char [(.int (0 : Int32)), (.int (0 : Int32))] := Va83
        refine Ww.dup (pc' := 65) C at_64 rfl rfl ?_
        refine Ww.iconst (pc' := 66) C at_65 (v := (0 : Int32)) rfl rfl ?_
        refine Ww.iload (pc' := 68) C at_66 rfl rfl ?_
        refine Ww.castore (pc' := 69) C at_68 V85 (by decide) (show _ < _ from Nat.le_of_ble_eq_true rfl) (Wk.nar_i2c hv12) (vs' := [(.int v12), (.int (0 : Int32))]) rfl za83 (List.mem_of_getElem? (i := 0) rfl) rfl ?_
        intro h86 W86 V86 O86
        refine Ww.dup (pc' := 70) C at_69 rfl rfl ?_
        refine Ww.iconst (pc' := 71) C at_70 (v := (1 : Int32)) rfl rfl ?_
        refine Ww.iload (pc' := 73) C at_71 rfl rfl ?_
        refine Ww.castore (pc' := 74) C at_73 V86 (by decide) (show _ < _ from Nat.le_of_ble_eq_true rfl) (Wk.nar_i2c hv15) (vs' := [(.int v12), (.int v15)]) rfl za83 (List.mem_of_getElem? (i := 0) rfl) rfl ?_
        intro h87 W87 V87 O87
        have hp88 : ∀ c ∈ ([v12, v15] : List Int32), ¬ c < 0 ∧ ¬ (255 : Int32) < c := (List.forall_mem_cons.mpr ⟨(Wk.rng255 hv11 hv12), (List.forall_mem_cons.mpr ⟨(Wk.rng255 hv14 hv15), (fun _ h => nomatch h)⟩)⟩)
        have X89 : Ext h80 h86 := Wk.Ext.wr (Z := Z) E84 W86 (Nat.le_of_eq ga83.symm)
        have X90 : Ext h80 h87 := Wk.Ext.wr (Z := Z) X89 W87 (Nat.le_of_eq ga83.symm)
        refine Ww.callI (pc' := 77) C at_74 (a := a79) (fun vm0 C => (strNew C hw hs O87 (cs := [v12, v15]) (n := 2) (Wn := 1) za79 (Aa79.ext X90) (F81.ext X90) (F82.ext X90) V87 rfl (by decide) (by decide) hp88 (by decide) (by decide))) (strNewC (n := 2) O87 za79 rfl (by decide) hp88) (fun v h' q => Or.inr (Or.inr ⟨a79, (List.mem_of_getElem? (i := 1) rfl), q.2.1⟩)) rfl (w170 hw) (w171 hw) (w172 hw) (by decide) (argsL := [(.ref a83)]) (st := [(.ref a79)]) rfl rfl (lenOf pd17 rfl) rfl (Nat.le_of_eq rfl) (k' := 3) rfl (n' := 8) rfl (by decide) (by decide) rfl ?_
        intro r91 h92 Q92 O92
        obtain ⟨rfl, Kh92, Sh92⟩ := Q92
        refine Ww.astore (pc' := 79) C at_77 rfl (Ls' := #[.val (.int p0), .val (.int p1), .val (.long p2), .second, .val (.long p3), .second, .val (.int v12), .val (.int v15), .val (.int v16), .val (.ref a79), .unset, .unset, .unset, .unset, .unset]) rfl rfl ?_
        refine Ww.goto C at_79 (by decide) (pc' := 86) (by decide) ?_
        refine Ww.Run.grow (k' := 4) (n' := 16) (by decide) (by decide) (Ww.Run.less (S' := []) (fun _ h => nomatch h) ?_)
        exact J86 (.ref a79) h92 rfl O92
    · -- pc 38: not taken
      refine Ww.iload (pc' := 43) C at_41 rfl rfl ?_
      refine Ww.callS (pc' := 46) C at_43 (fun vm0 C => (Wk.Con.pays C (Wn := 0) (own_valueOf l hw O0 hs v12 (Wk.rng255 hv11 hv12)) (w10 hw) (w1 hw) (by decide) (by decide))) Wk.cleanC (fun v h' q => by obtain ⟨_, -, -, e, -⟩ := q; exact Or.inr (Or.inl e)) (w8 hw) (w9 hw) (w1 hw) (w10 hw) (by decide) (argsL := [(.int v12)]) (st := []) rfl rfl (lenOf pd9 rfl) rfl (Nat.le_of_eq rfl) (k' := 2) rfl (n' := 5) rfl (by decide) (by decide) rfl ?_
      intro r93 h94 Q94 O94
      obtain ⟨a95, rfl, ga95, Eh94, Sh94⟩ := Q94
      refine Ww.astore (pc' := 48) C at_46 rfl (Ls' := #[.val (.int p0), .val (.int p1), .val (.long p2), .second, .val (.long p3), .second, .val (.int v12), .val (.int v15), .val (.int v16), .val (.ref a95), .unset, .unset, .unset, .unset, .unset]) rfl rfl ?_
      refine Ww.goto C at_48 (by decide) (pc' := 86) (by decide) ?_
      refine Ww.Run.grow (k' := 4) (n' := 16) (by decide) (by decide) (Ww.Run.less (S' := []) (fun _ h => nomatch h) ?_)
      exact J86 (.ref a95) h94 rfl O94
  · -- pc 26: not taken
    refine Ww.aconstNull (pc' := 30) C at_29 rfl ?_
    refine Ww.astore (pc' := 32) C at_30 rfl (Ls' := #[.val (.int p0), .val (.int p1), .val (.long p2), .second, .val (.long p3), .second, .val (.int v12), .val (.int v15), .val (.int v16), .val .null, .unset, .unset, .unset, .unset, .unset]) rfl rfl ?_
    refine Ww.goto C at_32 (by decide) (pc' := 86) (by decide) ?_
    refine Ww.Run.grow (k' := 4) (n' := 16) (by decide) (by decide) (Ww.Run.less (S' := []) (fun _ h => nomatch h) ?_)
    exact J86 .null Z.heap rfl O0
theorem Wk.nulF {args : Array Value} {s : State} {t : Term} {a : Addr} {C n d : String} (ht : t.eval args s none [] s = some (.ref a)) (h : (Jvm.Cond.eq (.field t C n d) .null).value args s none s [] = some true) : Fld s s.heap a C n d .null := by
  obtain ⟨x, y, e1, e2, -, kin⟩ := cmp_v (Or.inl h)
  cases (show (Term.null).eval args s none [] s = some .null from rfl).symm.trans e2
  cases gotT (eq_R e1 e2 kin.2 rfl) h
  exact Fld.start ((fld_at ht).symm.trans e1)
set_option maxRecDepth 65536 in
set_option maxHeartbeats 40000000 in
theorem comes_1 {Post : Tables → Env → Array Value → State → Outcome → State → Prop} (hpost : ∀ tb e args s v u, (limb_1_1.after args s (.returned v) u = true ∧ limb_1_2.after args s (.returned v) u = true ∧ True) → ReturnedEndW s (.returned v) u (Jvm.fieldLocs frame_1_writes args s ++ Jvm.arrayLocs frame_1_arrays args s ++ Jvm.staticLocs frame_1_statics s) 32 1216 → Post tb e args s (.returned v) u) :
    ArmFor flags0 classFile x code maxLocals ret World_1 tables_1 room_1 Calls_1 rest_1 Pre_1 Post := by
  intro l hfl _ _ p e ha hc hk s m args below hf hA hF happ hP
  obtain ⟨hcalls, hrest, hpre⟩ := hP
  obtain ⟨-, -, -, hnamed, -, -, -, hat⟩ := (Spec.applies_iff hf).mp happ
  obtain ⟨hg, hn⟩ := and_e (Cond.before_iff.mp (show (Jvm.Cond.and given_1 narrow_1).before args s = true from hpre))
  obtain ⟨gc0, gr0⟩ := and_e hg
  obtain ⟨gc1, gr1⟩ := and_e gr0
  obtain ⟨gc2, gr2⟩ := and_e gr1
  obtain ⟨gc3, gr3⟩ := and_e gr2
  obtain ⟨w0, w1, w2, w3, rfl⟩ : ∃ w0 w1 w2 w3 : Value, args = #[w0, w1, w2, w3] := by
    have hs : args.size = 4 := by simpa [Cond.value, given_1] using gc0
    obtain ⟨L⟩ := args
    match L, hs with
    | [w0, w1, w2, w3], _ => exact ⟨w0, w1, w2, w3, rfl⟩
  have hw : Ws _ s := fun d (hd : d ∈ tables_1) => atoms_spec (ws := Jvm.Cond.code x code maxLocals ret :: tables_1) hat d (List.mem_cons_of_mem _ hd)
  have hfit : Fit s := fun {y c} hc i hi => by
    obtain ⟨ha, rfl⟩ := Array.getElem?_eq_some_iff.mp hc
    have q := List.all_eq_true.mp ((Array.all_eq_true_iff_forall_mem.mp hF) _ (Array.getElem_mem ha)) i (List.mem_range.mpr hi)
    simpa [Array.getElem?_eq_getElem hi] using q
  obtain ⟨i0, ei0⟩ := is_v gc1
  obtain rfl : w0 = (.int i0) := Option.some.inj ei0
  obtain ⟨i1, ei1⟩ := is_v gc2
  obtain rfl : w1 = (.int i1) := Option.some.inj ei1
  obtain ⟨i2, ei2⟩ := isL_v gc3
  obtain rfl : w2 = (.long i2) := Option.some.inj ei2
  obtain ⟨i3, ei3⟩ := isL_v gr3
  obtain rfl : w3 = (.long i3) := Option.some.inj ei3
  obtain ⟨hsets, hown0⟩ := atoms_of _ (rest_1_c_eq ▸ (show rest_1_c.before _ s = true from hrest))
  have hS : Sets s := by
    have n5 := not_v (Cond.before_iff.mp (hsets _ (List.mem_of_getElem? (i := 2) rfl)))
    obtain ⟨zc, ez⟩ := is_v (Cond.before_iff.mp (hsets _ (List.mem_of_getElem? (i := 1) rfl)))
    obtain ⟨fm, ef, rf⟩ := isR_v (Cond.before_iff.mp (hsets _ (List.mem_of_getElem? (i := 8) rfl)))
    exact ⟨zc, fm, Sta.start ez (Or.inl (hsets _ (List.mem_of_getElem? (i := 0) rfl))), gotF (Cond.eq_ints ez (Term.int_eval (0))) n5, Sta.start ef (Or.inl (hsets _ (List.mem_of_getElem? (i := 7) rfl))), rf⟩
  obtain ⟨nw0, nr0⟩ := and_e hn
  obtain ⟨nw1, nr1⟩ := and_e nr0
  obtain ⟨o, eo⟩ := exa_v nw0
  have EO := Exa.start eo nw0
  have SO := Sta.start eo (Or.inr ⟨(w121 hw), (w122 hw)⟩)
  have FO0 := Wk.ord eo nw1
  have FO1 := Wk.nulF eo nr1
  obtain ⟨aD, eD⟩ := arr_v (Cond.before_iff.mp (hsets _ (List.mem_of_getElem? (i := 15) rfl)))
  obtain ⟨cD, AD⟩ := Arr.start eD (Cond.before_iff.mp (hsets _ (List.mem_of_getElem? (i := 15) rfl)))
  have SD := Sta.start eD (Or.inr ⟨(w31 hw), (hsets _ (List.mem_of_getElem? (i := 11) rfl))⟩)
  have VD : Wk.Ary s s.heap aD (.object "java/lang/Object") [] := Wk.aryS AD (Wk.lenS eD AD (Cond.before_iff.mp (hsets _ (List.mem_of_getElem? (i := 17) rfl)))) rfl trivial (fun _ h => nomatch h)
  have hE := own_EW hw
  have hCH : CHv s EL s.vm s.heap := fun p hp => nomatch hp
  obtain ⟨n, o, h1, h2, h3, _, L, rfl, ⟨rfl, -, N⟩, -, hq⟩ := own_law l hw hE i0 i1 i2 i3 aD o SD VD SO EO FO0 FO1 hS tables_1 p e ha hc hk s m _ below hf ((Spec.applies_iff_loose hf).mp happ).1 ⟨rfl, State.Warmed39.refl s, rfl, hCH⟩ trivial
  refine ⟨n, _, h1, h2, h3, hpost _ _ _ _ _ _ ⟨Cond.after_iff.mpr rfl, Cond.after_iff.mpr (eq_i res_at (Term.int_eval (1)) rfl), trivial⟩ ⟨hq.1, hq.2.1, hq.2.2.1, (hq.2.2.2.sift fun y hy => Or.inr (N y hy)).mono (by decide) (by decide)⟩⟩
theorem main_1_1 : Claimed_1_1 := comes_1 fun _ _ _ _ _ _ h hF => ⟨h.1, hF⟩
theorem main_1_2 : Claimed_1_2 := comes_1 fun _ _ _ _ _ _ h hF => ⟨h.2.1, hF⟩
end Jvm.Pilot.@@N@@
namespace Jvm.Pilot.@@N@@
open Jvm Jvm.ClassFile Sem Op Lib Jvm.Free Jvm.Stand Jvm.Pilot.@@N@@.Jvm.D
/-! MADE BY PROGRAM (witnessworld.py) out of the Statement's table words and the real class files: 34 classes; the members and pool entries that the words name. The judged class is class 1, her method 1. -/
namespace start1
open Jvm.ClassFile
def u (s : String) : CpInfo := .utf8 (stringToUtf16 s)
/-- a pool by its gaps: so many unusable entries, then the entry; so many at the end -/
def gap : Nat → List CpInfo → List CpInfo
  | 0, r => r
  | n + 1, r => .unusable :: gap n r
def poolList (es : List (Nat × CpInfo)) (last : Nat) : List CpInfo := es.foldr (fun e r => gap e.1 (e.2 :: r)) (gap last [])
def pool (es : List (Nat × CpInfo)) (last : Nat) : Array CpInfo := ⟨poolList es last⟩
def fileOf (pool : Array CpInfo) (this : Nat) (attrs : Array Attribute := #[]) (ms : Array MethodInfo := #[]) (fl : Nat := 33) (sup : Nat := 0) (ifs : Array Nat := #[]) (fds : Array FieldInfo := #[]) : ClassFile where
  minorVersion := 0
  majorVersion := 65
  constantPool := pool
  accessFlags := fl
  thisClass := this
  superClass := sup
  interfaces := ifs
  fields := fds
  methods := ms
  attributes := attrs
def plain (name : String) (sup : Option ClassId) : Class where
  name := name
  kind := .ordinary
  loader := none
  accessFlags := 33
  super := sup
  interfaces := #[]
  cf := none
  fields := #[]
  methods := #[]
  instanceTypes := #[]
  staticTypes := #[]
  resolved := #[]
  callSites := []
  init := .initialized
  statics := none
  mirror := none

def pool0 : Array CpInfo := pool [(5, u "<init>"), (0, u "()V"), (1, .class_ 10), (1, u "java/lang/Object")] 113

def k0c0 : Code := { maxStack := 0, maxLocals := 1, code := object_method_1_code, exceptionTable := #[], attributes := #[] }
def k0m0 : Method := { name := "<init>", desc := "()V", sig := { parameters := [], returnType := none }, accessFlags := 1, code := some k0c0 }
/-- java/lang/Object -/
def k0 : Class := { plain "java/lang/Object" none with
  accessFlags := 33
  interfaces := #[]
  cf := some (fileOf pool0 8 #[] #[{ accessFlags := 1, nameIndex := 5, descriptorIndex := 6, attributes := #[] }] 33 0 #[] #[])
  fields := #[]
  methods := #[k0m0]
  instanceTypes := #[]
  staticTypes := #[]
  resolved := Array.replicate 124 none
  statics := none }

def pool1 : Array CpInfo := pool [(2, .class_ 4), (0, .nameAndType 5 6), (0, u "java/lang/Object"), (0, u "<init>"), (0, u "()V"), (0, .methodref 8 9), (0, .class_ 10), (0, .nameAndType 11 12), (0, u "java/lang/String"), (0, u "valueOf"), (0, u "(C)Ljava/lang/String;"), (0, .methodref 8 14), (0, .nameAndType 5 15), (0, u "([C)V"), (0, .string 17), (0, u ""), (0, .class_ 19), (0, u "java/util/ArrayList"), (0, .methodref 18 3), (0, .methodref 18 22), (0, .nameAndType 23 24), (0, u "add"), (0, u "(Ljava/lang/Object;)Z"), (0, .class_ 26), (0, u "com/example/scopegate/scopegate/token/AccessToken"), (0, .methodref 25 28), (0, .nameAndType 5 29), (0, u "(Ljava/lang/String;Ljava/lang/String;Ljava/lang/String;Ljava/lang/String;JJLjava/lang/String;Ljava/util/List;Ljava/lang/String;)V"), (0, .methodref 31 32), (0, .class_ 33), (0, .nameAndType 34 35), (0, u "com/example/scopegate/scopegate/token/Verdict"), (0, u "valid"), (0, u "(Lcom/example/scopegate/scopegate/token/AccessToken;Ljava/lang/String;)Lcom/example/scopegate/scopegate/token/Verdict;"), (0, .methodref 31 37), (0, .nameAndType 38 39), (0, u "outcome"), (0, u "()Lcom/example/scopegate/scopegate/token/Verdict$Outcome;"), (0, .fieldref 41 42), (0, .class_ 43), (0, .nameAndType 44 45), (0, u "com/example/scopegate/scopegate/token/Verdict$Outcome"), (0, u "VALID"), (0, u "Lcom/example/scopegate/scopegate/token/Verdict$Outcome;"), (0, .methodref 31 47), (0, .nameAndType 48 49), (0, u "token"), (0, u "()Lcom/example/scopegate/scopegate/token/AccessToken;"), (0, .methodref 31 51), (0, .nameAndType 52 53), (0, u "requiredScope"), (0, u "()Ljava/lang/String;"), (0, .methodref 31 55), (0, .nameAndType 56 53), (0, u "challenge"), (0, .methodref 41 58), (0, .nameAndType 59 60), (0, u "status"), (0, u "()I"), (0, .methodref 41 62), (0, .nameAndType 63 53), (0, u "error"), (0, .class_ 65), (0, u "com/example/scopegate/scopegate/token/VerdictValidPinLaw"), (2, u "law"), (0, u "(IIJJ)Z")] 5

def k1m0 : Method := { name := "<init>", desc := "()V", sig := { parameters := [], returnType := none }, accessFlags := 1, code := none }
def k1c1 : Code := { maxStack := 13, maxLocals := 15, code := code, exceptionTable := #[], attributes := #[] }
def k1m1 : Method := { name := "law", desc := "(IIJJ)Z", sig := { parameters := [.int, .int, .long, .long], returnType := some .boolean }, accessFlags := 9, code := some k1c1 }
/-- com/example/scopegate/scopegate/token/VerdictValidPinLaw -/
def k1 : Class := { plain "com/example/scopegate/scopegate/token/VerdictValidPinLaw" (some 0) with
  accessFlags := 49
  interfaces := #[]
  cf := some (fileOf pool1 64 #[] #[{ accessFlags := 1, nameIndex := 5, descriptorIndex := 6, attributes := #[] }, { accessFlags := 9, nameIndex := 68, descriptorIndex := 69, attributes := #[] }] 49 2 #[] #[])
  fields := #[]
  methods := #[k1m0, k1m1]
  instanceTypes := #[]
  staticTypes := #[]
  resolved := Array.replicate 75 none
  statics := none }

def pool2 : Array CpInfo := pool [(1, .class_ 2), (0, u "java/io/Serializable"), (0, .class_ 4), (0, u "java/lang/Object")] 2

/-- java/io/Serializable -/
def k2 : Class := { plain "java/io/Serializable" (some 0) with
  accessFlags := 1537
  interfaces := #[]
  cf := some (fileOf pool2 1 #[] #[] 1537 3 #[] #[])
  fields := #[]
  methods := #[]
  instanceTypes := #[]
  staticTypes := #[]
  resolved := Array.replicate 7 none
  statics := none }

def pool3 : Array CpInfo := pool [(1, .class_ 2), (0, u "java/lang/Comparable"), (0, .class_ 4), (0, u "java/lang/Object")] 7

/-- java/lang/Comparable -/
def k3 : Class := { plain "java/lang/Comparable" (some 0) with
  accessFlags := 1537
  interfaces := #[]
  cf := some (fileOf pool3 1 #[] #[] 1537 3 #[] #[])
  fields := #[]
  methods := #[]
  instanceTypes := #[]
  staticTypes := #[]
  resolved := Array.replicate 12 none
  statics := none }

def pool4 : Array CpInfo := pool [(2, .class_ 4), (1, u "java/lang/CharSequence"), (42, .class_ 48), (0, u "java/lang/CharSequence$1CodePointIterator"), (10, .class_ 60), (0, u "java/lang/CharSequence$1CharIterator"), (5, .class_ 67), (0, u "java/lang/Object")] 63

/-- java/lang/CharSequence -/
def k4 : Class := { plain "java/lang/CharSequence" (some 0) with
  accessFlags := 1537
  interfaces := #[]
  cf := some (fileOf pool4 2 #[.nestMembers #[47, 59]] #[] 1537 66 #[] #[])
  fields := #[]
  methods := #[]
  instanceTypes := #[]
  staticTypes := #[]
  resolved := Array.replicate 131 none
  statics := none }

def pool5 : Array CpInfo := pool [(1, .class_ 2), (0, u "java/lang/constant/Constable"), (0, .class_ 4), (0, u "java/lang/Object")] 6

/-- java/lang/constant/Constable -/
def k5 : Class := { plain "java/lang/constant/Constable" (some 0) with
  accessFlags := 1537
  interfaces := #[]
  cf := some (fileOf pool5 1 #[] #[] 1537 3 #[] #[])
  fields := #[]
  methods := #[]
  instanceTypes := #[]
  staticTypes := #[]
  resolved := Array.replicate 11 none
  statics := none }

def pool6 : Array CpInfo := pool [(1, .class_ 2), (0, u "java/lang/constant/ConstantDesc"), (0, .class_ 4), (0, u "java/lang/Object")] 32

/-- java/lang/constant/ConstantDesc -/
def k6 : Class := { plain "java/lang/constant/ConstantDesc" (some 0) with
  accessFlags := 1537
  interfaces := #[]
  cf := some (fileOf pool6 1 #[] #[] 1537 3 #[] #[])
  fields := #[]
  methods := #[]
  instanceTypes := #[]
  staticTypes := #[]
  resolved := Array.replicate 37 none
  statics := none }

def pool7 : Array CpInfo := pool [(1, .methodref 2 3), (0, .class_ 4), (0, .nameAndType 5 6), (0, u "java/lang/Object"), (0, u "<init>"), (0, u "()V"), (2, .fieldref 10 11), (0, .class_ 12), (0, .nameAndType 13 14), (0, u "java/lang/String"), (0, u "value"), (0, u "[B"), (0, .fieldref 10 16), (0, .nameAndType 17 18), (0, u "coder"), (0, u "B"), (2, u "hash"), (0, u "I"), (2, u "hashIsZero"), (0, u "Z"), (0, .methodref 10 28), (0, .nameAndType 5 29), (0, u "([CIILjava/lang/Void;)V"), (8, .fieldref 10 39), (0, .nameAndType 40 26), (0, u "COMPACT_STRINGS"), (1, .class_ 44), (1, u "java/lang/StringUTF16"), (0, u "compress"), (1, .methodref 42 48), (0, .nameAndType 49 50), (0, u "coderFromArrayLen"), (0, u "([BI)B"), (2, u "toBytes"), (53, .class_ 109), (1, u "java/lang/StringLatin1"), (67, .methodref 42 178), (0, .nameAndType 45 179), (0, u "([CII)[B"), (29, .methodref 10 210), (0, .nameAndType 5 211), (0, u "([BB)V"), (157, u "(C)Z"), (205, .class_ 576), (0, u "java/lang/CharSequence"), (22, u "CASE_INSENSITIVE_ORDER"), (0, u "Ljava/util/Comparator;"), (181, u "valueOf"), (0, u "(C)Ljava/lang/String;"), (226, u "([C)V"), (4, .methodref 107 1016), (0, .nameAndType 1017 369), (0, u "canEncode"), (0, .methodref 107 1019), (0, .nameAndType 53 1020), (0, u "(C)[B"), (80, u "serialPersistentFields"), (0, u "[Ljava/io/ObjectStreamField;"), (0, .class_ 1104), (0, u "java/lang/String$CaseInsensitiveComparator"), (1, .class_ 1107), (0, u "java/io/Serializable"), (0, .class_ 1109), (0, u "java/lang/Comparable"), (0, .class_ 1111), (0, u "java/lang/constant/Constable"), (0, .class_ 1113), (0, u "java/lang/constant/ConstantDesc"), (2, u "serialVersionUID"), (0, u "J"), (3, u "REPL"), (0, u "C"), (2, u "LATIN1"), (1, u "UTF16")] 323

def k7m0 : Method := { name := "<init>", desc := "()V", sig := { parameters := [], returnType := none }, accessFlags := 1, code := none }
def k7c1 : Code := { maxStack := 5, maxLocals := 2, code := jdk_42_method_3_code, exceptionTable := #[], attributes := #[] }
def k7m1 : Method := { name := "<init>", desc := "([C)V", sig := { parameters := [(.array .char)], returnType := none }, accessFlags := 1, code := some k7c1 }
def k7c2 : Code := { maxStack := 4, maxLocals := 1, code := jdk_42_method_139_code, exceptionTable := #[], attributes := #[] }
def k7m2 : Method := { name := "valueOf", desc := "(C)Ljava/lang/String;", sig := { parameters := [.char], returnType := some (.object "java/lang/String") }, accessFlags := 9, code := some k7c2 }
def k7c3 : Code := { maxStack := 4, maxLocals := 6, code := jdk_42_method_149_code, exceptionTable := #[], attributes := #[] }
def k7m3 : Method := { name := "<init>", desc := "([CIILjava/lang/Void;)V", sig := { parameters := [(.array .char), .int, .int, (.object "java/lang/Void")], returnType := none }, accessFlags := 2, code := some k7c3 }
def k7c4 : Code := { maxStack := 2, maxLocals := 3, code := jdk_42_method_151_code, exceptionTable := #[], attributes := #[] }
def k7m4 : Method := { name := "<init>", desc := "([BB)V", sig := { parameters := [(.array .byte), .byte], returnType := none }, accessFlags := 0, code := some k7c4 }
/-- java/lang/String -/
def k7 : Class := { plain "java/lang/String" (some 0) with
  accessFlags := 49
  interfaces := #[2, 3, 4, 5, 6]
  cf := some (fileOf pool7 10 #[.nestMembers #[1103]] #[{ accessFlags := 1, nameIndex := 5, descriptorIndex := 6, attributes := #[] }, { accessFlags := 1, nameIndex := 5, descriptorIndex := 1010, attributes := #[] }, { accessFlags := 9, nameIndex := 782, descriptorIndex := 783, attributes := #[] }, { accessFlags := 2, nameIndex := 5, descriptorIndex := 29, attributes := #[] }, { accessFlags := 0, nameIndex := 5, descriptorIndex := 211, attributes := #[] }] 49 2 #[1106, 1108, 575, 1110, 1112] #[{ accessFlags := 18, nameIndex := 13, descriptorIndex := 14, attributes := #[] }, { accessFlags := 18, nameIndex := 17, descriptorIndex := 18, attributes := #[] }, { accessFlags := 2, nameIndex := 21, descriptorIndex := 22, attributes := #[] }, { accessFlags := 2, nameIndex := 25, descriptorIndex := 26, attributes := #[] }, { accessFlags := 26, nameIndex := 1116, descriptorIndex := 1117, attributes := #[] }, { accessFlags := 24, nameIndex := 40, descriptorIndex := 26, attributes := #[] }, { accessFlags := 26, nameIndex := 1101, descriptorIndex := 1102, attributes := #[] }, { accessFlags := 26, nameIndex := 1121, descriptorIndex := 1122, attributes := #[] }, { accessFlags := 25, nameIndex := 599, descriptorIndex := 600, attributes := #[] }, { accessFlags := 24, nameIndex := 1125, descriptorIndex := 18, attributes := #[] }, { accessFlags := 24, nameIndex := 1127, descriptorIndex := 18, attributes := #[] }])
  fields := #[{ name := "value", type := (.array .byte), accessFlags := 18, slot := 0, constantValue := 0 }, { name := "coder", type := .byte, accessFlags := 18, slot := 1, constantValue := 0 }, { name := "hash", type := .int, accessFlags := 2, slot := 2, constantValue := 0 }, { name := "hashIsZero", type := .boolean, accessFlags := 2, slot := 3, constantValue := 0 }, { name := "serialVersionUID", type := .long, accessFlags := 26, slot := 0, constantValue := 0 }, { name := "COMPACT_STRINGS", type := .boolean, accessFlags := 24, slot := 1, constantValue := 0 }, { name := "serialPersistentFields", type := (.array (.object "java/io/ObjectStreamField")), accessFlags := 26, slot := 2, constantValue := 0 }, { name := "REPL", type := .char, accessFlags := 26, slot := 3, constantValue := 0 }, { name := "CASE_INSENSITIVE_ORDER", type := (.object "java/util/Comparator"), accessFlags := 25, slot := 4, constantValue := 0 }, { name := "LATIN1", type := .byte, accessFlags := 24, slot := 5, constantValue := 0 }, { name := "UTF16", type := .byte, accessFlags := 24, slot := 6, constantValue := 0 }]
  methods := #[k7m0, k7m1, k7m2, k7m3, k7m4]
  instanceTypes := #[(.array .byte), .byte, .int, .boolean]
  staticTypes := #[.long, .boolean, (.array (.object "java/io/ObjectStreamField")), .char, (.object "java/util/Comparator"), .byte, .byte]
  resolved := Array.replicate 1451 none
  statics := some 0 }

def pool8 : Array CpInfo := pool [(4, .class_ 6), (1, u "java/lang/Object"), (0, u "<init>"), (0, u "()V"), (5, .class_ 16), (1, u "java/lang/StringLatin1"), (73, u "canEncode"), (14, u "(C)Z"), (15, u "$assertionsDisabled"), (0, u "Z"), (98, .class_ 223), (1, u "java/lang/StringLatin1$LinesSpliterator"), (156, u "toBytes"), (1, u "(C)[B"), (7, .class_ 391), (0, u "java/lang/StringLatin1$CharsSpliterator")] 3

def k8m0 : Method := { name := "<init>", desc := "()V", sig := { parameters := [], returnType := none }, accessFlags := 0, code := none }
def k8c1 : Code := { maxStack := 2, maxLocals := 1, code := jdk_43_method_3_code, exceptionTable := #[], attributes := #[] }
def k8m1 : Method := { name := "canEncode", desc := "(C)Z", sig := { parameters := [.char], returnType := some .boolean }, accessFlags := 9, code := some k8c1 }
def k8c2 : Code := { maxStack := 4, maxLocals := 1, code := jdk_43_method_46_code, exceptionTable := #[], attributes := #[] }
def k8m2 : Method := { name := "toBytes", desc := "(C)[B", sig := { parameters := [.char], returnType := some (.array .byte) }, accessFlags := 9, code := some k8c2 }
/-- java/lang/StringLatin1 -/
def k8 : Class := { plain "java/lang/StringLatin1" (some 0) with
  accessFlags := 48
  interfaces := #[]
  cf := some (fileOf pool8 14 #[.nestMembers #[390, 221]] #[{ accessFlags := 0, nameIndex := 7, descriptorIndex := 8, attributes := #[] }, { accessFlags := 9, nameIndex := 90, descriptorIndex := 105, attributes := #[] }, { accessFlags := 9, nameIndex := 380, descriptorIndex := 382, attributes := #[] }] 48 4 #[] #[{ accessFlags := 4120, nameIndex := 121, descriptorIndex := 122, attributes := #[] }])
  fields := #[{ name := "$assertionsDisabled", type := .boolean, accessFlags := 4120, slot := 0, constantValue := 0 }]
  methods := #[k8m0, k8m1, k8m2]
  instanceTypes := #[]
  staticTypes := #[.boolean]
  resolved := Array.replicate 395 none
  statics := none }

def pool9 : Array CpInfo := pool [(8, .class_ 10), (1, u "java/lang/Iterable"), (24, .class_ 36), (0, u "java/lang/Object")] 25

/-- java/lang/Iterable -/
def k9 : Class := { plain "java/lang/Iterable" (some 0) with
  accessFlags := 1537
  interfaces := #[]
  cf := some (fileOf pool9 8 #[] #[] 1537 35 #[] #[])
  fields := #[]
  methods := #[]
  instanceTypes := #[]
  staticTypes := #[]
  resolved := Array.replicate 62 none
  statics := none }

def pool10 : Array CpInfo := pool [(10, .class_ 12), (1, u "java/util/Collection"), (47, .class_ 61), (0, u "java/lang/Object"), (0, .class_ 63), (0, u "java/lang/Iterable")] 51

/-- java/util/Collection -/
def k10 : Class := { plain "java/util/Collection" (some 0) with
  accessFlags := 1537
  interfaces := #[9]
  cf := some (fileOf pool10 10 #[] #[] 1537 60 #[62] #[])
  fields := #[]
  methods := #[]
  instanceTypes := #[]
  staticTypes := #[]
  resolved := Array.replicate 115 none
  statics := none }

def pool11 : Array CpInfo := pool [(1, .methodref 2 3), (0, .class_ 4), (0, .nameAndType 5 6), (0, u "java/lang/Object"), (0, u "<init>"), (0, u "()V"), (1, .class_ 10), (1, u "java/util/AbstractCollection"), (66, .class_ 78), (0, u "java/util/Collection")] 81

def k11c0 : Code := { maxStack := 1, maxLocals := 1, code := jdk_22_method_1_code, exceptionTable := #[], attributes := #[] }
def k11m0 : Method := { name := "<init>", desc := "()V", sig := { parameters := [], returnType := none }, accessFlags := 4, code := some k11c0 }
/-- java/util/AbstractCollection -/
def k11 : Class := { plain "java/util/AbstractCollection" (some 0) with
  accessFlags := 1057
  interfaces := #[10]
  cf := some (fileOf pool11 8 #[] #[{ accessFlags := 4, nameIndex := 5, descriptorIndex := 6, attributes := #[] }] 1057 2 #[77] #[])
  fields := #[]
  methods := #[k11m0]
  instanceTypes := #[]
  staticTypes := #[]
  resolved := Array.replicate 160 none
  statics := none }

def pool12 : Array CpInfo := pool [(8, .class_ 10), (1, u "java/util/SequencedCollection"), (15, .class_ 27), (0, u "java/lang/Object"), (0, .class_ 29), (0, u "java/util/Collection")] 27

/-- java/util/SequencedCollection -/
def k12 : Class := { plain "java/util/SequencedCollection" (some 0) with
  accessFlags := 1537
  interfaces := #[10]
  cf := some (fileOf pool12 8 #[] #[] 1537 26 #[28] #[])
  fields := #[]
  methods := #[]
  instanceTypes := #[]
  staticTypes := #[]
  resolved := Array.replicate 57 none
  statics := none }

def pool13 : Array CpInfo := pool [(8, .class_ 10), (1, u "java/util/List"), (92, .class_ 104), (0, u "java/lang/Object"), (15, .class_ 121), (0, u "java/util/SequencedCollection")] 129

/-- java/util/List -/
def k13 : Class := { plain "java/util/List" (some 0) with
  accessFlags := 1537
  interfaces := #[12]
  cf := some (fileOf pool13 8 #[] #[] 1537 103 #[120] #[])
  fields := #[]
  methods := #[]
  instanceTypes := #[]
  staticTypes := #[]
  resolved := Array.replicate 251 none
  statics := none }

def pool14 : Array CpInfo := pool [(1, .methodref 2 3), (0, .class_ 4), (0, .nameAndType 5 6), (0, u "java/util/AbstractCollection"), (0, u "<init>"), (0, u "()V"), (0, .fieldref 8 9), (0, .class_ 10), (0, .nameAndType 11 12), (0, u "java/util/AbstractList"), (0, u "modCount"), (0, u "I"), (64, .class_ 78), (0, u "java/util/AbstractList$Itr"), (3, .class_ 83), (0, u "java/util/AbstractList$ListItr"), (9, .class_ 94), (0, u "java/util/AbstractList$RandomAccessSubList"), (3, .class_ 99), (0, u "java/util/AbstractList$SubList"), (33, .class_ 134), (0, u "java/util/List"), (73, .class_ 209), (0, u "java/util/AbstractList$SubList$1"), (0, .class_ 211), (0, u "java/util/AbstractList$RandomAccessSpliterator")] 6

def k14c0 : Code := { maxStack := 2, maxLocals := 1, code := jdk_39_method_1_code, exceptionTable := #[], attributes := #[] }
def k14m0 : Method := { name := "<init>", desc := "()V", sig := { parameters := [], returnType := none }, accessFlags := 4, code := some k14c0 }
/-- java/util/AbstractList -/
def k14 : Class := { plain "java/util/AbstractList" (some 11) with
  accessFlags := 1057
  interfaces := #[13]
  cf := some (fileOf pool14 8 #[.nestMembers #[93, 98, 208, 210, 82, 77]] #[{ accessFlags := 4, nameIndex := 5, descriptorIndex := 6, attributes := #[] }] 1057 2 #[133] #[{ accessFlags := 132, nameIndex := 11, descriptorIndex := 12, attributes := #[] }])
  fields := #[{ name := "modCount", type := .int, accessFlags := 132, slot := 0, constantValue := 0 }]
  methods := #[k14m0]
  instanceTypes := #[.int]
  staticTypes := #[]
  resolved := Array.replicate 218 none
  statics := none }

def pool15 : Array CpInfo := pool [(1, .class_ 2), (0, u "java/util/RandomAccess"), (0, .class_ 4), (0, u "java/lang/Object")] 2

/-- java/util/RandomAccess -/
def k15 : Class := { plain "java/util/RandomAccess" (some 0) with
  accessFlags := 1537
  interfaces := #[]
  cf := some (fileOf pool15 1 #[] #[] 1537 3 #[] #[])
  fields := #[]
  methods := #[]
  instanceTypes := #[]
  staticTypes := #[]
  resolved := Array.replicate 7 none
  statics := none }

def pool16 : Array CpInfo := pool [(1, .class_ 2), (0, u "java/lang/Cloneable"), (0, .class_ 4), (0, u "java/lang/Object")] 2

/-- java/lang/Cloneable -/
def k16 : Class := { plain "java/lang/Cloneable" (some 0) with
  accessFlags := 1537
  interfaces := #[]
  cf := some (fileOf pool16 1 #[] #[] 1537 3 #[] #[])
  fields := #[]
  methods := #[]
  instanceTypes := #[]
  staticTypes := #[]
  resolved := Array.replicate 7 none
  statics := none }

def pool17 : Array CpInfo := pool [(1, .methodref 2 3), (0, .class_ 4), (0, .nameAndType 5 6), (0, u "java/util/AbstractList"), (0, u "<init>"), (0, u "()V"), (0, .class_ 8), (0, u "java/lang/Object"), (0, .fieldref 10 11), (0, .class_ 12), (0, .nameAndType 13 14), (0, u "java/util/ArrayList"), (0, u "elementData"), (0, u "[Ljava/lang/Object;"), (2, u "EMPTY_ELEMENTDATA"), (21, .fieldref 10 40), (0, .nameAndType 41 14), (0, u "DEFAULTCAPACITY_EMPTY_ELEMENTDATA"), (5, u "()[Ljava/lang/Object;"), (0, .fieldref 10 49), (0, .nameAndType 50 51), (0, u "size"), (0, u "I"), (11, .fieldref 10 64), (0, .nameAndType 65 51), (0, u "modCount"), (3, .methodref 10 70), (0, .nameAndType 71 72), (0, u "grow"), (0, u "(I)[Ljava/lang/Object;"), (6, .methodref 80 81), (0, .class_ 82), (0, .nameAndType 83 84), (0, u "java/lang/Math"), (0, u "max"), (0, u "(II)I"), (11, u "(Ljava/lang/Object;)Z"), (32, .methodref 10 130), (0, .nameAndType 71 47), (0, .methodref 10 132), (0, .nameAndType 133 134), (0, u "add"), (0, u "(Ljava/lang/Object;[Ljava/lang/Object;I)V"), (13, .class_ 149), (0, u "java/util/List"), (112, .class_ 263), (0, u "java/util/ArrayList$ListItr"), (3, .class_ 268), (0, u "java/util/ArrayList$Itr"), (7, .class_ 277), (0, u "java/util/ArrayList$SubList"), (12, .class_ 291), (0, u "java/util/ArrayList$ArrayListSpliterator"), (37, .class_ 330), (0, u "java/util/RandomAccess"), (0, .class_ 332), (0, u "java/lang/Cloneable"), (0, .class_ 334), (0, u "java/io/Serializable"), (0, u "serialVersionUID"), (0, u "J"), (3, u "DEFAULT_CAPACITY"), (159, .class_ 501), (0, u "java/util/ArrayList$SubList$2"), (0, .class_ 503), (0, u "java/util/ArrayList$SubList$1")] 5

def k17c0 : Code := { maxStack := 2, maxLocals := 1, code := jdk_38_method_2_code, exceptionTable := #[], attributes := #[] }
def k17m0 : Method := { name := "<init>", desc := "()V", sig := { parameters := [], returnType := none }, accessFlags := 1, code := some k17c0 }
def k17c1 : Code := { maxStack := 4, maxLocals := 4, code := jdk_38_method_6_code, exceptionTable := #[], attributes := #[] }
def k17m1 : Method := { name := "grow", desc := "(I)[Ljava/lang/Object;", sig := { parameters := [.int], returnType := some (.array (.object "java/lang/Object")) }, accessFlags := 2, code := some k17c1 }
def k17c2 : Code := { maxStack := 3, maxLocals := 1, code := jdk_38_method_7_code, exceptionTable := #[], attributes := #[] }
def k17m2 : Method := { name := "grow", desc := "()[Ljava/lang/Object;", sig := { parameters := [], returnType := some (.array (.object "java/lang/Object")) }, accessFlags := 2, code := some k17c2 }
def k17c3 : Code := { maxStack := 3, maxLocals := 4, code := jdk_38_method_24_code, exceptionTable := #[], attributes := #[] }
def k17m3 : Method := { name := "add", desc := "(Ljava/lang/Object;[Ljava/lang/Object;I)V", sig := { parameters := [(.object "java/lang/Object"), (.array (.object "java/lang/Object")), .int], returnType := none }, accessFlags := 2, code := some k17c3 }
def k17c4 : Code := { maxStack := 4, maxLocals := 2, code := jdk_38_method_25_code, exceptionTable := #[], attributes := #[] }
def k17m4 : Method := { name := "add", desc := "(Ljava/lang/Object;)Z", sig := { parameters := [(.object "java/lang/Object")], returnType := some .boolean }, accessFlags := 1, code := some k17c4 }
/-- java/util/ArrayList -/
def k17 : Class := { plain "java/util/ArrayList" (some 14) with
  accessFlags := 33
  interfaces := #[13, 15, 16, 2]
  cf := some (fileOf pool17 10 #[.nestMembers #[290, 276, 500, 502, 262, 267]] #[{ accessFlags := 1, nameIndex := 5, descriptorIndex := 6, attributes := #[] }, { accessFlags := 2, nameIndex := 71, descriptorIndex := 72, attributes := #[] }, { accessFlags := 2, nameIndex := 71, descriptorIndex := 47, attributes := #[] }, { accessFlags := 2, nameIndex := 133, descriptorIndex := 134, attributes := #[] }, { accessFlags := 1, nameIndex := 133, descriptorIndex := 96, attributes := #[] }] 33 2 #[148, 329, 331, 333] #[{ accessFlags := 26, nameIndex := 335, descriptorIndex := 336, attributes := #[] }, { accessFlags := 26, nameIndex := 340, descriptorIndex := 51, attributes := #[] }, { accessFlags := 26, nameIndex := 17, descriptorIndex := 14, attributes := #[] }, { accessFlags := 26, nameIndex := 41, descriptorIndex := 14, attributes := #[] }, { accessFlags := 128, nameIndex := 13, descriptorIndex := 14, attributes := #[] }, { accessFlags := 2, nameIndex := 50, descriptorIndex := 51, attributes := #[] }])
  fields := #[{ name := "serialVersionUID", type := .long, accessFlags := 26, slot := 0, constantValue := 0 }, { name := "DEFAULT_CAPACITY", type := .int, accessFlags := 26, slot := 1, constantValue := 0 }, { name := "EMPTY_ELEMENTDATA", type := (.array (.object "java/lang/Object")), accessFlags := 26, slot := 2, constantValue := 0 }, { name := "DEFAULTCAPACITY_EMPTY_ELEMENTDATA", type := (.array (.object "java/lang/Object")), accessFlags := 26, slot := 3, constantValue := 0 }, { name := "elementData", type := (.array (.object "java/lang/Object")), accessFlags := 128, slot := 1, constantValue := 0 }, { name := "size", type := .int, accessFlags := 2, slot := 2, constantValue := 0 }]
  methods := #[k17m0, k17m1, k17m2, k17m3, k17m4]
  instanceTypes := #[.int, (.array (.object "java/lang/Object")), .int]
  staticTypes := #[.long, .int, (.array (.object "java/lang/Object")), (.array (.object "java/lang/Object"))]
  resolved := Array.replicate 509 none
  statics := some 1 }

def pool18 : Array CpInfo := pool [(1, .class_ 2), (0, u "java/lang/Math"), (1, .class_ 6), (1, u "java/lang/Object"), (0, u "<init>"), (0, u "()V"), (89, .class_ 100), (1, u "java/lang/Math$RandomNumberGeneratorHolder"), (71, u "negativeZeroFloatBits"), (0, u "J"), (2, u "negativeZeroDoubleBits"), (21, u "max"), (46, u "$assertionsDisabled"), (0, u "Z"), (88, u "(II)I"), (2, u "twoToTheDoubleScaleDown"), (0, u "D"), (4, u "twoToTheDoubleScaleUp"), (9, u "E"), (3, u "PI"), (2, u "TAU"), (2, u "DEGREES_TO_RADIANS"), (0, u "RADIANS_TO_DEGREES")] 94

def k18m0 : Method := { name := "<init>", desc := "()V", sig := { parameters := [], returnType := none }, accessFlags := 2, code := none }
def k18c1 : Code := { maxStack := 2, maxLocals := 2, code := jdk_29_method_65_code, exceptionTable := #[], attributes := #[] }
def k18m1 : Method := { name := "max", desc := "(II)I", sig := { parameters := [.int, .int], returnType := some .int }, accessFlags := 9, code := some k18c1 }
/-- java/lang/Math -/
def k18 : Class := { plain "java/lang/Math" (some 0) with
  accessFlags := 49
  interfaces := #[]
  cf := some (fileOf pool18 1 #[.nestMembers #[98]] #[{ accessFlags := 2, nameIndex := 7, descriptorIndex := 8, attributes := #[] }, { accessFlags := 9, nameIndex := 198, descriptorIndex := 335, attributes := #[] }] 49 4 #[] #[{ accessFlags := 25, nameIndex := 354, descriptorIndex := 339, attributes := #[] }, { accessFlags := 25, nameIndex := 358, descriptorIndex := 339, attributes := #[] }, { accessFlags := 25, nameIndex := 361, descriptorIndex := 339, attributes := #[] }, { accessFlags := 26, nameIndex := 364, descriptorIndex := 339, attributes := #[] }, { accessFlags := 26, nameIndex := 365, descriptorIndex := 339, attributes := #[] }, { accessFlags := 26, nameIndex := 172, descriptorIndex := 173, attributes := #[] }, { accessFlags := 26, nameIndex := 176, descriptorIndex := 173, attributes := #[] }, { accessFlags := 8, nameIndex := 344, descriptorIndex := 339, attributes := #[] }, { accessFlags := 8, nameIndex := 338, descriptorIndex := 339, attributes := #[] }, { accessFlags := 4120, nameIndex := 245, descriptorIndex := 246, attributes := #[] }])
  fields := #[{ name := "E", type := .double, accessFlags := 25, slot := 0, constantValue := 0 }, { name := "PI", type := .double, accessFlags := 25, slot := 1, constantValue := 0 }, { name := "TAU", type := .double, accessFlags := 25, slot := 2, constantValue := 0 }, { name := "DEGREES_TO_RADIANS", type := .double, accessFlags := 26, slot := 3, constantValue := 0 }, { name := "RADIANS_TO_DEGREES", type := .double, accessFlags := 26, slot := 4, constantValue := 0 }, { name := "negativeZeroFloatBits", type := .long, accessFlags := 26, slot := 5, constantValue := 0 }, { name := "negativeZeroDoubleBits", type := .long, accessFlags := 26, slot := 6, constantValue := 0 }, { name := "twoToTheDoubleScaleUp", type := .double, accessFlags := 8, slot := 7, constantValue := 0 }, { name := "twoToTheDoubleScaleDown", type := .double, accessFlags := 8, slot := 8, constantValue := 0 }, { name := "$assertionsDisabled", type := .boolean, accessFlags := 4120, slot := 9, constantValue := 0 }]
  methods := #[k18m0, k18m1]
  instanceTypes := #[]
  staticTypes := #[.double, .double, .double, .double, .double, .long, .long, .double, .double, .boolean]
  resolved := Array.replicate 460 none
  statics := none }

def pool19 : Array CpInfo := pool [(1, .methodref 2 3), (0, .class_ 4), (0, .nameAndType 5 6), (0, u "java/lang/Object"), (0, u "<init>"), (0, u "()V"), (0, .class_ 8), (0, u "java/lang/Record")] 13

def k19c0 : Code := { maxStack := 1, maxLocals := 1, code := jdk_30_method_1_code, exceptionTable := #[], attributes := #[] }
def k19m0 : Method := { name := "<init>", desc := "()V", sig := { parameters := [], returnType := none }, accessFlags := 4, code := some k19c0 }
/-- java/lang/Record -/
def k19 : Class := { plain "java/lang/Record" (some 0) with
  accessFlags := 1057
  interfaces := #[]
  cf := some (fileOf pool19 7 #[] #[{ accessFlags := 4, nameIndex := 5, descriptorIndex := 6, attributes := #[] }] 1057 2 #[] #[])
  fields := #[]
  methods := #[k19m0]
  instanceTypes := #[]
  staticTypes := #[]
  resolved := Array.replicate 22 none
  statics := none }

def pool20 : Array CpInfo := pool [(1, .class_ 2), (0, u "com/example/scopegate/scopegate/token/AccessToken"), (0, .methodref 4 5), (0, .class_ 6), (0, .nameAndType 7 8), (0, u "java/lang/Record"), (0, u "<init>"), (0, u "()V"), (0, .fieldref 1 10), (0, .nameAndType 11 12), (0, u "application"), (0, u "Ljava/lang/String;"), (0, .fieldref 1 14), (0, .nameAndType 15 12), (0, u "user"), (0, .fieldref 1 17), (0, .nameAndType 18 12), (0, u "subject"), (0, .fieldref 1 20), (0, .nameAndType 21 12), (0, u "scope"), (0, .fieldref 1 23), (0, .nameAndType 24 25), (0, u "issued"), (0, u "J"), (0, .fieldref 1 27), (0, .nameAndType 28 25), (0, u "expires"), (0, .fieldref 1 30), (0, .nameAndType 31 12), (0, u "issuer"), (0, .fieldref 1 33), (0, .nameAndType 34 35), (0, u "audience"), (0, u "Ljava/util/List;"), (0, .fieldref 1 37), (0, .nameAndType 38 12), (0, u "id"), (2, u "APPLICATION_SYNTAX"), (0, u "Ljava/util/regex/Pattern;"), (14, u "SCOPE_SYNTAX"), (2, u "USER_SYNTAX"), (2, u "ISSUER_OR_AUDIENCE_SYNTAX"), (26, u "TYPE"), (3, u "MEDIA_TYPE"), (2, u "ISSUER"), (2, u "AUDIENCE"), (2, u "ID"), (2, u "CLIENT_ID"), (2, u "SUBJECT"), (2, u "SCOPE"), (1, u "AUTH_TIME"), (2, u "AUTHENTICATION_METHODS"), (2, u "PASSWORD_METHOD"), (2, u "(Ljava/lang/String;Ljava/lang/String;Ljava/lang/String;Ljava/lang/String;JJLjava/lang/String;Ljava/util/List;Ljava/lang/String;)V")] 44

def k20c0 : Code := { maxStack := 3, maxLocals := 12, code := prog_13_method_1_code, exceptionTable := #[], attributes := #[] }
def k20m0 : Method := { name := "<init>", desc := "(Ljava/lang/String;Ljava/lang/String;Ljava/lang/String;Ljava/lang/String;JJLjava/lang/String;Ljava/util/List;Ljava/lang/String;)V", sig := { parameters := [(.object "java/lang/String"), (.object "java/lang/String"), (.object "java/lang/String"), (.object "java/lang/String"), .long, .long, (.object "java/lang/String"), (.object "java/util/List"), (.object "java/lang/String")], returnType := none }, accessFlags := 1, code := some k20c0 }
/-- com/example/scopegate/scopegate/token/AccessToken -/
def k20 : Class := { plain "com/example/scopegate/scopegate/token/AccessToken" (some 19) with
  accessFlags := 49
  interfaces := #[]
  cf := some (fileOf pool20 1 #[] #[{ accessFlags := 1, nameIndex := 7, descriptorIndex := 123, attributes := #[] }] 49 4 #[] #[{ accessFlags := 18, nameIndex := 11, descriptorIndex := 12, attributes := #[] }, { accessFlags := 18, nameIndex := 15, descriptorIndex := 12, attributes := #[] }, { accessFlags := 18, nameIndex := 18, descriptorIndex := 12, attributes := #[] }, { accessFlags := 18, nameIndex := 21, descriptorIndex := 12, attributes := #[] }, { accessFlags := 18, nameIndex := 24, descriptorIndex := 25, attributes := #[] }, { accessFlags := 18, nameIndex := 28, descriptorIndex := 25, attributes := #[] }, { accessFlags := 18, nameIndex := 31, descriptorIndex := 12, attributes := #[] }, { accessFlags := 18, nameIndex := 34, descriptorIndex := 35, attributes := #[] }, { accessFlags := 18, nameIndex := 38, descriptorIndex := 12, attributes := #[] }, { accessFlags := 24, nameIndex := 90, descriptorIndex := 12, attributes := #[] }, { accessFlags := 24, nameIndex := 94, descriptorIndex := 12, attributes := #[] }, { accessFlags := 24, nameIndex := 97, descriptorIndex := 12, attributes := #[] }, { accessFlags := 24, nameIndex := 100, descriptorIndex := 12, attributes := #[] }, { accessFlags := 24, nameIndex := 103, descriptorIndex := 12, attributes := #[] }, { accessFlags := 24, nameIndex := 106, descriptorIndex := 12, attributes := #[] }, { accessFlags := 24, nameIndex := 109, descriptorIndex := 12, attributes := #[] }, { accessFlags := 24, nameIndex := 112, descriptorIndex := 12, attributes := #[] }, { accessFlags := 24, nameIndex := 114, descriptorIndex := 12, attributes := #[] }, { accessFlags := 24, nameIndex := 117, descriptorIndex := 12, attributes := #[] }, { accessFlags := 24, nameIndex := 120, descriptorIndex := 12, attributes := #[] }, { accessFlags := 26, nameIndex := 41, descriptorIndex := 42, attributes := #[] }, { accessFlags := 26, nameIndex := 60, descriptorIndex := 42, attributes := #[] }, { accessFlags := 26, nameIndex := 57, descriptorIndex := 42, attributes := #[] }, { accessFlags := 26, nameIndex := 63, descriptorIndex := 42, attributes := #[] }])
  fields := #[{ name := "application", type := (.object "java/lang/String"), accessFlags := 18, slot := 0, constantValue := 0 }, { name := "user", type := (.object "java/lang/String"), accessFlags := 18, slot := 1, constantValue := 0 }, { name := "subject", type := (.object "java/lang/String"), accessFlags := 18, slot := 2, constantValue := 0 }, { name := "scope", type := (.object "java/lang/String"), accessFlags := 18, slot := 3, constantValue := 0 }, { name := "issued", type := .long, accessFlags := 18, slot := 4, constantValue := 0 }, { name := "expires", type := .long, accessFlags := 18, slot := 5, constantValue := 0 }, { name := "issuer", type := (.object "java/lang/String"), accessFlags := 18, slot := 6, constantValue := 0 }, { name := "audience", type := (.object "java/util/List"), accessFlags := 18, slot := 7, constantValue := 0 }, { name := "id", type := (.object "java/lang/String"), accessFlags := 18, slot := 8, constantValue := 0 }, { name := "TYPE", type := (.object "java/lang/String"), accessFlags := 24, slot := 0, constantValue := 0 }, { name := "MEDIA_TYPE", type := (.object "java/lang/String"), accessFlags := 24, slot := 1, constantValue := 0 }, { name := "ISSUER", type := (.object "java/lang/String"), accessFlags := 24, slot := 2, constantValue := 0 }, { name := "AUDIENCE", type := (.object "java/lang/String"), accessFlags := 24, slot := 3, constantValue := 0 }, { name := "ID", type := (.object "java/lang/String"), accessFlags := 24, slot := 4, constantValue := 0 }, { name := "CLIENT_ID", type := (.object "java/lang/String"), accessFlags := 24, slot := 5, constantValue := 0 }, { name := "SUBJECT", type := (.object "java/lang/String"), accessFlags := 24, slot := 6, constantValue := 0 }, { name := "SCOPE", type := (.object "java/lang/String"), accessFlags := 24, slot := 7, constantValue := 0 }, { name := "AUTH_TIME", type := (.object "java/lang/String"), accessFlags := 24, slot := 8, constantValue := 0 }, { name := "AUTHENTICATION_METHODS", type := (.object "java/lang/String"), accessFlags := 24, slot := 9, constantValue := 0 }, { name := "PASSWORD_METHOD", type := (.object "java/lang/String"), accessFlags := 24, slot := 10, constantValue := 0 }, { name := "APPLICATION_SYNTAX", type := (.object "java/util/regex/Pattern"), accessFlags := 26, slot := 11, constantValue := 0 }, { name := "USER_SYNTAX", type := (.object "java/util/regex/Pattern"), accessFlags := 26, slot := 12, constantValue := 0 }, { name := "SCOPE_SYNTAX", type := (.object "java/util/regex/Pattern"), accessFlags := 26, slot := 13, constantValue := 0 }, { name := "ISSUER_OR_AUDIENCE_SYNTAX", type := (.object "java/util/regex/Pattern"), accessFlags := 26, slot := 14, constantValue := 0 }]
  methods := #[k20m0]
  instanceTypes := #[(.object "java/lang/String"), (.object "java/lang/String"), (.object "java/lang/String"), (.object "java/lang/String"), .long, .long, (.object "java/lang/String"), (.object "java/util/List"), (.object "java/lang/String")]
  staticTypes := #[(.object "java/lang/String"), (.object "java/lang/String"), (.object "java/lang/String"), (.object "java/lang/String"), (.object "java/lang/String"), (.object "java/lang/String"), (.object "java/lang/String"), (.object "java/lang/String"), (.object "java/lang/String"), (.object "java/lang/String"), (.object "java/lang/String"), (.object "java/util/regex/Pattern"), (.object "java/util/regex/Pattern"), (.object "java/util/regex/Pattern"), (.object "java/util/regex/Pattern")]
  resolved := Array.replicate 168 none
  statics := none }

def pool21 : Array CpInfo := pool [(1, .methodref 2 3), (0, .class_ 4), (0, .nameAndType 5 6), (0, u "java/lang/Record"), (0, u "<init>"), (0, u "()V"), (0, .fieldref 8 9), (0, .class_ 10), (0, .nameAndType 11 12), (0, u "com/example/scopegate/scopegate/token/Verdict"), (0, u "outcome"), (0, u "Lcom/example/scopegate/scopegate/token/Verdict$Outcome;"), (0, .fieldref 8 14), (0, .nameAndType 15 16), (0, u "token"), (0, u "Lcom/example/scopegate/scopegate/token/AccessToken;"), (0, .fieldref 8 18), (0, .nameAndType 19 20), (0, u "requiredScope"), (0, u "Ljava/lang/String;"), (0, .fieldref 22 23), (0, .class_ 24), (0, .nameAndType 25 12), (0, u "com/example/scopegate/scopegate/token/Verdict$Outcome"), (0, u "VALID"), (0, .methodref 8 27), (0, .nameAndType 5 28), (0, u "(Lcom/example/scopegate/scopegate/token/Verdict$Outcome;Lcom/example/scopegate/scopegate/token/AccessToken;Ljava/lang/String;)V"), (3, u "()Ljava/lang/String;"), (21, u "valid"), (0, u "(Lcom/example/scopegate/scopegate/token/AccessToken;Ljava/lang/String;)Lcom/example/scopegate/scopegate/token/Verdict;"), (2, u "challenge"), (3, u "()Lcom/example/scopegate/scopegate/token/Verdict$Outcome;"), (0, u "()Lcom/example/scopegate/scopegate/token/AccessToken;")] 24

def k21c0 : Code := { maxStack := 2, maxLocals := 4, code := prog_19_method_1_code, exceptionTable := #[], attributes := #[] }
def k21m0 : Method := { name := "<init>", desc := "(Lcom/example/scopegate/scopegate/token/Verdict$Outcome;Lcom/example/scopegate/scopegate/token/AccessToken;Ljava/lang/String;)V", sig := { parameters := [(.object "com/example/scopegate/scopegate/token/Verdict$Outcome"), (.object "com/example/scopegate/scopegate/token/AccessToken"), (.object "java/lang/String")], returnType := none }, accessFlags := 1, code := some k21c0 }
def k21c1 : Code := { maxStack := 5, maxLocals := 2, code := prog_19_method_2_code, exceptionTable := #[], attributes := #[] }
def k21m1 : Method := { name := "valid", desc := "(Lcom/example/scopegate/scopegate/token/AccessToken;Ljava/lang/String;)Lcom/example/scopegate/scopegate/token/Verdict;", sig := { parameters := [(.object "com/example/scopegate/scopegate/token/AccessToken"), (.object "java/lang/String")], returnType := some (.object "com/example/scopegate/scopegate/token/Verdict") }, accessFlags := 8, code := some k21c1 }
def k21c2 : Code := { maxStack := 2, maxLocals := 1, code := prog_19_method_4_code, exceptionTable := #[], attributes := #[] }
def k21m2 : Method := { name := "challenge", desc := "()Ljava/lang/String;", sig := { parameters := [], returnType := some (.object "java/lang/String") }, accessFlags := 1, code := some k21c2 }
def k21c3 : Code := { maxStack := 1, maxLocals := 1, code := prog_19_method_8_code, exceptionTable := #[], attributes := #[] }
def k21m3 : Method := { name := "outcome", desc := "()Lcom/example/scopegate/scopegate/token/Verdict$Outcome;", sig := { parameters := [], returnType := some (.object "com/example/scopegate/scopegate/token/Verdict$Outcome") }, accessFlags := 1, code := some k21c3 }
def k21c4 : Code := { maxStack := 1, maxLocals := 1, code := prog_19_method_9_code, exceptionTable := #[], attributes := #[] }
def k21m4 : Method := { name := "token", desc := "()Lcom/example/scopegate/scopegate/token/AccessToken;", sig := { parameters := [], returnType := some (.object "com/example/scopegate/scopegate/token/AccessToken") }, accessFlags := 1, code := some k21c4 }
def k21c5 : Code := { maxStack := 1, maxLocals := 1, code := prog_19_method_10_code, exceptionTable := #[], attributes := #[] }
def k21m5 : Method := { name := "requiredScope", desc := "()Ljava/lang/String;", sig := { parameters := [], returnType := some (.object "java/lang/String") }, accessFlags := 1, code := some k21c5 }
/-- com/example/scopegate/scopegate/token/Verdict -/
def k21 : Class := { plain "com/example/scopegate/scopegate/token/Verdict" (some 19) with
  accessFlags := 49
  interfaces := #[]
  cf := some (fileOf pool21 8 #[.nestMembers #[22]] #[{ accessFlags := 1, nameIndex := 5, descriptorIndex := 28, attributes := #[] }, { accessFlags := 8, nameIndex := 54, descriptorIndex := 55, attributes := #[] }, { accessFlags := 1, nameIndex := 58, descriptorIndex := 32, attributes := #[] }, { accessFlags := 1, nameIndex := 11, descriptorIndex := 62, attributes := #[] }, { accessFlags := 1, nameIndex := 15, descriptorIndex := 63, attributes := #[] }, { accessFlags := 1, nameIndex := 19, descriptorIndex := 32, attributes := #[] }] 49 2 #[] #[{ accessFlags := 18, nameIndex := 11, descriptorIndex := 12, attributes := #[] }, { accessFlags := 18, nameIndex := 15, descriptorIndex := 16, attributes := #[] }, { accessFlags := 18, nameIndex := 19, descriptorIndex := 20, attributes := #[] }])
  fields := #[{ name := "outcome", type := (.object "com/example/scopegate/scopegate/token/Verdict$Outcome"), accessFlags := 18, slot := 0, constantValue := 0 }, { name := "token", type := (.object "com/example/scopegate/scopegate/token/AccessToken"), accessFlags := 18, slot := 1, constantValue := 0 }, { name := "requiredScope", type := (.object "java/lang/String"), accessFlags := 18, slot := 2, constantValue := 0 }]
  methods := #[k21m0, k21m1, k21m2, k21m3, k21m4, k21m5]
  instanceTypes := #[(.object "com/example/scopegate/scopegate/token/Verdict$Outcome"), (.object "com/example/scopegate/scopegate/token/AccessToken"), (.object "java/lang/String")]
  staticTypes := #[]
  resolved := Array.replicate 88 none
  statics := none }

def pool22 : Array CpInfo := pool [(2, .class_ 4), (1, u "java/lang/Enum"), (0, u "name"), (0, u "Ljava/lang/String;"), (2, u "ordinal"), (0, u "I"), (1, .class_ 14), (1, u "java/lang/Object"), (4, u "hash"), (86, .class_ 108), (1, u "java/lang/Enum$EnumDesc"), (2, .class_ 112), (0, u "java/lang/constant/Constable"), (0, .class_ 114), (0, u "java/lang/Comparable"), (0, .class_ 116), (0, u "java/io/Serializable")] 87

/-- java/lang/Enum -/
def k22 : Class := { plain "java/lang/Enum" (some 0) with
  accessFlags := 1057
  interfaces := #[5, 3, 2]
  cf := some (fileOf pool22 2 #[.nestMembers #[106]] #[] 1057 12 #[111, 113, 115] #[{ accessFlags := 18, nameIndex := 5, descriptorIndex := 6, attributes := #[] }, { accessFlags := 18, nameIndex := 9, descriptorIndex := 10, attributes := #[] }, { accessFlags := 2, nameIndex := 19, descriptorIndex := 10, attributes := #[] }])
  fields := #[{ name := "name", type := (.object "java/lang/String"), accessFlags := 18, slot := 0, constantValue := 0 }, { name := "ordinal", type := .int, accessFlags := 18, slot := 1, constantValue := 0 }, { name := "hash", type := .int, accessFlags := 2, slot := 2, constantValue := 0 }]
  methods := #[]
  instanceTypes := #[(.object "java/lang/String"), .int, .int]
  staticTypes := #[]
  resolved := Array.replicate 204 none
  statics := none }

def pool23 : Array CpInfo := pool [(1, .class_ 2), (0, u "com/example/scopegate/scopegate/token/Verdict$Outcome"), (2, u "VALID"), (0, u "Lcom/example/scopegate/scopegate/token/Verdict$Outcome;"), (2, u "NO_TOKEN"), (2, u "FORM"), (2, u "SIGNATURE"), (2, u "ISSUER"), (2, u "AUDIENCE"), (2, u "EXPIRED"), (2, u "SCOPE"), (2, u "$VALUES"), (0, u "[Lcom/example/scopegate/scopegate/token/Verdict$Outcome;"), (6, .class_ 40), (1, u "java/lang/Enum"), (6, .fieldref 1 48), (0, .nameAndType 49 50), (0, u "status"), (0, u "I"), (0, .fieldref 1 52), (0, .nameAndType 53 54), (0, u "error"), (0, u "Ljava/lang/String;"), (28, u "()I"), (0, u "()Ljava/lang/String;"), (6, .class_ 92), (0, u "com/example/scopegate/scopegate/token/Verdict")] 2

def k23c0 : Code := { maxStack := 1, maxLocals := 1, code := prog_20_method_4_code, exceptionTable := #[], attributes := #[] }
def k23m0 : Method := { name := "status", desc := "()I", sig := { parameters := [], returnType := some .int }, accessFlags := 1, code := some k23c0 }
def k23c1 : Code := { maxStack := 1, maxLocals := 1, code := prog_20_method_5_code, exceptionTable := #[], attributes := #[] }
def k23m1 : Method := { name := "error", desc := "()Ljava/lang/String;", sig := { parameters := [], returnType := some (.object "java/lang/String") }, accessFlags := 1, code := some k23c1 }
/-- com/example/scopegate/scopegate/token/Verdict$Outcome -/
def k23 : Class := { plain "com/example/scopegate/scopegate/token/Verdict$Outcome" (some 22) with
  accessFlags := 16433
  interfaces := #[]
  cf := some (fileOf pool23 1 #[.nestHost 91] #[{ accessFlags := 1, nameIndex := 49, descriptorIndex := 83, attributes := #[] }, { accessFlags := 1, nameIndex := 53, descriptorIndex := 84, attributes := #[] }] 16433 38 #[] #[{ accessFlags := 16409, nameIndex := 5, descriptorIndex := 6, attributes := #[] }, { accessFlags := 16409, nameIndex := 9, descriptorIndex := 6, attributes := #[] }, { accessFlags := 16409, nameIndex := 12, descriptorIndex := 6, attributes := #[] }, { accessFlags := 16409, nameIndex := 15, descriptorIndex := 6, attributes := #[] }, { accessFlags := 16409, nameIndex := 18, descriptorIndex := 6, attributes := #[] }, { accessFlags := 16409, nameIndex := 21, descriptorIndex := 6, attributes := #[] }, { accessFlags := 16409, nameIndex := 24, descriptorIndex := 6, attributes := #[] }, { accessFlags := 16409, nameIndex := 27, descriptorIndex := 6, attributes := #[] }, { accessFlags := 18, nameIndex := 49, descriptorIndex := 50, attributes := #[] }, { accessFlags := 18, nameIndex := 53, descriptorIndex := 54, attributes := #[] }, { accessFlags := 4122, nameIndex := 30, descriptorIndex := 31, attributes := #[] }])
  fields := #[{ name := "VALID", type := (.object "com/example/scopegate/scopegate/token/Verdict$Outcome"), accessFlags := 16409, slot := 0, constantValue := 0 }, { name := "NO_TOKEN", type := (.object "com/example/scopegate/scopegate/token/Verdict$Outcome"), accessFlags := 16409, slot := 1, constantValue := 0 }, { name := "FORM", type := (.object "com/example/scopegate/scopegate/token/Verdict$Outcome"), accessFlags := 16409, slot := 2, constantValue := 0 }, { name := "SIGNATURE", type := (.object "com/example/scopegate/scopegate/token/Verdict$Outcome"), accessFlags := 16409, slot := 3, constantValue := 0 }, { name := "ISSUER", type := (.object "com/example/scopegate/scopegate/token/Verdict$Outcome"), accessFlags := 16409, slot := 4, constantValue := 0 }, { name := "AUDIENCE", type := (.object "com/example/scopegate/scopegate/token/Verdict$Outcome"), accessFlags := 16409, slot := 5, constantValue := 0 }, { name := "EXPIRED", type := (.object "com/example/scopegate/scopegate/token/Verdict$Outcome"), accessFlags := 16409, slot := 6, constantValue := 0 }, { name := "SCOPE", type := (.object "com/example/scopegate/scopegate/token/Verdict$Outcome"), accessFlags := 16409, slot := 7, constantValue := 0 }, { name := "status", type := .int, accessFlags := 18, slot := 3, constantValue := 0 }, { name := "error", type := (.object "java/lang/String"), accessFlags := 18, slot := 4, constantValue := 0 }, { name := "$VALUES", type := (.array (.object "com/example/scopegate/scopegate/token/Verdict$Outcome")), accessFlags := 4122, slot := 8, constantValue := 0 }]
  methods := #[k23m0, k23m1]
  instanceTypes := #[(.object "java/lang/String"), .int, .int, .int, (.object "java/lang/String")]
  staticTypes := #[(.object "com/example/scopegate/scopegate/token/Verdict$Outcome"), (.object "com/example/scopegate/scopegate/token/Verdict$Outcome"), (.object "com/example/scopegate/scopegate/token/Verdict$Outcome"), (.object "com/example/scopegate/scopegate/token/Verdict$Outcome"), (.object "com/example/scopegate/scopegate/token/Verdict$Outcome"), (.object "com/example/scopegate/scopegate/token/Verdict$Outcome"), (.object "com/example/scopegate/scopegate/token/Verdict$Outcome"), (.object "com/example/scopegate/scopegate/token/Verdict$Outcome"), (.array (.object "com/example/scopegate/scopegate/token/Verdict$Outcome"))]
  resolved := Array.replicate 95 none
  statics := some 2 }

def pool24 : Array CpInfo := pool [(6, .class_ 8), (1, u "java/lang/Object"), (0, u "<init>"), (0, u "()V"), (1, .class_ 14), (1, u "java/lang/StringUTF16"), (31, u "$assertionsDisabled"), (0, u "Z"), (13, u "HI_BYTE_SHIFT"), (0, u "I"), (2, u "LO_BYTE_SHIFT"), (49, .methodref 12 116), (0, .nameAndType 117 118), (0, u "compress"), (0, u "([CI[BII)I"), (3, u "([CII)[B"), (138, u "coderFromArrayLen"), (0, u "([BI)B"), (106, .class_ 371), (1, u "java/lang/StringUTF16$LinesSpliterator"), (58, u "MAX_LENGTH"), (196, .class_ 628), (0, u "java/lang/StringUTF16$CodePointsSpliterator"), (0, .class_ 630), (0, u "java/lang/StringUTF16$CharsSpliterator")] 4

def k24m0 : Method := { name := "<init>", desc := "()V", sig := { parameters := [], returnType := none }, accessFlags := 0, code := none }
def k24c1 : Code := { maxStack := 2, maxLocals := 2, code := jdk_52_method_15_code, exceptionTable := #[], attributes := #[] }
def k24m1 : Method := { name := "coderFromArrayLen", desc := "([BI)B", sig := { parameters := [(.array .byte), .int], returnType := some .byte }, accessFlags := 8, code := some k24c1 }
def k24c2 : Code := { maxStack := 5, maxLocals := 6, code := jdk_52_method_16_code, exceptionTable := #[], attributes := #[] }
def k24m2 : Method := { name := "compress", desc := "([CII)[B", sig := { parameters := [(.array .char), .int, .int], returnType := some (.array .byte) }, accessFlags := 9, code := some k24c2 }
def k24c3 : Code := { maxStack := 3, maxLocals := 7, code := jdk_52_method_21_code, exceptionTable := #[], attributes := #[] }
def k24m3 : Method := { name := "compress", desc := "([CI[BII)I", sig := { parameters := [(.array .char), .int, (.array .byte), .int, .int], returnType := some .int }, accessFlags := 9, code := some k24c3 }
/-- java/lang/StringUTF16 -/
def k24 : Class := { plain "java/lang/StringUTF16" (some 0) with
  accessFlags := 48
  interfaces := #[]
  cf := some (fileOf pool24 12 #[.nestMembers #[627, 629, 369]] #[{ accessFlags := 0, nameIndex := 9, descriptorIndex := 10, attributes := #[] }, { accessFlags := 8, nameIndex := 261, descriptorIndex := 262, attributes := #[] }, { accessFlags := 9, nameIndex := 117, descriptorIndex := 122, attributes := #[] }, { accessFlags := 9, nameIndex := 117, descriptorIndex := 118, attributes := #[] }] 48 6 #[] #[{ accessFlags := 26, nameIndex := 61, descriptorIndex := 62, attributes := #[] }, { accessFlags := 26, nameIndex := 65, descriptorIndex := 62, attributes := #[] }, { accessFlags := 24, nameIndex := 430, descriptorIndex := 62, attributes := #[] }, { accessFlags := 4120, nameIndex := 46, descriptorIndex := 47, attributes := #[] }])
  fields := #[{ name := "HI_BYTE_SHIFT", type := .int, accessFlags := 26, slot := 0, constantValue := 0 }, { name := "LO_BYTE_SHIFT", type := .int, accessFlags := 26, slot := 1, constantValue := 0 }, { name := "MAX_LENGTH", type := .int, accessFlags := 24, slot := 2, constantValue := 0 }, { name := "$assertionsDisabled", type := .boolean, accessFlags := 4120, slot := 3, constantValue := 0 }]
  methods := #[k24m0, k24m1, k24m2, k24m3]
  instanceTypes := #[]
  staticTypes := #[.int, .int, .int, .boolean]
  resolved := Array.replicate 635 none
  statics := none }

def pool25 : Array CpInfo := pool [(2, .class_ 4), (1, u "java/lang/Object"), (0, u "<init>"), (0, u "()V"), (17, .class_ 26), (1, u "jdk/internal/util/Preconditions"), (28, .class_ 56), (0, u "jdk/internal/util/Preconditions$4"), (57, .class_ 115), (0, u "jdk/internal/util/Preconditions$1"), (7, u "SIOOBE_FORMATTER"), (0, u "Ljava/util/function/BiFunction;"), (0, .class_ 126), (0, u "jdk/internal/util/Preconditions$2"), (3, u "AIOOBE_FORMATTER"), (0, .class_ 132), (0, u "jdk/internal/util/Preconditions$3"), (3, u "IOOBE_FORMATTER")] 57

def k25m0 : Method := { name := "<init>", desc := "()V", sig := { parameters := [], returnType := none }, accessFlags := 1, code := none }
/-- jdk/internal/util/Preconditions -/
def k25 : Class := { plain "jdk/internal/util/Preconditions" (some 0) with
  accessFlags := 33
  interfaces := #[]
  cf := some (fileOf pool25 24 #[.nestMembers #[55, 131, 125, 114]] #[{ accessFlags := 1, nameIndex := 5, descriptorIndex := 6, attributes := #[] }] 33 2 #[] #[{ accessFlags := 25, nameIndex := 123, descriptorIndex := 124, attributes := #[] }, { accessFlags := 25, nameIndex := 130, descriptorIndex := 124, attributes := #[] }, { accessFlags := 25, nameIndex := 136, descriptorIndex := 124, attributes := #[] }])
  fields := #[{ name := "SIOOBE_FORMATTER", type := (.object "java/util/function/BiFunction"), accessFlags := 25, slot := 0, constantValue := 0 }, { name := "AIOOBE_FORMATTER", type := (.object "java/util/function/BiFunction"), accessFlags := 25, slot := 1, constantValue := 0 }, { name := "IOOBE_FORMATTER", type := (.object "java/util/function/BiFunction"), accessFlags := 25, slot := 2, constantValue := 0 }]
  methods := #[k25m0]
  instanceTypes := #[]
  staticTypes := #[(.object "java/util/function/BiFunction"), (.object "java/util/function/BiFunction"), (.object "java/util/function/BiFunction")]
  resolved := Array.replicate 194 none
  statics := some 3 }

def pool26 : Array CpInfo := pool [(9, u "<init>"), (6, .class_ 18), (1, u "java/lang/Object"), (0, u "()V"), (1, .class_ 23), (1, u "jdk/internal/util/ArraysSupport"), (0, u "LOG2_ARRAY_LONG_INDEX_SCALE"), (0, u "I"), (2, u "U"), (0, u "Ljdk/internal/misc/Unsafe;"), (8, u "BIG_ENDIAN"), (0, u "Z"), (8, u "LOG2_BYTE_BIT_SIZE"), (4, u "LOG2_ARRAY_INT_INDEX_SCALE"), (54, u "JLA"), (0, u "Ljdk/internal/access/JavaLangAccess;"), (11, u "LOG2_ARRAY_BOOLEAN_INDEX_SCALE"), (9, u "LOG2_ARRAY_BYTE_INDEX_SCALE"), (5, u "LOG2_ARRAY_CHAR_INDEX_SCALE"), (5, u "LOG2_ARRAY_SHORT_INDEX_SCALE"), (18, u "LOG2_ARRAY_FLOAT_INDEX_SCALE"), (24, u "LOG2_ARRAY_DOUBLE_INDEX_SCALE"), (89, u "T_BOOLEAN"), (2, u "T_CHAR"), (1, u "T_FLOAT"), (1, u "T_DOUBLE"), (1, u "T_BYTE"), (1, u "T_SHORT"), (1, u "T_INT"), (1, u "T_LONG"), (1, u "SOFT_MAX_ARRAY_LENGTH")] 83

def k26m0 : Method := { name := "<init>", desc := "()V", sig := { parameters := [], returnType := none }, accessFlags := 2, code := none }
/-- jdk/internal/util/ArraysSupport -/
def k26 : Class := { plain "jdk/internal/util/ArraysSupport" (some 0) with
  accessFlags := 33
  interfaces := #[]
  cf := some (fileOf pool26 21 #[] #[{ accessFlags := 2, nameIndex := 9, descriptorIndex := 19, attributes := #[] }] 33 16 #[] #[{ accessFlags := 24, nameIndex := 28, descriptorIndex := 29, attributes := #[] }, { accessFlags := 26, nameIndex := 38, descriptorIndex := 39, attributes := #[] }, { accessFlags := 25, nameIndex := 121, descriptorIndex := 25, attributes := #[] }, { accessFlags := 25, nameIndex := 131, descriptorIndex := 25, attributes := #[] }, { accessFlags := 25, nameIndex := 137, descriptorIndex := 25, attributes := #[] }, { accessFlags := 25, nameIndex := 143, descriptorIndex := 25, attributes := #[] }, { accessFlags := 25, nameIndex := 53, descriptorIndex := 25, attributes := #[] }, { accessFlags := 25, nameIndex := 24, descriptorIndex := 25, attributes := #[] }, { accessFlags := 25, nameIndex := 162, descriptorIndex := 25, attributes := #[] }, { accessFlags := 25, nameIndex := 187, descriptorIndex := 25, attributes := #[] }, { accessFlags := 26, nameIndex := 48, descriptorIndex := 25, attributes := #[] }, { accessFlags := 25, nameIndex := 277, descriptorIndex := 25, attributes := #[] }, { accessFlags := 25, nameIndex := 280, descriptorIndex := 25, attributes := #[] }, { accessFlags := 25, nameIndex := 282, descriptorIndex := 25, attributes := #[] }, { accessFlags := 25, nameIndex := 284, descriptorIndex := 25, attributes := #[] }, { accessFlags := 25, nameIndex := 286, descriptorIndex := 25, attributes := #[] }, { accessFlags := 25, nameIndex := 288, descriptorIndex := 25, attributes := #[] }, { accessFlags := 25, nameIndex := 290, descriptorIndex := 25, attributes := #[] }, { accessFlags := 25, nameIndex := 292, descriptorIndex := 25, attributes := #[] }, { accessFlags := 26, nameIndex := 108, descriptorIndex := 109, attributes := #[] }, { accessFlags := 25, nameIndex := 294, descriptorIndex := 25, attributes := #[] }])
  fields := #[{ name := "U", type := (.object "jdk/internal/misc/Unsafe"), accessFlags := 24, slot := 0, constantValue := 0 }, { name := "BIG_ENDIAN", type := .boolean, accessFlags := 26, slot := 1, constantValue := 0 }, { name := "LOG2_ARRAY_BOOLEAN_INDEX_SCALE", type := .int, accessFlags := 25, slot := 2, constantValue := 0 }, { name := "LOG2_ARRAY_BYTE_INDEX_SCALE", type := .int, accessFlags := 25, slot := 3, constantValue := 0 }, { name := "LOG2_ARRAY_CHAR_INDEX_SCALE", type := .int, accessFlags := 25, slot := 4, constantValue := 0 }, { name := "LOG2_ARRAY_SHORT_INDEX_SCALE", type := .int, accessFlags := 25, slot := 5, constantValue := 0 }, { name := "LOG2_ARRAY_INT_INDEX_SCALE", type := .int, accessFlags := 25, slot := 6, constantValue := 0 }, { name := "LOG2_ARRAY_LONG_INDEX_SCALE", type := .int, accessFlags := 25, slot := 7, constantValue := 0 }, { name := "LOG2_ARRAY_FLOAT_INDEX_SCALE", type := .int, accessFlags := 25, slot := 8, constantValue := 0 }, { name := "LOG2_ARRAY_DOUBLE_INDEX_SCALE", type := .int, accessFlags := 25, slot := 9, constantValue := 0 }, { name := "LOG2_BYTE_BIT_SIZE", type := .int, accessFlags := 26, slot := 10, constantValue := 0 }, { name := "T_BOOLEAN", type := .int, accessFlags := 25, slot := 11, constantValue := 0 }, { name := "T_CHAR", type := .int, accessFlags := 25, slot := 12, constantValue := 0 }, { name := "T_FLOAT", type := .int, accessFlags := 25, slot := 13, constantValue := 0 }, { name := "T_DOUBLE", type := .int, accessFlags := 25, slot := 14, constantValue := 0 }, { name := "T_BYTE", type := .int, accessFlags := 25, slot := 15, constantValue := 0 }, { name := "T_SHORT", type := .int, accessFlags := 25, slot := 16, constantValue := 0 }, { name := "T_INT", type := .int, accessFlags := 25, slot := 17, constantValue := 0 }, { name := "T_LONG", type := .int, accessFlags := 25, slot := 18, constantValue := 0 }, { name := "JLA", type := (.object "jdk/internal/access/JavaLangAccess"), accessFlags := 26, slot := 19, constantValue := 0 }, { name := "SOFT_MAX_ARRAY_LENGTH", type := .int, accessFlags := 25, slot := 20, constantValue := 0 }]
  methods := #[k26m0]
  instanceTypes := #[]
  staticTypes := #[(.object "jdk/internal/misc/Unsafe"), .boolean, .int, .int, .int, .int, .int, .int, .int, .int, .int, .int, .int, .int, .int, .int, .int, .int, .int, (.object "jdk/internal/access/JavaLangAccess"), .int]
  resolved := Array.replicate 378 none
  statics := none }

/-- the primitive byte -/
def k27 : Class := { plain "byte" none with kind := .primitive 'B', accessFlags := 0x411 }
/-- [B -/
def k28 : Class := { plain "[B" (some 0) with kind := .array 27 .byte, interfaces := #[16, 2], accessFlags := 1041 }

/-- the primitive char -/
def k29 : Class := { plain "char" none with kind := .primitive 'C', accessFlags := 0x411 }
/-- [C -/
def k30 : Class := { plain "[C" (some 0) with kind := .array 29 .char, interfaces := #[16, 2], accessFlags := 1041 }

/-- the primitive int -/
def k31 : Class := { plain "int" none with kind := .primitive 'I', accessFlags := 0x411 }
/-- [I -/
def k32 : Class := { plain "[I" (some 0) with kind := .array 31 .int, interfaces := #[16, 2], accessFlags := 1041 }

/-- [Ljava/lang/Object; -/
def k33 : Class := { plain "[Ljava/lang/Object;" (some 0) with kind := .array 0 (.object "java/lang/Object"), interfaces := #[16, 2], accessFlags := 1041 }

def heap : Heap := #[{ cls := 7, slots := #[.long 0, .int 1, .null, .int 0, .null, .int 0, .int 0], vm := .statics 7 },
  { cls := 17, slots := #[.long 0, .int 0, .ref 5, .ref 6], vm := .statics 17 },
  { cls := 23, slots := #[.ref 4, .null, .null, .null, .null, .null, .null, .null, .null], vm := .statics 23 },
  { cls := 25, slots := #[.null, .null, .null], vm := .statics 25 },
  { cls := 23, slots := #[.null, .int 0, .int 0, .int 200, .null], vm := .none },
  { cls := 33, slots := #[], vm := .none },
  { cls := 33, slots := #[], vm := .none }]
def classes : Array Class := #[k0, k1, k2, k3, k4, k5, k6, k7, k8, k9, k10, k11, k12, k13, k14, k15, k16, k17, k18, k19, k20, k21, k22, k23, k24, k25, k26, k27, k28, k29, k30, k31, k32, k33]
def interned : List (Array UInt16 × Addr) := []
def slotsUsed : Nat := 28
def theMethod : MethodId := ⟨1, 1⟩
def args0 : Array Value := #[.int 5, .int 1, .long 97, .long 98]
def aboutOver (below : List Frame) : State where
  vm := { classes := classes, interned := interned.toArray }
  heap := heap
  slotsUsed := slotsUsed
  threads := #[{ frames := .invoking theMethod args0 :: below }]
def below0 : List Frame := [.native { method := ⟨0, 0⟩, args := #[] }]
def about1 : State := aboutOver below0
def p0 : Program := .bare "" "" ""
def e0 : Env := launch0.env 0 0 0
theorem w_frames : about1.frames = Frame.invoking theMethod args0 :: below0 := rfl
set_option maxRecDepth 65536 in
theorem w_args : argsFit about1.vm theMethod args0 = true := by decide +kernel
set_option maxRecDepth 65536 in
theorem w_heap : heapFits about1 = true := by decide +kernel
set_option maxRecDepth 65536 in
theorem w_runnable : about1.curStatus? = some .runnable := by decide +kernel
set_option maxRecDepth 65536 in
theorem w_alone : about1.alone = true := by decide +kernel
set_option maxRecDepth 65536 in
theorem w_named : about1.methodNamed? x = some theMethod := by decide +kernel
set_option maxRecDepth 65536 in
theorem w_hears : about1.hears theMethod below0 = true := by decide +kernel
set_option maxRecDepth 65536 in
theorem w_ripe : about1.ripe theMethod args0 below0 = true := by decide +kernel
theorem w_running : about1.status = .running := rfl
set_option maxRecDepth 65536 in
theorem w_room : about1.hasRoom e0.platform room_1 = true :=
  launch0.hasRoom_least _ room_1 (by decide +kernel) (by decide +kernel) (by decide +kernel) (by decide +kernel) (by decide +kernel) (by decide +kernel)
theorem allAtoms_all (ts : List Jvm.Cond) (a : Array Jvm.Value) (st : Jvm.State) : (allAtoms ts).before a st = ts.all (fun c => c.before a st) := by
  induction ts with
  | nil => rfl
  | cons c t ih =>
    show (Jvm.Cond.and c (allAtoms t)).before a st = _
    rw [Jvm.Cond.before_and, ih, List.all_cons]
def words1 : List Jvm.Cond := Jvm.Cond.code x code maxLocals ret :: tables_1
/-- a 'code' word, met by the world's own term for the bytes: nothing is compared byte by byte -/
theorem code_word {y : MethodName} {bytes : ByteArray} {mx : Nat} {rt : Option FieldType} {a : Array Value} {s : State} {m : MethodId} {meth : Method} {c : Code} (h1 : s.methodNamed? y = some m) (h2 : s.vm.method? m = some meth) (h3 : meth.code = some c) (h4 : c.code = bytes)
    (h5 : (c.maxLocals == mx && c.exceptionTable.isEmpty && decide (c.maxStack ≤ mostOperands) && decide (meth.sig.returnType = rt) && !meth.locks && decide (parseMethodDescriptor y.desc = some meth.sig)) = true) : (Jvm.Cond.code y bytes mx rt).before a s = true := by
  simp only [Bool.and_eq_true, beq_iff_eq, Bool.not_eq_true', decide_eq_true_eq] at h5
  obtain ⟨⟨⟨⟨⟨g1, g2⟩, g3⟩, g4⟩, g5⟩, g6⟩ := h5
  simp [Cond.before, Cond.holds, Cond.value, h1, h2, h3, h4, g1, g2, g3, g4, g5, g6]
def isCode : Jvm.Cond → Bool
  | .code _ _ _ _ => true
  | _ => false
theorem all_split {L : List Jvm.Cond} {P : Jvm.Cond → Bool} (h1 : L.all (fun c => isCode c || P c) = true) (h2 : ∀ c ∈ L.filter isCode, P c = true) : L.all P = true := by
  refine List.all_eq_true.mpr fun c hc => ?_
  have h := List.all_eq_true.mp h1 c hc
  rcases Bool.eq_false_or_eq_true (isCode c) with hi | hi
  · exact h2 c (List.mem_filter.mpr ⟨hc, hi⟩)
  · simpa [hi] using h
set_option maxRecDepth 65536 in
theorem w_c0 : (Jvm.Cond.code x code maxLocals ret).before args0 about1 = true := code_word (m := ⟨1, 1⟩) (meth := k1m1) (c := k1c1) (by decide +kernel) rfl rfl rfl (by decide +kernel)
set_option maxRecDepth 65536 in
theorem w_c1 : (Jvm.Cond.code ({ cls := "java/lang/String", name := "valueOf", desc := "(C)Ljava/lang/String;" } : Jvm.MethodName) jdk_42_method_139_code (1 : Nat) (Option.some (Jvm.ClassFile.FieldType.object "java/lang/String"))).before args0 about1 = true := code_word (m := ⟨7, 2⟩) (meth := k7m2) (c := k7c2) (by decide +kernel) rfl rfl rfl (by decide +kernel)
set_option maxRecDepth 65536 in
theorem w_c2 : (Jvm.Cond.code ({ cls := "java/lang/StringLatin1", name := "canEncode", desc := "(C)Z" } : Jvm.MethodName) jdk_43_method_3_code (1 : Nat) (Option.some Jvm.ClassFile.FieldType.boolean)).before args0 about1 = true := code_word (m := ⟨8, 1⟩) (meth := k8m1) (c := k8c1) (by decide +kernel) rfl rfl rfl (by decide +kernel)
set_option maxRecDepth 65536 in
theorem w_c3 : (Jvm.Cond.code ({ cls := "java/lang/StringLatin1", name := "toBytes", desc := "(C)[B" } : Jvm.MethodName) jdk_43_method_46_code (1 : Nat) (Option.some (Jvm.ClassFile.FieldType.array Jvm.ClassFile.FieldType.byte))).before args0 about1 = true := code_word (m := ⟨8, 2⟩) (meth := k8m2) (c := k8c2) (by decide +kernel) rfl rfl rfl (by decide +kernel)
set_option maxRecDepth 65536 in
theorem w_c4 : (Jvm.Cond.code ({ cls := "java/lang/String", name := "<init>", desc := "([BB)V" } : Jvm.MethodName) jdk_42_method_151_code (3 : Nat) (Option.none : Option Jvm.ClassFile.FieldType)).before args0 about1 = true := code_word (m := ⟨7, 4⟩) (meth := k7m4) (c := k7c4) (by decide +kernel) rfl rfl rfl (by decide +kernel)
set_option maxRecDepth 65536 in
theorem w_c5 : (Jvm.Cond.code ({ cls := "java/lang/Object", name := "<init>", desc := "()V" } : Jvm.MethodName) object_method_1_code (1 : Nat) (Option.none : Option Jvm.ClassFile.FieldType)).before args0 about1 = true := code_word (m := ⟨0, 0⟩) (meth := k0m0) (c := k0c0) (by decide +kernel) rfl rfl rfl (by decide +kernel)
set_option maxRecDepth 65536 in
theorem w_c6 : (Jvm.Cond.code ({ cls := "java/util/ArrayList", name := "<init>", desc := "()V" } : Jvm.MethodName) jdk_38_method_2_code (1 : Nat) (Option.none : Option Jvm.ClassFile.FieldType)).before args0 about1 = true := code_word (m := ⟨17, 0⟩) (meth := k17m0) (c := k17c0) (by decide +kernel) rfl rfl rfl (by decide +kernel)
set_option maxRecDepth 65536 in
theorem w_c7 : (Jvm.Cond.code ({ cls := "java/util/AbstractList", name := "<init>", desc := "()V" } : Jvm.MethodName) jdk_39_method_1_code (1 : Nat) (Option.none : Option Jvm.ClassFile.FieldType)).before args0 about1 = true := code_word (m := ⟨14, 0⟩) (meth := k14m0) (c := k14c0) (by decide +kernel) rfl rfl rfl (by decide +kernel)
set_option maxRecDepth 65536 in
theorem w_c8 : (Jvm.Cond.code ({ cls := "java/util/AbstractCollection", name := "<init>", desc := "()V" } : Jvm.MethodName) jdk_22_method_1_code (1 : Nat) (Option.none : Option Jvm.ClassFile.FieldType)).before args0 about1 = true := code_word (m := ⟨11, 0⟩) (meth := k11m0) (c := k11c0) (by decide +kernel) rfl rfl rfl (by decide +kernel)
set_option maxRecDepth 65536 in
theorem w_c9 : (Jvm.Cond.code ({ cls := "java/util/ArrayList", name := "add", desc := "(Ljava/lang/Object;)Z" } : Jvm.MethodName) jdk_38_method_25_code (2 : Nat) (Option.some Jvm.ClassFile.FieldType.boolean)).before args0 about1 = true := code_word (m := ⟨17, 4⟩) (meth := k17m4) (c := k17c4) (by decide +kernel) rfl rfl rfl (by decide +kernel)
set_option maxRecDepth 65536 in
theorem w_c10 : (Jvm.Cond.code ({ cls := "java/util/ArrayList", name := "add", desc := "(Ljava/lang/Object;[Ljava/lang/Object;I)V" } : Jvm.MethodName) jdk_38_method_24_code (4 : Nat) (Option.none : Option Jvm.ClassFile.FieldType)).before args0 about1 = true := code_word (m := ⟨17, 3⟩) (meth := k17m3) (c := k17c3) (by decide +kernel) rfl rfl rfl (by decide +kernel)
set_option maxRecDepth 65536 in
theorem w_c11 : (Jvm.Cond.code ({ cls := "java/util/ArrayList", name := "grow", desc := "()[Ljava/lang/Object;" } : Jvm.MethodName) jdk_38_method_7_code (1 : Nat) (Option.some (Jvm.ClassFile.FieldType.array (Jvm.ClassFile.FieldType.object "java/lang/Object")))).before args0 about1 = true := code_word (m := ⟨17, 2⟩) (meth := k17m2) (c := k17c2) (by decide +kernel) rfl rfl rfl (by decide +kernel)
set_option maxRecDepth 65536 in
theorem w_c12 : (Jvm.Cond.code ({ cls := "java/util/ArrayList", name := "grow", desc := "(I)[Ljava/lang/Object;" } : Jvm.MethodName) jdk_38_method_6_code (4 : Nat) (Option.some (Jvm.ClassFile.FieldType.array (Jvm.ClassFile.FieldType.object "java/lang/Object")))).before args0 about1 = true := code_word (m := ⟨17, 1⟩) (meth := k17m1) (c := k17c1) (by decide +kernel) rfl rfl rfl (by decide +kernel)
set_option maxRecDepth 65536 in
theorem w_c13 : (Jvm.Cond.code ({ cls := "java/lang/Math", name := "max", desc := "(II)I" } : Jvm.MethodName) jdk_29_method_65_code (2 : Nat) (Option.some Jvm.ClassFile.FieldType.int)).before args0 about1 = true := code_word (m := ⟨18, 1⟩) (meth := k18m1) (c := k18c1) (by decide +kernel) rfl rfl rfl (by decide +kernel)
set_option maxRecDepth 65536 in
theorem w_c14 : (Jvm.Cond.code ({ cls := "com/example/scopegate/scopegate/token/AccessToken", name := "<init>", desc := "(Ljava/lang/String;Ljava/lang/String;Ljava/lang/String;Ljava/lang/String;JJLjava/lang/String;Ljava/util/List;Ljava/lang/String;)V" } : Jvm.MethodName) prog_13_method_1_code (12 : Nat) (Option.none : Option Jvm.ClassFile.FieldType)).before args0 about1 = true := code_word (m := ⟨20, 0⟩) (meth := k20m0) (c := k20c0) (by decide +kernel) rfl rfl rfl (by decide +kernel)
set_option maxRecDepth 65536 in
theorem w_c15 : (Jvm.Cond.code ({ cls := "java/lang/Record", name := "<init>", desc := "()V" } : Jvm.MethodName) jdk_30_method_1_code (1 : Nat) (Option.none : Option Jvm.ClassFile.FieldType)).before args0 about1 = true := code_word (m := ⟨19, 0⟩) (meth := k19m0) (c := k19c0) (by decide +kernel) rfl rfl rfl (by decide +kernel)
set_option maxRecDepth 65536 in
theorem w_c16 : (Jvm.Cond.code ({ cls := "com/example/scopegate/scopegate/token/Verdict", name := "valid", desc := "(Lcom/example/scopegate/scopegate/token/AccessToken;Ljava/lang/String;)Lcom/example/scopegate/scopegate/token/Verdict;" } : Jvm.MethodName) prog_19_method_2_code (2 : Nat) (Option.some (Jvm.ClassFile.FieldType.object "com/example/scopegate/scopegate/token/Verdict"))).before args0 about1 = true := code_word (m := ⟨21, 1⟩) (meth := k21m1) (c := k21c1) (by decide +kernel) rfl rfl rfl (by decide +kernel)
set_option maxRecDepth 65536 in
theorem w_c17 : (Jvm.Cond.code ({ cls := "com/example/scopegate/scopegate/token/Verdict", name := "<init>", desc := "(Lcom/example/scopegate/scopegate/token/Verdict$Outcome;Lcom/example/scopegate/scopegate/token/AccessToken;Ljava/lang/String;)V" } : Jvm.MethodName) prog_19_method_1_code (4 : Nat) (Option.none : Option Jvm.ClassFile.FieldType)).before args0 about1 = true := code_word (m := ⟨21, 0⟩) (meth := k21m0) (c := k21c0) (by decide +kernel) rfl rfl rfl (by decide +kernel)
set_option maxRecDepth 65536 in
theorem w_c18 : (Jvm.Cond.code ({ cls := "com/example/scopegate/scopegate/token/Verdict", name := "outcome", desc := "()Lcom/example/scopegate/scopegate/token/Verdict$Outcome;" } : Jvm.MethodName) prog_19_method_8_code (1 : Nat) (Option.some (Jvm.ClassFile.FieldType.object "com/example/scopegate/scopegate/token/Verdict$Outcome"))).before args0 about1 = true := code_word (m := ⟨21, 3⟩) (meth := k21m3) (c := k21c3) (by decide +kernel) rfl rfl rfl (by decide +kernel)
set_option maxRecDepth 65536 in
theorem w_c19 : (Jvm.Cond.code ({ cls := "com/example/scopegate/scopegate/token/Verdict", name := "token", desc := "()Lcom/example/scopegate/scopegate/token/AccessToken;" } : Jvm.MethodName) prog_19_method_9_code (1 : Nat) (Option.some (Jvm.ClassFile.FieldType.object "com/example/scopegate/scopegate/token/AccessToken"))).before args0 about1 = true := code_word (m := ⟨21, 4⟩) (meth := k21m4) (c := k21c4) (by decide +kernel) rfl rfl rfl (by decide +kernel)
set_option maxRecDepth 65536 in
theorem w_c20 : (Jvm.Cond.code ({ cls := "com/example/scopegate/scopegate/token/Verdict", name := "requiredScope", desc := "()Ljava/lang/String;" } : Jvm.MethodName) prog_19_method_10_code (1 : Nat) (Option.some (Jvm.ClassFile.FieldType.object "java/lang/String"))).before args0 about1 = true := code_word (m := ⟨21, 5⟩) (meth := k21m5) (c := k21c5) (by decide +kernel) rfl rfl rfl (by decide +kernel)
set_option maxRecDepth 65536 in
theorem w_c21 : (Jvm.Cond.code ({ cls := "com/example/scopegate/scopegate/token/Verdict", name := "challenge", desc := "()Ljava/lang/String;" } : Jvm.MethodName) prog_19_method_4_code (1 : Nat) (Option.some (Jvm.ClassFile.FieldType.object "java/lang/String"))).before args0 about1 = true := code_word (m := ⟨21, 2⟩) (meth := k21m2) (c := k21c2) (by decide +kernel) rfl rfl rfl (by decide +kernel)
set_option maxRecDepth 65536 in
theorem w_c22 : (Jvm.Cond.code ({ cls := "com/example/scopegate/scopegate/token/Verdict$Outcome", name := "status", desc := "()I" } : Jvm.MethodName) prog_20_method_4_code (1 : Nat) (Option.some Jvm.ClassFile.FieldType.int)).before args0 about1 = true := code_word (m := ⟨23, 0⟩) (meth := k23m0) (c := k23c0) (by decide +kernel) rfl rfl rfl (by decide +kernel)
set_option maxRecDepth 65536 in
theorem w_c23 : (Jvm.Cond.code ({ cls := "com/example/scopegate/scopegate/token/Verdict$Outcome", name := "error", desc := "()Ljava/lang/String;" } : Jvm.MethodName) prog_20_method_5_code (1 : Nat) (Option.some (Jvm.ClassFile.FieldType.object "java/lang/String"))).before args0 about1 = true := code_word (m := ⟨23, 1⟩) (meth := k23m1) (c := k23c1) (by decide +kernel) rfl rfl rfl (by decide +kernel)
set_option maxRecDepth 65536 in
theorem w_c24 : (Jvm.Cond.code ({ cls := "java/lang/String", name := "<init>", desc := "([C)V" } : Jvm.MethodName) jdk_42_method_3_code (2 : Nat) (Option.none : Option Jvm.ClassFile.FieldType)).before args0 about1 = true := code_word (m := ⟨7, 1⟩) (meth := k7m1) (c := k7c1) (by decide +kernel) rfl rfl rfl (by decide +kernel)
set_option maxRecDepth 65536 in
theorem w_c25 : (Jvm.Cond.code ({ cls := "java/lang/String", name := "<init>", desc := "([CIILjava/lang/Void;)V" } : Jvm.MethodName) jdk_42_method_149_code (6 : Nat) (Option.none : Option Jvm.ClassFile.FieldType)).before args0 about1 = true := code_word (m := ⟨7, 3⟩) (meth := k7m3) (c := k7c3) (by decide +kernel) rfl rfl rfl (by decide +kernel)
set_option maxRecDepth 65536 in
theorem w_c26 : (Jvm.Cond.code ({ cls := "java/lang/StringUTF16", name := "compress", desc := "([CII)[B" } : Jvm.MethodName) jdk_52_method_16_code (6 : Nat) (Option.some (Jvm.ClassFile.FieldType.array Jvm.ClassFile.FieldType.byte))).before args0 about1 = true := code_word (m := ⟨24, 2⟩) (meth := k24m2) (c := k24c2) (by decide +kernel) rfl rfl rfl (by decide +kernel)
set_option maxRecDepth 65536 in
theorem w_c27 : (Jvm.Cond.code ({ cls := "java/lang/StringUTF16", name := "compress", desc := "([CI[BII)I" } : Jvm.MethodName) jdk_52_method_21_code (7 : Nat) (Option.some Jvm.ClassFile.FieldType.int)).before args0 about1 = true := code_word (m := ⟨24, 3⟩) (meth := k24m3) (c := k24c3) (by decide +kernel) rfl rfl rfl (by decide +kernel)
set_option maxRecDepth 65536 in
theorem w_c28 : (Jvm.Cond.code ({ cls := "java/lang/StringUTF16", name := "coderFromArrayLen", desc := "([BI)B" } : Jvm.MethodName) jdk_52_method_15_code (2 : Nat) (Option.some Jvm.ClassFile.FieldType.byte)).before args0 about1 = true := code_word (m := ⟨24, 1⟩) (meth := k24m1) (c := k24c1) (by decide +kernel) rfl rfl rfl (by decide +kernel)
def codes1 : List Jvm.Cond := [Jvm.Cond.code x code maxLocals ret, Jvm.Cond.code ({ cls := "java/lang/String", name := "valueOf", desc := "(C)Ljava/lang/String;" } : Jvm.MethodName) jdk_42_method_139_code (1 : Nat) (Option.some (Jvm.ClassFile.FieldType.object "java/lang/String")), Jvm.Cond.code ({ cls := "java/lang/StringLatin1", name := "canEncode", desc := "(C)Z" } : Jvm.MethodName) jdk_43_method_3_code (1 : Nat) (Option.some Jvm.ClassFile.FieldType.boolean), Jvm.Cond.code ({ cls := "java/lang/StringLatin1", name := "toBytes", desc := "(C)[B" } : Jvm.MethodName) jdk_43_method_46_code (1 : Nat) (Option.some (Jvm.ClassFile.FieldType.array Jvm.ClassFile.FieldType.byte)), Jvm.Cond.code ({ cls := "java/lang/String", name := "<init>", desc := "([BB)V" } : Jvm.MethodName) jdk_42_method_151_code (3 : Nat) (Option.none : Option Jvm.ClassFile.FieldType), Jvm.Cond.code ({ cls := "java/lang/Object", name := "<init>", desc := "()V" } : Jvm.MethodName) object_method_1_code (1 : Nat) (Option.none : Option Jvm.ClassFile.FieldType), Jvm.Cond.code ({ cls := "java/util/ArrayList", name := "<init>", desc := "()V" } : Jvm.MethodName) jdk_38_method_2_code (1 : Nat) (Option.none : Option Jvm.ClassFile.FieldType), Jvm.Cond.code ({ cls := "java/util/AbstractList", name := "<init>", desc := "()V" } : Jvm.MethodName) jdk_39_method_1_code (1 : Nat) (Option.none : Option Jvm.ClassFile.FieldType), Jvm.Cond.code ({ cls := "java/util/AbstractCollection", name := "<init>", desc := "()V" } : Jvm.MethodName) jdk_22_method_1_code (1 : Nat) (Option.none : Option Jvm.ClassFile.FieldType), Jvm.Cond.code ({ cls := "java/util/ArrayList", name := "add", desc := "(Ljava/lang/Object;)Z" } : Jvm.MethodName) jdk_38_method_25_code (2 : Nat) (Option.some Jvm.ClassFile.FieldType.boolean), Jvm.Cond.code ({ cls := "java/util/ArrayList", name := "add", desc := "(Ljava/lang/Object;[Ljava/lang/Object;I)V" } : Jvm.MethodName) jdk_38_method_24_code (4 : Nat) (Option.none : Option Jvm.ClassFile.FieldType), Jvm.Cond.code ({ cls := "java/util/ArrayList", name := "grow", desc := "()[Ljava/lang/Object;" } : Jvm.MethodName) jdk_38_method_7_code (1 : Nat) (Option.some (Jvm.ClassFile.FieldType.array (Jvm.ClassFile.FieldType.object "java/lang/Object"))), Jvm.Cond.code ({ cls := "java/util/ArrayList", name := "grow", desc := "(I)[Ljava/lang/Object;" } : Jvm.MethodName) jdk_38_method_6_code (4 : Nat) (Option.some (Jvm.ClassFile.FieldType.array (Jvm.ClassFile.FieldType.object "java/lang/Object"))), Jvm.Cond.code ({ cls := "java/lang/Math", name := "max", desc := "(II)I" } : Jvm.MethodName) jdk_29_method_65_code (2 : Nat) (Option.some Jvm.ClassFile.FieldType.int), Jvm.Cond.code ({ cls := "com/example/scopegate/scopegate/token/AccessToken", name := "<init>", desc := "(Ljava/lang/String;Ljava/lang/String;Ljava/lang/String;Ljava/lang/String;JJLjava/lang/String;Ljava/util/List;Ljava/lang/String;)V" } : Jvm.MethodName) prog_13_method_1_code (12 : Nat) (Option.none : Option Jvm.ClassFile.FieldType), Jvm.Cond.code ({ cls := "java/lang/Record", name := "<init>", desc := "()V" } : Jvm.MethodName) jdk_30_method_1_code (1 : Nat) (Option.none : Option Jvm.ClassFile.FieldType), Jvm.Cond.code ({ cls := "com/example/scopegate/scopegate/token/Verdict", name := "valid", desc := "(Lcom/example/scopegate/scopegate/token/AccessToken;Ljava/lang/String;)Lcom/example/scopegate/scopegate/token/Verdict;" } : Jvm.MethodName) prog_19_method_2_code (2 : Nat) (Option.some (Jvm.ClassFile.FieldType.object "com/example/scopegate/scopegate/token/Verdict")), Jvm.Cond.code ({ cls := "com/example/scopegate/scopegate/token/Verdict", name := "<init>", desc := "(Lcom/example/scopegate/scopegate/token/Verdict$Outcome;Lcom/example/scopegate/scopegate/token/AccessToken;Ljava/lang/String;)V" } : Jvm.MethodName) prog_19_method_1_code (4 : Nat) (Option.none : Option Jvm.ClassFile.FieldType), Jvm.Cond.code ({ cls := "com/example/scopegate/scopegate/token/Verdict", name := "outcome", desc := "()Lcom/example/scopegate/scopegate/token/Verdict$Outcome;" } : Jvm.MethodName) prog_19_method_8_code (1 : Nat) (Option.some (Jvm.ClassFile.FieldType.object "com/example/scopegate/scopegate/token/Verdict$Outcome")), Jvm.Cond.code ({ cls := "com/example/scopegate/scopegate/token/Verdict", name := "token", desc := "()Lcom/example/scopegate/scopegate/token/AccessToken;" } : Jvm.MethodName) prog_19_method_9_code (1 : Nat) (Option.some (Jvm.ClassFile.FieldType.object "com/example/scopegate/scopegate/token/AccessToken")), Jvm.Cond.code ({ cls := "com/example/scopegate/scopegate/token/Verdict", name := "requiredScope", desc := "()Ljava/lang/String;" } : Jvm.MethodName) prog_19_method_10_code (1 : Nat) (Option.some (Jvm.ClassFile.FieldType.object "java/lang/String")), Jvm.Cond.code ({ cls := "com/example/scopegate/scopegate/token/Verdict", name := "challenge", desc := "()Ljava/lang/String;" } : Jvm.MethodName) prog_19_method_4_code (1 : Nat) (Option.some (Jvm.ClassFile.FieldType.object "java/lang/String")), Jvm.Cond.code ({ cls := "com/example/scopegate/scopegate/token/Verdict$Outcome", name := "status", desc := "()I" } : Jvm.MethodName) prog_20_method_4_code (1 : Nat) (Option.some Jvm.ClassFile.FieldType.int), Jvm.Cond.code ({ cls := "com/example/scopegate/scopegate/token/Verdict$Outcome", name := "error", desc := "()Ljava/lang/String;" } : Jvm.MethodName) prog_20_method_5_code (1 : Nat) (Option.some (Jvm.ClassFile.FieldType.object "java/lang/String")), Jvm.Cond.code ({ cls := "java/lang/String", name := "<init>", desc := "([C)V" } : Jvm.MethodName) jdk_42_method_3_code (2 : Nat) (Option.none : Option Jvm.ClassFile.FieldType), Jvm.Cond.code ({ cls := "java/lang/String", name := "<init>", desc := "([CIILjava/lang/Void;)V" } : Jvm.MethodName) jdk_42_method_149_code (6 : Nat) (Option.none : Option Jvm.ClassFile.FieldType), Jvm.Cond.code ({ cls := "java/lang/StringUTF16", name := "compress", desc := "([CII)[B" } : Jvm.MethodName) jdk_52_method_16_code (6 : Nat) (Option.some (Jvm.ClassFile.FieldType.array Jvm.ClassFile.FieldType.byte)), Jvm.Cond.code ({ cls := "java/lang/StringUTF16", name := "compress", desc := "([CI[BII)I" } : Jvm.MethodName) jdk_52_method_21_code (7 : Nat) (Option.some Jvm.ClassFile.FieldType.int), Jvm.Cond.code ({ cls := "java/lang/StringUTF16", name := "coderFromArrayLen", desc := "([BI)B" } : Jvm.MethodName) jdk_52_method_15_code (2 : Nat) (Option.some Jvm.ClassFile.FieldType.byte)]
set_option maxRecDepth 65536 in
theorem codes_eq : words1.filter isCode = codes1 := rfl
theorem w_codes : ∀ c ∈ words1.filter isCode, c.before args0 about1 = true := by
  rw [codes_eq]
  intro c hc
  simp only [codes1, List.mem_cons, List.not_mem_nil, or_false] at hc
  rcases hc with rfl | rfl | rfl | rfl | rfl | rfl | rfl | rfl | rfl | rfl | rfl | rfl | rfl | rfl | rfl | rfl | rfl | rfl | rfl | rfl | rfl | rfl | rfl | rfl | rfl | rfl | rfl | rfl | rfl
  · exact w_c0
  · exact w_c1
  · exact w_c2
  · exact w_c3
  · exact w_c4
  · exact w_c5
  · exact w_c6
  · exact w_c7
  · exact w_c8
  · exact w_c9
  · exact w_c10
  · exact w_c11
  · exact w_c12
  · exact w_c13
  · exact w_c14
  · exact w_c15
  · exact w_c16
  · exact w_c17
  · exact w_c18
  · exact w_c19
  · exact w_c20
  · exact w_c21
  · exact w_c22
  · exact w_c23
  · exact w_c24
  · exact w_c25
  · exact w_c26
  · exact w_c27
  · exact w_c28
set_option maxRecDepth 65536 in
theorem w_t1 : (words1.take 24).all (fun c => isCode c || c.before args0 about1) = true := by decide +kernel
set_option maxRecDepth 65536 in
theorem w_t2 : ((words1.drop 24).take 24).all (fun c => isCode c || c.before args0 about1) = true := by decide +kernel
set_option maxRecDepth 65536 in
theorem w_t3 : (((words1.drop 24).drop 24).take 24).all (fun c => isCode c || c.before args0 about1) = true := by decide +kernel
set_option maxRecDepth 65536 in
theorem w_t4 : ((((words1.drop 24).drop 24).drop 24).take 24).all (fun c => isCode c || c.before args0 about1) = true := by decide +kernel
set_option maxRecDepth 65536 in
theorem w_t5 : (((((words1.drop 24).drop 24).drop 24).drop 24).take 24).all (fun c => isCode c || c.before args0 about1) = true := by decide +kernel
set_option maxRecDepth 65536 in
theorem w_t6 : ((((((words1.drop 24).drop 24).drop 24).drop 24).drop 24).take 24).all (fun c => isCode c || c.before args0 about1) = true := by decide +kernel
set_option maxRecDepth 65536 in
theorem w_t7 : (((((((words1.drop 24).drop 24).drop 24).drop 24).drop 24).drop 24).take 24).all (fun c => isCode c || c.before args0 about1) = true := by decide +kernel
set_option maxRecDepth 65536 in
theorem w_t8 : (((((((words1.drop 24).drop 24).drop 24).drop 24).drop 24).drop 24).drop 24).all (fun c => isCode c || c.before args0 about1) = true := by decide +kernel
theorem w_tables : (allAtoms (Jvm.Cond.code x code maxLocals ret :: tables_1)).before args0 about1 = true := by
  rw [allAtoms_all]
  show words1.all (fun c => c.before args0 about1) = true
  refine all_split ?_ w_codes
  rw [← List.take_append_drop 24 words1, List.all_append, w_t1, ← List.take_append_drop 24 (words1.drop 24), List.all_append, w_t2, ← List.take_append_drop 24 ((words1.drop 24).drop 24), List.all_append, w_t3, ← List.take_append_drop 24 (((words1.drop 24).drop 24).drop 24), List.all_append, w_t4, ← List.take_append_drop 24 ((((words1.drop 24).drop 24).drop 24).drop 24), List.all_append, w_t5, ← List.take_append_drop 24 (((((words1.drop 24).drop 24).drop 24).drop 24).drop 24), List.all_append, w_t6, ← List.take_append_drop 24 ((((((words1.drop 24).drop 24).drop 24).drop 24).drop 24).drop 24), List.all_append, w_t7, w_t8]
  rfl
set_option maxRecDepth 65536 in
theorem w_rest : rest_1_c.before args0 about1 = true := by decide +kernel
set_option maxRecDepth 65536 in
theorem w_case : (Jvm.Cond.and given_1 narrow_1).before args0 about1 = true := by decide +kernel
theorem w_applies : (headSpec (Jvm.Cond.code x code maxLocals ret :: tables_1) room_1).applies x e0.platform about1 = true :=
  (Spec.applies_iff w_frames).mpr ⟨w_running, w_runnable, w_alone, w_named, w_hears, w_ripe, w_room, w_tables⟩
theorem atStart : AtStart classFile x code maxLocals ret World_1 tables_1 room_1 Calls_1 rest_1 Pre_1 launch0 p0 e0 about1 theMethod args0 below0 :=
  ⟨lists_1, trivial, launch0.admits_env _ _ _, launch0.least_env, fairChoices_fair.cas, fairChoices_fair.clock, w_frames, w_args, w_heap, w_applies, trivial, w_rest, w_case⟩
end start1
theorem witness_1 : WitnessClaimed_1 := ⟨start1.p0, start1.e0, start1.about1, start1.theMethod, start1.args0, start1.below0, start1.atStart⟩
end Jvm.Pilot.@@N@@
