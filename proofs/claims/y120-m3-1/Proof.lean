import JvmDerived
import JvmDerived.Pilot.@@N@@Statement
import JvmDerived.Pilot.@@N@@Code
set_option linter.unusedVariables false
set_option linter.unusedSimpArgs false
/- laws to paste: Road.backV (cut by pick.py; bodies as the Statement names them) -/
namespace Jvm.Pilot.@@N@@
namespace StrChars
open Jvm Sem ClassFile Op Lib Jvm.Stand Jvm.Free.XT Jvm.Free.ALB Jvm.Free.JM Jvm.Free
open Jvm.Lib.Cold (StaticIs)
/-- a char array whose places are chars -/
def Ch (a : Addr) (A : Cell) (U : State) : Prop := Arr .char a A U ∧ Typed .char A
theorem Ch.mv {a : Addr} {A : Cell} {U U' : State} (h : Ch a A U) (hal : U.vm.Alike U'.vm) (hh : U'.heap = U.heap) : Ch a A U' := ⟨h.1.mv hal hh, h.2⟩
theorem Ch.keep {a : Addr} {A : Cell} {U U' : State} (h : Ch a A U) (hal : U.vm.Alike U'.vm) (hk : U'.heap[a]? = some A) : Ch a A U' := ⟨h.1.keep hal hk, h.2⟩
/-- what place i of a char[]'s cell holds -/
def cv (A : Cell) (i : Nat) : Int32 := match A.slots[i]? with | some (.int x) => x | _ => 0
theorem Ch.get {a : Addr} {A : Cell} {U : State} (h : Ch a A U) {i : Nat} (hi : i < A.slots.size) : A.slots[i]? = some (.int (cv A i)) := by
  have e := Array.getElem?_eq_getElem hi
  have f := h.2 i _ e
  unfold cv; rw [e]
  generalize A.slots[i] = v at f
  cases v <;> simp [fits] at f ⊢
/-- the byte that i2b leaves of a char -/
def lo8 (x : Int32) : Int32 := x.toInt8.toInt32
theorem fits_lo8 (y : Int32) : fits .byte (.int (lo8 y)) = true := by
  have h1 := y.toInt8.le_toInt
  have h2 := y.toInt8.toInt_lt
  simp only [lo8, fits, Bool.and_eq_true, decide_eq_true_eq, Int32.le_iff_toInt_le, Int8.toInt_toInt32, show (-128 : Int32).toInt = -128 from by decide, show (127 : Int32).toInt = 127 from by decide]
  omega
/-- A' is A but that each place j of lo .. hi - 1 holds f j -/
def Laid (A A' : Cell) (lo hi : Nat) (f : Nat → Value) : Prop := A'.cls = A.cls ∧ A'.vm = A.vm ∧ A'.slots.size = A.slots.size ∧ ∀ i, A'.slots[i]? = if lo ≤ i ∧ i < hi then some (f i) else A.slots[i]?
theorem Laid.zero (A : Cell) (lo : Nat) (f : Nat → Value) : Laid A A lo (lo + 0) f := ⟨rfl, rfl, rfl, fun i => by rw [if_neg (by omega)]⟩
theorem Laid.step {A Ak : Cell} {lo k : Nat} {f : Nat → Value} {v : Value} (h : Laid A Ak lo k f) (hlo : lo ≤ k) (hk : k < Ak.slots.size) (hv : v = f k) : Laid A (Ak.setSlot k v) lo (k + 1) f := by
  refine ⟨h.1, h.2.1, by simpa [Cell.setSlot] using h.2.2.1, fun i => ?_⟩
  by_cases e : k = i
  · subst e; rw [Cell.slots_setSlot_self v hk, if_pos (by omega), hv]
  · rw [Cell.slots_setSlot_ne v e, h.2.2.2 i]
    by_cases q : lo ≤ i ∧ i < k
    · rw [if_pos q, if_pos (by omega)]
    · rw [if_neg q, if_neg (by omega)]
def U16 : String := "java/lang/StringUTF16"
namespace Cmp5
def yN : MethodName := ⟨"java/lang/StringUTF16", "compress", "([CI[BII)I"⟩
abbrev yB : ByteArray := jdk_52_method_21_code
theorem d0 : decode yB 0 = .ok (.iconst 0, 1) := by decide +kernel
theorem d1 : decode yB 1 = .ok (.istore 5, 2) := by decide +kernel
theorem d3 : decode yB 3 = .ok (.iload 5, 2) := by decide +kernel
theorem d5 : decode yB 5 = .ok (.iload 4, 2) := by decide +kernel
theorem d7 : decode yB 7 = .ok (.if_icmp (.ge) 37, 3) := by decide +kernel
theorem d10 : decode yB 10 = .ok (.aload_n 0, 1) := by decide +kernel
theorem d11 : decode yB 11 = .ok (.iload_n 1, 1) := by decide +kernel
theorem d12 : decode yB 12 = .ok (.caload, 1) := by decide +kernel
theorem d13 : decode yB 13 = .ok (.istore 6, 2) := by decide +kernel
theorem d15 : decode yB 15 = .ok (.iload 6, 2) := by decide +kernel
theorem d17 : decode yB 17 = .ok (.sipush 255, 3) := by decide +kernel
theorem d20 : decode yB 20 = .ok (.if_icmp (.le) 6, 3) := by decide +kernel
theorem d26 : decode yB 26 = .ok (.aload_n 2, 1) := by decide +kernel
theorem d27 : decode yB 27 = .ok (.iload_n 3, 1) := by decide +kernel
theorem d28 : decode yB 28 = .ok (.iload 6, 2) := by decide +kernel
theorem d30 : decode yB 30 = .ok (.i2b, 1) := by decide +kernel
theorem d31 : decode yB 31 = .ok (.bastore, 1) := by decide +kernel
theorem d32 : decode yB 32 = .ok (.iinc 1 1, 3) := by decide +kernel
theorem d35 : decode yB 35 = .ok (.iinc 3 1, 3) := by decide +kernel
theorem d38 : decode yB 38 = .ok (.iinc 5 1, 3) := by decide +kernel
theorem d41 : decode yB 41 = .ok (.goto (-38), 3) := by decide +kernel
theorem d44 : decode yB 44 = .ok (.iload 4, 2) := by decide +kernel
theorem d46 : decode yB 46 = .ok (.ireturn, 1) := by decide +kernel
def site : List Cond := []
def tab : Cond := tabOf yN yB 7 (some .int) site
def P (b : Addr) (A : Cell) (d : Addr) (B : Cell) (o q len : Nat) (args : Array Value) (s : State) : Prop := args = #[.ref b, .int (Int32.ofNat o), .ref d, .int (Int32.ofNat q), .int (Int32.ofNat len)] ∧ Ch b A s ∧ Arr .byte d B s ∧ b ≠ d ∧ o + len ≤ A.slots.size ∧ q + len ≤ B.slots.size ∧ ∀ i, i < len → ¬ 255 < cv A (o + i)
def E (b : Addr) (A : Cell) (d : Addr) (B : Cell) (o q len : Nat) (r : Option Value) (s u : State) : Prop := r = some (.int (Int32.ofNat len)) ∧ ∃ B', Put d B' s u ∧ Laid B B' q (q + len) (fun j => Value.int (lo8 (cv A (o + (j - q)))))
/-- no char of the range above 255: len; the places written hold each char's low byte -/
theorem law (l : Launch) (b : Addr) (A : Cell) (d : Addr) (B : Cell) (o q len : Nat) : Law l yN 5 5 0 0 yB 7 (some .int) site (P b A d B o q len) (E b A d B o q len) (copyLocs d q len) 0 0 := by
  refine Law.of_walk (plainFor_of_name (by decide +kernel)) (by decide +kernel) (by decide +kernel) (by decide) (fun _ _ h => by rw [h.1]; rfl) (fun _ U U' hal hh h => ⟨h.1, h.2.1.mv hal hh, h.2.2.1.mv hal hh, h.2.2.2⟩) (fun r U U' V V' h1 hal h2 h => ⟨h.1, h.2.elim fun B' q => ⟨B', q.1.mv h1 h2, q.2⟩⟩) ?_
  intro p e s m args below meth c s₁ X0 hexec hbytes hml hret hlk hnm hown hh0 W hP
  obtain ⟨rfl, hA, hB, hne, l1, l2, hp⟩ := hP
  have c1 : Steps p.tables e below (s₁.setTop (entryFrame m #[.ref b, .int (Int32.ofNat o), .ref d, .int (Int32.ofNat q), .int (Int32.ofNat len)] 7)) (s₁.setTop (mkF m 0 #[.val (.ref b), .val (.int (Int32.ofNat o)), .val (.ref d), .val (.int (Int32.ofNat q)), .val (.int (Int32.ofNat len)), .unset, .unset] [])) := entry rfl
  have hA0 := hA.1.mv X0.warmed.alike hh0
  have hB0 := hB.mv X0.warmed.alike hh0
  have a31 := hA.1.2.2.2
  have c2 : Steps p.tables e below (s₁.setTop (entryFrame m #[.ref b, .int (Int32.ofNat o), .ref d, .int (Int32.ofNat q), .int (Int32.ofNat len)] 7)) (s₁.setTop (mkF m 3 #[.val (.ref b), .val (.int (Int32.ofNat o)), .val (.ref d), .val (.int (Int32.ofNat q)), .val (.int (Int32.ofNat len)), .val (.int 0), .unset] [])) := c1.trans (by
    refine iconstV X0.here hexec rfl 0 (hb hbytes d0) (by decide) ?_
    refine XS.istore X0.here hexec rfl (hb hbytes d1) rfl rfl ?_
    exact Steps.refl _)
  have loop : ∀ (r i : Nat), i + r = len → ∀ (z : Slot), (z = .unset ∨ ∃ w, z = .val w ∧ w.category = 1) → ∀ (Tl : State) (Bk : Cell), Stand p l e { frames := 0, locals := 0, cells := 0, slots := 0 } s m #[.ref b, .int (Int32.ofNat o), .ref d, .int (Int32.ofNat q), .int (Int32.ofNat len)] below meth c Tl ([] ++ copyLocs d q i) 0 0 → Put d Bk s₁ Tl → Laid B Bk q (q + i) (fun j => Value.int (lo8 (cv A (o + (j - q))))) →
      Steps p.tables e below (s₁.setTop (entryFrame m #[.ref b, .int (Int32.ofNat o), .ref d, .int (Int32.ofNat q), .int (Int32.ofNat len)] 7)) (Tl.setTop (mkF m 3 #[.val (.ref b), .val (.int (Int32.ofNat (o + i))), .val (.ref d), .val (.int (Int32.ofNat (q + i))), .val (.int (Int32.ofNat len)), .val (.int (Int32.ofNat i)), z] [])) → ∃ (T' : State) (B' : Cell) (z' : Slot), Stand p l e { frames := 0, locals := 0, cells := 0, slots := 0 } s m #[.ref b, .int (Int32.ofNat o), .ref d, .int (Int32.ofNat q), .int (Int32.ofNat len)] below meth c T' ([] ++ copyLocs d q len) 0 0 ∧ Put d B' s₁ T' ∧ Laid B B' q (q + len) (fun j => Value.int (lo8 (cv A (o + (j - q))))) ∧
      Steps p.tables e below (s₁.setTop (entryFrame m #[.ref b, .int (Int32.ofNat o), .ref d, .int (Int32.ofNat q), .int (Int32.ofNat len)] 7)) (T'.setTop (mkF m 3 #[.val (.ref b), .val (.int (Int32.ofNat (o + len))), .val (.ref d), .val (.int (Int32.ofNat (q + len))), .val (.int (Int32.ofNat len)), .val (.int (Int32.ofNat len)), z'] [])) := by
    intro r
    induction r with
    | zero =>
      intro i hi z hz Tl Bk Xl pl fl cl
      have hil : i = len := by omega
      rw [hil] at Xl fl cl
      exact ⟨Tl, Bk, z, Xl, pl, fl, cl⟩
    | succ r ih =>
      intro i hi z hz Tl Bk Xl pl fl cl
      have all := X0.warmed.alike.symm.trans Xl.warmed.alike
      have hAl := hA0.keep all (pl.other hne hA0.1)
      have hBk := hB0.like all pl.1 fl.1 fl.2.1 fl.2.2.1
      have hlt : q + i < Bk.slots.size := by rw [fl.2.2.1]; omega
      have c3 : Steps p.tables e below (s₁.setTop (entryFrame m #[.ref b, .int (Int32.ofNat o), .ref d, .int (Int32.ofNat q), .int (Int32.ofNat len)] 7)) (Tl.setTop (mkF m 12 #[.val (.ref b), .val (.int (Int32.ofNat (o + i))), .val (.ref d), .val (.int (Int32.ofNat (q + i))), .val (.int (Int32.ofNat len)), .val (.int (Int32.ofNat i)), z] [.int (Int32.ofNat (o + i)), .ref b])) := cl.trans (by
        refine XS.iload Xl.here hexec rfl (hb hbytes d3) rfl ?_
        refine XS.iload Xl.here hexec rfl (hb hbytes d5) rfl ?_
        refine XS.icmpNo Xl.here hexec rfl (hb hbytes d7) rfl (ii_ge_f (lt32 (by omega) (by omega))) ?_
        refine XS.aloadN Xl.here hexec rfl (hb hbytes d10) rfl rfl ?_
        refine XS.iloadN Xl.here hexec rfl (hb hbytes d11) rfl ?_
        exact Steps.refl _)
      have c4 : Steps p.tables e below (s₁.setTop (entryFrame m #[.ref b, .int (Int32.ofNat o), .ref d, .int (Int32.ofNat q), .int (Int32.ofNat len)] 7)) (Tl.setTop (mkF m 13 #[.val (.ref b), .val (.int (Int32.ofNat (o + i))), .val (.ref d), .val (.int (Int32.ofNat (q + i))), .val (.int (Int32.ofNat len)), .val (.int (Int32.ofNat i)), z] [.int (cv A (o + i))])) := c3.trans (by
        refine Xl.aget hexec hAl rfl (hA.get (i := o + i) (by omega)) rfl rfl (hb hbytes d12) ?_
        exact Steps.refl _)
      have c5 : Steps p.tables e below (s₁.setTop (entryFrame m #[.ref b, .int (Int32.ofNat o), .ref d, .int (Int32.ofNat q), .int (Int32.ofNat len)] 7)) (Tl.setTop (mkF m 15 #[.val (.ref b), .val (.int (Int32.ofNat (o + i))), .val (.ref d), .val (.int (Int32.ofNat (q + i))), .val (.int (Int32.ofNat len)), .val (.int (Int32.ofNat i)), .val (.int (cv A (o + i)))] [])) := c4.trans (by
        refine XS.istoreS Xl.here hexec rfl (hb hbytes d13) rfl rfl hz ?_
        exact Steps.refl _)
      have c6 : Steps p.tables e below (s₁.setTop (entryFrame m #[.ref b, .int (Int32.ofNat o), .ref d, .int (Int32.ofNat q), .int (Int32.ofNat len)] 7)) (Tl.setTop (mkF m 31 #[.val (.ref b), .val (.int (Int32.ofNat (o + i))), .val (.ref d), .val (.int (Int32.ofNat (q + i))), .val (.int (Int32.ofNat len)), .val (.int (Int32.ofNat i)), .val (.int (cv A (o + i)))] [.int (lo8 (cv A (o + i))), .int (Int32.ofNat (q + i)), .ref d])) := c5.trans (by
        refine XS.iload Xl.here hexec rfl (hb hbytes d15) rfl ?_
        refine sipushV Xl.here hexec rfl 255 (hb hbytes d17) (by decide) ?_
        refine XS.icmpYes Xl.here hexec rfl (pc0 := 20) rfl (hb hbytes d20) rfl (ii_le_t (hp i (by omega))) (by decide) rfl ?_
        refine XS.aloadN Xl.here hexec rfl (hb hbytes d26) rfl rfl ?_
        refine XS.iloadN Xl.here hexec rfl (hb hbytes d27) rfl ?_
        refine XS.iload Xl.here hexec rfl (hb hbytes d28) rfl ?_
        refine i2b Xl.here hexec rfl (hb hbytes d30) rfl ?_
        exact Steps.refl _)
      obtain ⟨T7, X7, p7, st7⟩ := Xl.aput hexec hBk rfl hlt rfl (fits_lo8 (cv A (o + i))) (g := (mkF m 31 #[.val (.ref b), .val (.int (Int32.ofNat (o + i))), .val (.ref d), .val (.int (Int32.ofNat (q + i))), .val (.int (Int32.ofNat len)), .val (.int (Int32.ofNat i)), .val (.int (cv A (o + i)))] [.int (lo8 (cv A (o + i))), .int (Int32.ofNat (q + i)), .ref d])) rfl (rest := []) rfl (hb hbytes d31)
      have c8 : Steps p.tables e below (s₁.setTop (entryFrame m #[.ref b, .int (Int32.ofNat o), .ref d, .int (Int32.ofNat q), .int (Int32.ofNat len)] 7)) (T7.setTop (mkF m 32 #[.val (.ref b), .val (.int (Int32.ofNat (o + i))), .val (.ref d), .val (.int (Int32.ofNat (q + i))), .val (.int (Int32.ofNat len)), .val (.int (Int32.ofNat i)), .val (.int (cv A (o + i)))] [])) := c6.trans (st7 _ (Steps.refl _))
      have c9 : Steps p.tables e below (s₁.setTop (entryFrame m #[.ref b, .int (Int32.ofNat o), .ref d, .int (Int32.ofNat q), .int (Int32.ofNat len)] 7)) (T7.setTop (mkF m 3 #[.val (.ref b), .val (.int (Int32.ofNat (o + i) + 1)), .val (.ref d), .val (.int (Int32.ofNat (q + i) + 1)), .val (.int (Int32.ofNat len)), .val (.int (Int32.ofNat i + 1)), .val (.int (cv A (o + i)))] [])) := c8.trans (by
        refine iincV X7.here hexec rfl 1 (hb hbytes d32) (by decide) rfl rfl ?_
        refine iincV X7.here hexec rfl 1 (hb hbytes d35) (by decide) rfl rfl ?_
        refine iincV X7.here hexec rfl 1 (hb hbytes d38) (by decide) rfl rfl ?_
        refine XS.goto X7.here hexec rfl (pc0 := 41) rfl (hb hbytes d41) (by decide) rfl ?_
        exact Steps.refl _)
      have c10 : Steps p.tables e below (s₁.setTop (entryFrame m #[.ref b, .int (Int32.ofNat o), .ref d, .int (Int32.ofNat q), .int (Int32.ofNat len)] 7)) (T7.setTop (mkF m 3 #[.val (.ref b), .val (.int (Int32.ofNat (o + (i + 1)))), .val (.ref d), .val (.int (Int32.ofNat (q + (i + 1)))), .val (.int (Int32.ofNat len)), .val (.int (Int32.ofNat (i + 1))), .val (.int (cv A (o + i)))] [])) := by
        have := c9
        rw [succ32, succ32, succ32] at this
        exact this
      exact ih (i + 1) (by omega) _ (Or.inr ⟨_, rfl, rfl⟩) T7 _ (by rw [copyLocs_step, ← List.append_assoc]; exact X7) (pl.trans p7) (fl.step (by omega) hlt (by simp)) c10
  obtain ⟨T9, B9, z9, X9, p9, f9, g9⟩ := loop len 0 (by omega) .unset (Or.inl rfl) s₁ B (by simpa [copyLocs] using X0) ⟨hB0.1, fun _ _ => rfl, rfl⟩ (Laid.zero _ _ _) c2
  have c11 : Steps p.tables e below (s₁.setTop (entryFrame m #[.ref b, .int (Int32.ofNat o), .ref d, .int (Int32.ofNat q), .int (Int32.ofNat len)] 7)) (T9.setTop (mkF m 46 #[.val (.ref b), .val (.int (Int32.ofNat (o + len))), .val (.ref d), .val (.int (Int32.ofNat (q + len))), .val (.int (Int32.ofNat len)), .val (.int (Int32.ofNat len)), z9] [.int (Int32.ofNat len)])) := g9.trans (by
    refine XS.iload X9.here hexec rfl (hb hbytes d3) rfl ?_
    refine XS.iload X9.here hexec rfl (hb hbytes d5) rfl ?_
    refine XS.icmpYes X9.here hexec rfl (pc0 := 7) rfl (hb hbytes d7) rfl (ii_ge_t (nlt32 (by omega) (Nat.le_refl _))) (by decide) rfl ?_
    refine XS.iload X9.here hexec rfl (hb hbytes d44) rfl ?_
    exact Steps.refl _)
  exact ⟨T9, some (.int (Int32.ofNat len)), _, _, _, X9, by simp, rfl, rfl, (fun h => by cases h), ⟨rfl, B9, p9.from hh0, f9⟩, fun fs hl => c11.trans (X9.ireturnOut hexec hret rfl (Or.inl rfl) (hb hbytes d46) hl)⟩
end Cmp5
namespace Cmp3
def yN : MethodName := ⟨"java/lang/StringUTF16", "compress", "([CII)[B"⟩
abbrev yB : ByteArray := jdk_52_method_16_code
theorem d0 : decode yB 0 = .ok (.iload_n 2, 1) := by decide +kernel
theorem d1 : decode yB 1 = .ok (.newarray .byte, 2) := by decide +kernel
theorem d3 : decode yB 3 = .ok (.astore_n 3, 1) := by decide +kernel
theorem d4 : decode yB 4 = .ok (.aload_n 0, 1) := by decide +kernel
theorem d5 : decode yB 5 = .ok (.iload_n 1, 1) := by decide +kernel
theorem d6 : decode yB 6 = .ok (.aload_n 3, 1) := by decide +kernel
theorem d7 : decode yB 7 = .ok (.iconst 0, 1) := by decide +kernel
theorem d8 : decode yB 8 = .ok (.iload_n 2, 1) := by decide +kernel
theorem d9 : decode yB 9 = .ok (.invokestatic 115, 3) := by decide +kernel
theorem d12 : decode yB 12 = .ok (.istore 4, 2) := by decide +kernel
theorem d14 : decode yB 14 = .ok (.iload 4, 2) := by decide +kernel
theorem d16 : decode yB 16 = .ok (.iload_n 2, 1) := by decide +kernel
theorem d17 : decode yB 17 = .ok (.if_icmp (.eq) 40, 3) := by decide +kernel
theorem d57 : decode yB 57 = .ok (.aload_n 3, 1) := by decide +kernel
theorem d58 : decode yB 58 = .ok (.areturn, 1) := by decide +kernel
def site : List Cond := [.arrayClass .byte, Cmp5.tab] ++ staticW U16 115 Cmp5.yN
def tab : Cond := tabOf yN yB 6 (some (.array .byte)) site
def P (b : Addr) (A : Cell) (o len : Nat) (args : Array Value) (s : State) : Prop := args = #[.ref b, .int (Int32.ofNat o), .int (Int32.ofNat len)] ∧ Ch b A s ∧ o + len ≤ A.slots.size ∧ len ≤ 536870912 ∧ ∀ i, i < len → ¬ 255 < cv A (o + i)
def E (b : Addr) (A : Cell) (o len : Nat) (r : Option Value) (s u : State) : Prop := NewArr .byte "[B" len (fun j => .int (lo8 (cv A (o + j)))) r s u ∧ u.heap.size = s.heap.size + 1
/-- no char of the range above 255: a new byte[] of their low bytes -/
theorem law (l : Launch) (b : Addr) (A : Cell) (o len : Nat) : Law l yN 3 3 1 18 yB 6 (some (.array .byte)) site (P b A o len) (E b A o len) [] 1 len := by
  refine Law.of_walk (plainFor_of_name (by decide +kernel)) (by decide +kernel) (by decide +kernel) (by decide) (fun _ _ h => by rw [h.1]; rfl) (fun _ U U' hal hh h => ⟨h.1, h.2.1.mv hal hh, h.2.2⟩) (fun r U U' V V' h1 hal h2 h => ⟨NewArr.mv r U U' V V' h1 hal h2 h.1, by rw [h1, h2]; exact h.2⟩) ?_
  intro p e s m args below meth c s₁ X0 hexec hbytes hml hret hlk hnm hown hh0 W hP
  obtain ⟨rfl, hA, l1, l2, hp⟩ := hP
  have a31 := hA.1.2.2.2
  have c1 : Steps p.tables e below (s₁.setTop (entryFrame m #[.ref b, .int (Int32.ofNat o), .int (Int32.ofNat len)] 6)) (s₁.setTop (mkF m 0 #[.val (.ref b), .val (.int (Int32.ofNat o)), .val (.int (Int32.ofNat len)), .unset, .unset, .unset] [])) := entry rfl
  have c2 : Steps p.tables e below (s₁.setTop (entryFrame m #[.ref b, .int (Int32.ofNat o), .int (Int32.ofNat len)] 6)) (s₁.setTop (mkF m 1 #[.val (.ref b), .val (.int (Int32.ofNat o)), .val (.int (Int32.ofNat len)), .unset, .unset, .unset] [.int (Int32.ofNat len)])) := c1.trans (by
    refine XS.iloadN X0.here hexec rfl (hb hbytes d0) rfl ?_
    exact Steps.refl _)
  obtain ⟨T3, B3, X3, ba3, bs3, bv3, bh3, bf3, st3⟩ := X0.anew hexec (atype := .byte) (wk W (.arrayClass .byte)) rfl (by show len * 1 ≤ _; omega) (by omega) (g := (mkF m 1 #[.val (.ref b), .val (.int (Int32.ofNat o)), .val (.int (Int32.ofNat len)), .unset, .unset, .unset] [.int (Int32.ofNat len)])) rfl (hb hbytes d1) (rest := []) rfl (Nat.le_refl _) (by show 0 + len ≤ len; omega)
  rw [hh0] at ba3 st3
  have kp3 : XT.Kept s T3 := (XT.Kept.of_eq hh0).push bh3
  have hA3 := hA.keep X3.warmed.alike (kp3 _ _ hA.1.1)
  have hne : b ≠ s.heap.size := hA.1.ne
  have c4 : Steps p.tables e below (s₁.setTop (entryFrame m #[.ref b, .int (Int32.ofNat o), .int (Int32.ofNat len)] 6)) (T3.setTop (mkF m 3 #[.val (.ref b), .val (.int (Int32.ofNat o)), .val (.int (Int32.ofNat len)), .unset, .unset, .unset] [.ref s.heap.size])) := c2.trans (st3 _ (Steps.refl _))
  have c5 : Steps p.tables e below (s₁.setTop (entryFrame m #[.ref b, .int (Int32.ofNat o), .int (Int32.ofNat len)] 6)) (T3.setTop (mkF m 9 #[.val (.ref b), .val (.int (Int32.ofNat o)), .val (.int (Int32.ofNat len)), .val (.ref s.heap.size), .unset, .unset] [.int (Int32.ofNat len), .int 0, .ref s.heap.size, .int (Int32.ofNat o), .ref b])) := c4.trans (by
    refine XS.astoreN X3.here hexec rfl (hb hbytes d3) rfl rfl rfl ?_
    refine XS.aloadN X3.here hexec rfl (hb hbytes d4) rfl rfl ?_
    refine XS.iloadN X3.here hexec rfl (hb hbytes d5) rfl ?_
    refine XS.aloadN X3.here hexec rfl (hb hbytes d6) rfl rfl ?_
    refine iconstV X3.here hexec rfl 0 (hb hbytes d7) (by decide) ?_
    refine XS.iloadN X3.here hexec rfl (hb hbytes d8) rfl ?_
    exact Steps.refl _)
  obtain ⟨v6, T6, X6, E6, g6⟩ := X3.callS hexec (Cmp5.law l b A s.heap.size B3 o 0 len) hown (wks W (staticW U16 115 Cmp5.yN)) (wk W Cmp5.tab) (W := 0) (Nat.le_of_ble_eq_true rfl) (Nat.le_of_ble_eq_true rfl) (Nat.le_refl _) (by show 0 + len + 0 ≤ len; omega) (g := (mkF m 9 #[.val (.ref b), .val (.int (Int32.ofNat o)), .val (.int (Int32.ofNat len)), .val (.ref s.heap.size), .unset, .unset] [.int (Int32.ofNat len), .int (Int32.ofNat 0), .ref s.heap.size, .int (Int32.ofNat o), .ref b])) rfl (by rw [hml]; rfl) c5 (argsL := [.ref b, .int (Int32.ofNat o), .ref s.heap.size, .int (Int32.ofNat 0), .int (Int32.ofNat len)]) (rest := []) rfl rfl (by show 2 * 0 + 0 ≤ _; decide) (hb hbytes d9) (⟨rfl, hA3, ba3, hne, l1, by rw [bs3]; simp, hp⟩)
  obtain ⟨rfl, B6, p6, f6⟩ := E6
  have c7 : Steps p.tables e below (s₁.setTop (entryFrame m #[.ref b, .int (Int32.ofNat o), .int (Int32.ofNat len)] 6)) (T6.setTop (mkF m 12 #[.val (.ref b), .val (.int (Int32.ofNat o)), .val (.int (Int32.ofNat len)), .val (.ref s.heap.size), .unset, .unset] [.int (Int32.ofNat len)])) := g6
  have c8 : Steps p.tables e below (s₁.setTop (entryFrame m #[.ref b, .int (Int32.ofNat o), .int (Int32.ofNat len)] 6)) (T6.setTop (mkF m 58 #[.val (.ref b), .val (.int (Int32.ofNat o)), .val (.int (Int32.ofNat len)), .val (.ref s.heap.size), .val (.int (Int32.ofNat len)), .unset] [.ref s.heap.size])) := c7.trans (by
    refine XS.istore X6.here hexec rfl (hb hbytes d12) rfl rfl ?_
    refine XS.iload X6.here hexec rfl (hb hbytes d14) rfl ?_
    refine XS.iloadN X6.here hexec rfl (hb hbytes d16) rfl ?_
    refine XS.icmpYes X6.here hexec rfl (pc0 := 17) rfl (hb hbytes d17) rfl (ii_eq_t rfl) (by decide) rfl ?_
    refine XS.aloadN X6.here hexec rfl (hb hbytes d57) rfl rfl ?_
    exact Steps.refl _)
  have X8 := X6.wide (L' := []) (cells' := 1) (slots' := len) (fun x hx hlt => by
    simp only [List.nil_append, copyLocs, List.mem_map, List.mem_range] at hx
    obtain ⟨i, -, rfl⟩ := hx
    exact absurd hlt (Nat.lt_irrefl _)) (Nat.le_refl _) (by omega)
  exact ⟨T6, some (.ref s.heap.size), _, _, _, X8, rfl, rfl, rfl, (fun h => by cases h), ⟨⟨rfl, B6, ba3.like (X3.warmed.alike.symm.trans X6.warmed.alike) p6.1 f6.1 f6.2.1 f6.2.2.1, f6.2.1.trans bv3, by rw [X6.warmed.alike.findClass, f6.1]; exact bf3, by rw [f6.2.2.1, bs3]; simp, fun j hj => by rw [f6.2.2.2 j, if_pos (by omega)]; rfl, kp3.put p6 (Nat.le_refl _)⟩, by rw [p6.2.2, bh3, hh0]; simp⟩, fun fs hl => c8.trans (X8.areturnOut hexec rfl hret rfl (hb hbytes d58) hl)⟩
end Cmp3
namespace CodL
def yN : MethodName := ⟨"java/lang/StringUTF16", "coderFromArrayLen", "([BI)B"⟩
abbrev yB : ByteArray := jdk_52_method_15_code
theorem d0 : decode yB 0 = .ok (.iload_n 1, 1) := by decide +kernel
theorem d1 : decode yB 1 = .ok (.aload_n 0, 1) := by decide +kernel
theorem d2 : decode yB 2 = .ok (.arraylength, 1) := by decide +kernel
theorem d3 : decode yB 3 = .ok (.isub, 1) := by decide +kernel
theorem d4 : decode yB 4 = .ok (.bipush 31, 2) := by decide +kernel
theorem d6 : decode yB 6 = .ok (.iushr, 1) := by decide +kernel
theorem d7 : decode yB 7 = .ok (.i2b, 1) := by decide +kernel
theorem d8 : decode yB 8 = .ok (.ireturn, 1) := by decide +kernel
def site : List Cond := []
def tab : Cond := tabOf yN yB 2 (some .byte) site
def P (d : Addr) (B : Cell) (args : Array Value) (s : State) : Prop := args = #[.ref d, .int (Int32.ofNat B.slots.size)] ∧ Arr .byte d B s
def E (r : Option Value) (s u : State) : Prop := XT.PureE (some (.int 0)) r s u
/-- an array as long as the number of chars: LATIN1 -/
theorem law (l : Launch) (d : Addr) (B : Cell) : Law l yN 2 2 0 0 yB 2 (some .byte) site (P d B) E [] 0 0 := by
  refine Law.of_walk (plainFor_of_name (by decide +kernel)) (by decide +kernel) (by decide +kernel) (by decide) (fun _ _ h => by rw [h.1]; rfl) (fun _ U U' hal hh h => ⟨h.1, h.2.mv hal hh⟩) (fun r U U' V V' h1 hal h2 h => XT.PureE.mv r U U' V V' h1 hal h2 h) ?_
  intro p e s m args below meth c s₁ X0 hexec hbytes hml hret hlk hnm hown hh0 W hP
  obtain ⟨rfl, hB⟩ := hP
  have hB0 := hB.mv X0.warmed.alike hh0
  have c1 : Steps p.tables e below (s₁.setTop (entryFrame m #[.ref d, .int (Int32.ofNat B.slots.size)] 2)) (s₁.setTop (mkF m 0 #[.val (.ref d), .val (.int (Int32.ofNat B.slots.size))] [])) := entry rfl
  have c2 : Steps p.tables e below (s₁.setTop (entryFrame m #[.ref d, .int (Int32.ofNat B.slots.size)] 2)) (s₁.setTop (mkF m 2 #[.val (.ref d), .val (.int (Int32.ofNat B.slots.size))] [.ref d, .int (Int32.ofNat B.slots.size)])) := c1.trans (by
    refine XS.iloadN X0.here hexec rfl (hb hbytes d0) rfl ?_
    refine XS.aloadN X0.here hexec rfl (hb hbytes d1) rfl rfl ?_
    exact Steps.refl _)
  have c3 : Steps p.tables e below (s₁.setTop (entryFrame m #[.ref d, .int (Int32.ofNat B.slots.size)] 2)) (s₁.setTop (mkF m 8 #[.val (.ref d), .val (.int (Int32.ofNat B.slots.size))] [.int (lo8 (ushr (Int32.ofNat B.slots.size - Int32.ofNat B.slots.size) 31))])) := c2.trans (by
    refine X0.alen hexec hB0 rfl rfl (hb hbytes d2) ?_
    refine XS.isub X0.here hexec rfl (hb hbytes d3) rfl ?_
    refine bipushV X0.here hexec rfl 31 (hb hbytes d4) (by decide) ?_
    refine iushr X0.here hexec rfl (hb hbytes d6) rfl ?_
    refine i2b X0.here hexec rfl (hb hbytes d7) rfl ?_
    exact Steps.refl _)
  have e0 : lo8 (ushr (Int32.ofNat B.slots.size - Int32.ofNat B.slots.size) 31) = 0 := by rw [Int32.sub_self]; decide
  rw [e0] at c3
  exact ⟨s₁, some (.int 0), _, _, _, X0, rfl, rfl, rfl, (fun h => by cases h), ⟨rfl, hh0⟩, fun fs hl => c3.trans (X0.ireturnOut hexec hret rfl (Or.inr (Or.inr (Or.inl rfl))) (hb hbytes d8) hl)⟩
end CodL
/-- the String at a is Latin-1 over a new byte[] (the heap's one new cell): the low bytes of the len chars of A from o on; every cell but a is kept -/
def Got (a : Addr) (D : Cell) (fV fC : Field) (A : Cell) (o len : Nat) (r : Option Value) (s u : State) : Prop := r = none ∧ ∃ D' V : Cell, Blank "java/lang/String" a D' u ∧ Same D D' [fV.slot, fC.slot] ∧ D'.slots[fV.slot]? = some (.ref s.heap.size) ∧ D'.slots[fC.slot]? = some (.int 0) ∧ Arr .byte s.heap.size V u ∧ V.vm = .none ∧ u.vm.findClass "[B" = some V.cls ∧ V.slots.size = len ∧ (∀ j, j < len → V.slots[j]? = some (.int (lo8 (cv A (o + j))))) ∧ (∀ (y : Addr) (c : Cell), y ≠ a → s.heap[y]? = some c → u.heap[y]? = some c) ∧ u.heap.size = s.heap.size + 1
theorem Got.mv {a : Addr} {D A : Cell} {fV fC : Field} {o len : Nat} : ∀ r (U U' V V' : State), U'.heap = U.heap → V.vm.Alike V'.vm → V'.heap = V.heap → Got a D fV fC A o len r U V → Got a D fV fC A o len r U' V' :=
  fun r U U' V V' h1 hal h2 ⟨e0, D', X, a1, a2, a3, a4, a5, a6, a7, a8, a9, a10, a11⟩ => ⟨e0, D', X, a1.mv hal h2, a2, by rw [h1]; exact a3, a4, by rw [h1]; exact a5.mv hal h2, a6, by rw [hal.findClass]; exact a7, a8, a9, by rw [h1, h2]; exact a10, by rw [h1, h2]; exact a11⟩
namespace New4
def yN : MethodName := ⟨"java/lang/String", "<init>", "([CIILjava/lang/Void;)V"⟩
abbrev yB : ByteArray := jdk_42_method_149_code
theorem d0 : decode yB 0 = .ok (.aload_n 0, 1) := by decide +kernel
theorem d1 : decode yB 1 = .ok (.invokespecial 1, 3) := by decide +kernel
theorem d4 : decode yB 4 = .ok (.iload_n 3, 1) := by decide +kernel
theorem d5 : decode yB 5 = .ok (.ifCond (.ne) 22, 3) := by decide +kernel
theorem d27 : decode yB 27 = .ok (.getstatic 38, 3) := by decide +kernel
theorem d30 : decode yB 30 = .ok (.ifCond (.eq) 28, 3) := by decide +kernel
theorem d33 : decode yB 33 = .ok (.aload_n 1, 1) := by decide +kernel
theorem d34 : decode yB 34 = .ok (.iload_n 2, 1) := by decide +kernel
theorem d35 : decode yB 35 = .ok (.iload_n 3, 1) := by decide +kernel
theorem d36 : decode yB 36 = .ok (.invokestatic 177, 3) := by decide +kernel
theorem d39 : decode yB 39 = .ok (.astore 5, 2) := by decide +kernel
theorem d41 : decode yB 41 = .ok (.aload_n 0, 1) := by decide +kernel
theorem d42 : decode yB 42 = .ok (.aload 5, 2) := by decide +kernel
theorem d44 : decode yB 44 = .ok (.iload_n 3, 1) := by decide +kernel
theorem d45 : decode yB 45 = .ok (.invokestatic 47, 3) := by decide +kernel
theorem d48 : decode yB 48 = .ok (.putfield 15, 3) := by decide +kernel
theorem d51 : decode yB 51 = .ok (.aload_n 0, 1) := by decide +kernel
theorem d52 : decode yB 52 = .ok (.aload 5, 2) := by decide +kernel
theorem d54 : decode yB 54 = .ok (.putfield 9, 3) := by decide +kernel
theorem d57 : decode yB 57 = .ok (.return_, 1) := by decide +kernel
def site : List Cond := [.fieldLink "java/lang/String" 38 "java/lang/String" "COMPACT_STRINGS" "Z", Cmp3.tab, CodL.tab, .laysFinal "java/lang/String" "java/lang/String" "value" "[B", .fieldLink "java/lang/String" 9 "java/lang/String" "value" "[B", .laysFinal "java/lang/String" "java/lang/String" "coder" "B", .fieldLink "java/lang/String" 15 "java/lang/String" "coder" "B"] ++ objW "java/lang/String" 1 ++ staticW "java/lang/String" 177 Cmp3.yN ++ staticW "java/lang/String" 47 CodL.yN
def tab : Cond := tabOf yN yB 6 none site
def P (a : Addr) (D : Cell) (fV fC : Field) (b : Addr) (A : Cell) (z : Int32) (o len : Nat) (args : Array Value) (s : State) : Prop := args = #[.ref a, .ref b, .int (Int32.ofNat o), .int (Int32.ofNat len), .null] ∧ Blank "java/lang/String" a D s ∧ Found "java/lang/String" "value" "[B" fV s ∧ Found "java/lang/String" "coder" "B" fC s ∧ Ch b A s ∧ StaticIs s "java/lang/String" "COMPACT_STRINGS" "Z" (.int z) ∧ ¬ z = 0 ∧ 0 < len ∧ o + len ≤ A.slots.size ∧ len ≤ 536870912 ∧ ∀ i, i < len → ¬ 255 < cv A (o + i)
def E (a : Addr) (D : Cell) (fV fC : Field) (A : Cell) (o len : Nat) (r : Option Value) (s u : State) : Prop := Got a D fV fC A o len r s u
/-- len > 0, no char of the range above 255: a Latin-1 String of their low bytes -/
theorem law (l : Launch) (a : Addr) (D : Cell) (fV fC : Field) (b : Addr) (A : Cell) (z : Int32) (o len : Nat) : Law l yN 5 4 2 35 yB 6 none site (P a D fV fC b A z o len) (E a D fV fC A o len) [⟨a, fC.slot⟩, ⟨a, fV.slot⟩] 1 len := by
  refine Law.of_walk (plainFor_of_name (by decide +kernel)) (by decide +kernel) (by decide +kernel) (by decide) (fun _ _ h => by rw [h.1]; rfl) (fun _ U U' hal hh h => ⟨h.1, h.2.1.mv hal hh, h.2.2.1.al hal, h.2.2.2.1.al hal, h.2.2.2.2.1.mv hal hh, h.2.2.2.2.2.1.there hal hh, h.2.2.2.2.2.2⟩) (fun r U U' V V' h1 hal h2 h => Got.mv r U U' V V' h1 hal h2 h) ?_
  intro p e s m args below meth c s₁ X0 hexec hbytes hml hret hlk hnm hown hh0 W hP
  obtain ⟨rfl, hB, f1, f2, hA, s1, hz, l0, l1, l2, hp⟩ := hP
  have a31 := hA.1.2.2.2
  have c1 : Steps p.tables e below (s₁.setTop (entryFrame m #[.ref a, .ref b, .int (Int32.ofNat o), .int (Int32.ofNat len), .null] 6)) (s₁.setTop (mkF m 0 #[.val (.ref a), .val (.ref b), .val (.int (Int32.ofNat o)), .val (.int (Int32.ofNat len)), .val .null, .unset] [])) := entry rfl
  have c2 : Steps p.tables e below (s₁.setTop (entryFrame m #[.ref a, .ref b, .int (Int32.ofNat o), .int (Int32.ofNat len), .null] 6)) (s₁.setTop (mkF m 1 #[.val (.ref a), .val (.ref b), .val (.int (Int32.ofNat o)), .val (.int (Int32.ofNat len)), .val .null, .unset] [.ref a])) := c1.trans (by
    refine XS.aloadN X0.here hexec rfl (hb hbytes d0) rfl rfl ?_
    exact Steps.refl _)
  obtain ⟨T3, X3, q3, st3⟩ := X0.oinit hexec hown (wks W (objW "java/lang/String" 1)) (g := (mkF m 1 #[.val (.ref a), .val (.ref b), .val (.int (Int32.ofNat o)), .val (.int (Int32.ofNat len)), .val .null, .unset] [.ref a])) rfl (by rw [hml]; rfl) (rest := []) rfl (hb hbytes d1) (W := 0) (by show 2 * 0 + 0 ≤ _; decide) (Nat.le_of_ble_eq_true rfl) (Nat.le_of_ble_eq_true rfl)
  have hh3 := q3.trans hh0
  have c4 : Steps p.tables e below (s₁.setTop (entryFrame m #[.ref a, .ref b, .int (Int32.ofNat o), .int (Int32.ofNat len), .null] 6)) (T3.setTop (mkF m 27 #[.val (.ref a), .val (.ref b), .val (.int (Int32.ofNat o)), .val (.int (Int32.ofNat len)), .val .null, .unset] [])) := (c2.trans (st3 _ (Steps.refl _))).trans (by
    refine XS.iloadN X3.here hexec rfl (hb hbytes d4) rfl ?_
    refine XS.ifYes X3.here hexec rfl (pc0 := 5) rfl (hb hbytes d5) rfl (i0_ne_t (nz32 (by omega) l0)) (by decide) rfl ?_
    exact Steps.refl _)
  obtain ⟨T5, X5, q5, st5⟩ := X3.sget hexec hown (wk W (.fieldLink "java/lang/String" 38 "java/lang/String" "COMPACT_STRINGS" "Z")) s1 (fun _ _ h => by rw [hh3]; exact h) (g := (mkF m 27 #[.val (.ref a), .val (.ref b), .val (.int (Int32.ofNat o)), .val (.int (Int32.ofNat len)), .val .null, .unset] [])) rfl (hb hbytes d27)
  have hh5 := q5.trans hh3
  have c6 : Steps p.tables e below (s₁.setTop (entryFrame m #[.ref a, .ref b, .int (Int32.ofNat o), .int (Int32.ofNat len), .null] 6)) (T5.setTop (mkF m 30 #[.val (.ref a), .val (.ref b), .val (.int (Int32.ofNat o)), .val (.int (Int32.ofNat len)), .val .null, .unset] [.int z])) := c4.trans (st5 _ (Steps.refl _))
  have c7 : Steps p.tables e below (s₁.setTop (entryFrame m #[.ref a, .ref b, .int (Int32.ofNat o), .int (Int32.ofNat len), .null] 6)) (T5.setTop (mkF m 36 #[.val (.ref a), .val (.ref b), .val (.int (Int32.ofNat o)), .val (.int (Int32.ofNat len)), .val .null, .unset] [.int (Int32.ofNat len), .int (Int32.ofNat o), .ref b])) := c6.trans (by
    refine XS.ifNo X5.here hexec rfl (hb hbytes d30) rfl (i0_eq_f hz) ?_
    refine XS.aloadN X5.here hexec rfl (hb hbytes d33) rfl rfl ?_
    refine XS.iloadN X5.here hexec rfl (hb hbytes d34) rfl ?_
    refine XS.iloadN X5.here hexec rfl (hb hbytes d35) rfl ?_
    exact Steps.refl _)
  obtain ⟨v8, T8, X8, E8, g8⟩ := X5.callS hexec (Cmp3.law l b A o len) hown (wks W (staticW "java/lang/String" 177 Cmp3.yN)) (wk W Cmp3.tab) (W := 0) (Nat.le_of_ble_eq_true rfl) (Nat.le_of_ble_eq_true rfl) (Nat.le_refl _) (by show 0 + len ≤ len; omega) (g := (mkF m 36 #[.val (.ref a), .val (.ref b), .val (.int (Int32.ofNat o)), .val (.int (Int32.ofNat len)), .val .null, .unset] [.int (Int32.ofNat len), .int (Int32.ofNat o), .ref b])) rfl (by rw [hml]; rfl) c7 (argsL := [.ref b, .int (Int32.ofNat o), .int (Int32.ofNat len)]) (rest := []) rfl rfl (by show 2 * 0 + 0 ≤ _; decide) (hb hbytes d36) (⟨rfl, hA.mv X5.warmed.alike hh5, l1, l2, hp⟩)
  obtain ⟨e8, z8⟩ := E8
  obtain ⟨rfl, N, n1, n2, n3, n4, n5, n6⟩ := NewArr.mv _ T5 s _ _ hh5.symm (Vm.Alike.refl _) rfl e8
  rw [hh5] at z8
  have hB1 := hB.keep X8.warmed.alike (n6 _ _ hB.1)
  have hne : s.heap.size ≠ a := (Nat.ne_of_lt (Array.getElem?_eq_some_iff.mp hB.1).1).symm
  have c9 : Steps p.tables e below (s₁.setTop (entryFrame m #[.ref a, .ref b, .int (Int32.ofNat o), .int (Int32.ofNat len), .null] 6)) (T8.setTop (mkF m 39 #[.val (.ref a), .val (.ref b), .val (.int (Int32.ofNat o)), .val (.int (Int32.ofNat len)), .val .null, .unset] [.ref s.heap.size])) := g8
  have c10 : Steps p.tables e below (s₁.setTop (entryFrame m #[.ref a, .ref b, .int (Int32.ofNat o), .int (Int32.ofNat len), .null] 6)) (T8.setTop (mkF m 45 #[.val (.ref a), .val (.ref b), .val (.int (Int32.ofNat o)), .val (.int (Int32.ofNat len)), .val .null, .val (.ref s.heap.size)] [.int (Int32.ofNat N.slots.size), .ref s.heap.size, .ref a])) := by
    have hc : Steps p.tables e below (s₁.setTop (entryFrame m #[.ref a, .ref b, .int (Int32.ofNat o), .int (Int32.ofNat len), .null] 6)) (T8.setTop (mkF m 45 #[.val (.ref a), .val (.ref b), .val (.int (Int32.ofNat o)), .val (.int (Int32.ofNat len)), .val .null, .val (.ref s.heap.size)] [.int (Int32.ofNat len), .ref s.heap.size, .ref a])) := c9.trans (by
      refine XS.astore X8.here hexec rfl (hb hbytes d39) rfl rfl rfl ?_
      refine XS.aloadN X8.here hexec rfl (hb hbytes d41) rfl rfl ?_
      refine XS.aload X8.here hexec rfl (hb hbytes d42) rfl rfl ?_
      refine XS.iloadN X8.here hexec rfl (hb hbytes d44) rfl ?_
      exact Steps.refl _)
    rw [n4]; exact hc
  obtain ⟨v11, T11, X11, E11, g11⟩ := X8.callS hexec (CodL.law l s.heap.size N) hown (wks W (staticW "java/lang/String" 47 CodL.yN)) (wk W CodL.tab) (W := 1) (Nat.le_of_ble_eq_true rfl) (Nat.le_of_ble_eq_true rfl) (Nat.le_refl _) (by show 0 + len + 0 ≤ len; omega) (g := (mkF m 45 #[.val (.ref a), .val (.ref b), .val (.int (Int32.ofNat o)), .val (.int (Int32.ofNat len)), .val .null, .val (.ref s.heap.size)] [.int (Int32.ofNat N.slots.size), .ref s.heap.size, .ref a])) rfl (by rw [hml]; rfl) c10 (argsL := [.ref s.heap.size, .int (Int32.ofNat N.slots.size)]) (rest := [.ref a]) rfl rfl (by show 2 * 0 + (1 + 0) ≤ _; decide) (hb hbytes d45) (⟨rfl, n1⟩)
  obtain ⟨rfl, q11⟩ := E11
  have hB11 := hB1.mv (X8.warmed.alike.symm.trans X11.warmed.alike) q11
  have c12 : Steps p.tables e below (s₁.setTop (entryFrame m #[.ref a, .ref b, .int (Int32.ofNat o), .int (Int32.ofNat len), .null] 6)) (T11.setTop (mkF m 48 #[.val (.ref a), .val (.ref b), .val (.int (Int32.ofNat o)), .val (.int (Int32.ofNat len)), .val .null, .val (.ref s.heap.size)] [.int 0, .ref a])) := g11
  obtain ⟨T13, X13, p13, bl13, sl13, st13⟩ := X11.finit hexec hown (wk W (.fieldLink "java/lang/String" 15 "java/lang/String" "coder" "B")) (Or.inr ⟨_, (wk W (.laysFinal "java/lang/String" "java/lang/String" "coder" "B"))⟩) (Or.inl ⟨rfl, hnm⟩) f2 (Or.inl rfl) hB11 (t := .byte) (by decide +kernel) rfl (g := (mkF m 48 #[.val (.ref a), .val (.ref b), .val (.int (Int32.ofNat o)), .val (.int (Int32.ofNat len)), .val .null, .val (.ref s.heap.size)] [.int 0, .ref a])) rfl (rest := []) rfl (hb hbytes d48)
  have c14 : Steps p.tables e below (s₁.setTop (entryFrame m #[.ref a, .ref b, .int (Int32.ofNat o), .int (Int32.ofNat len), .null] 6)) (T13.setTop (mkF m 54 #[.val (.ref a), .val (.ref b), .val (.int (Int32.ofNat o)), .val (.int (Int32.ofNat len)), .val .null, .val (.ref s.heap.size)] [.ref s.heap.size, .ref a])) := (c12.trans (st13 _ (Steps.refl _))).trans (by
    refine XS.aloadN X13.here hexec rfl (hb hbytes d51) rfl rfl ?_
    refine XS.aload X13.here hexec rfl (hb hbytes d52) rfl rfl ?_
    exact Steps.refl _)
  obtain ⟨T15, X15, p15, bl15, sl15, st15⟩ := X13.finit hexec hown (wk W (.fieldLink "java/lang/String" 9 "java/lang/String" "value" "[B")) (Or.inr ⟨_, (wk W (.laysFinal "java/lang/String" "java/lang/String" "value" "[B"))⟩) (Or.inl ⟨rfl, hnm⟩) f1 (Or.inl rfl) bl13 (t := (.array .byte)) (by decide +kernel) rfl (g := (mkF m 54 #[.val (.ref a), .val (.ref b), .val (.int (Int32.ofNat o)), .val (.int (Int32.ofNat len)), .val .null, .val (.ref s.heap.size)] [.ref s.heap.size, .ref a])) rfl (rest := []) rfl (hb hbytes d54)
  have c16 : Steps p.tables e below (s₁.setTop (entryFrame m #[.ref a, .ref b, .int (Int32.ofNat o), .int (Int32.ofNat len), .null] 6)) (T15.setTop (mkF m 57 #[.val (.ref a), .val (.ref b), .val (.int (Int32.ofNat o)), .val (.int (Int32.ofNat len)), .val .null, .val (.ref s.heap.size)] [])) := c14.trans (st15 _ (Steps.refl _))
  have ap := apart (Or.inr ⟨_, (wk W (.laysFinal "java/lang/String" "java/lang/String" "value" "[B"))⟩) (Or.inr ⟨_, (wk W (.laysFinal "java/lang/String" "java/lang/String" "coder" "B"))⟩) f1 f2 (t₁ := .array .byte) (t₂ := .byte) (by decide +kernel) (by decide +kernel) (by decide)
  have al := X8.warmed.alike.symm.trans X15.warmed.alike
  have n7 : T11.heap[s.heap.size]? = some N := by rw [q11]; exact n1.1
  exact ⟨T15, none, _, _, _, X15, by simp, rfl, by omega, (fun _ => rfl), ⟨rfl, _, N, bl15, ((Same.refl D _).set _ (by simp)).set _ (by simp), sl15, (Cell.slots_setSlot_ne _ ap).trans sl13, n1.keep al (p15.other hne (p13.other hne n7)), n2, by rw [al.findClass]; exact n3, n4, n5, fun y c h1 h2 => p15.other h1 (p13.other h1 (by rw [q11]; exact n6 y c h2)), by rw [p15.2.2, p13.2.2, q11]; exact z8⟩, fun fs hl => c16.trans (X15.returnOut hexec hret (hb hbytes d57) hl)⟩
end New4
namespace New1
def yN : MethodName := ⟨"java/lang/String", "<init>", "([C)V"⟩
abbrev yB : ByteArray := jdk_42_method_3_code
theorem d0 : decode yB 0 = .ok (.aload_n 0, 1) := by decide +kernel
theorem d1 : decode yB 1 = .ok (.aload_n 1, 1) := by decide +kernel
theorem d2 : decode yB 2 = .ok (.iconst 0, 1) := by decide +kernel
theorem d3 : decode yB 3 = .ok (.aload_n 1, 1) := by decide +kernel
theorem d4 : decode yB 4 = .ok (.arraylength, 1) := by decide +kernel
theorem d5 : decode yB 5 = .ok (.aconst_null, 1) := by decide +kernel
theorem d6 : decode yB 6 = .ok (.invokespecial 27, 3) := by decide +kernel
theorem d9 : decode yB 9 = .ok (.return_, 1) := by decide +kernel
def site : List Cond := [New4.tab] ++ initW "java/lang/String" 27 New4.yN
def tab : Cond := tabOf yN yB 2 none site
def P (a : Addr) (D : Cell) (fV fC : Field) (b : Addr) (A : Cell) (z : Int32) (args : Array Value) (s : State) : Prop := args = #[.ref a, .ref b] ∧ Blank "java/lang/String" a D s ∧ Found "java/lang/String" "value" "[B" fV s ∧ Found "java/lang/String" "coder" "B" fC s ∧ Ch b A s ∧ StaticIs s "java/lang/String" "COMPACT_STRINGS" "Z" (.int z) ∧ ¬ z = 0 ∧ 0 < A.slots.size ∧ A.slots.size ≤ 536870912 ∧ ∀ i, i < A.slots.size → ¬ 255 < cv A i
def E (a : Addr) (D : Cell) (fV fC : Field) (A : Cell) (r : Option Value) (s u : State) : Prop := Got a D fV fC A 0 A.slots.size r s u
/-- new String(chars), not empty, no char above 255: a Latin-1 String of their low bytes -/
theorem law (l : Launch) (a : Addr) (D : Cell) (fV fC : Field) (b : Addr) (A : Cell) (z : Int32) : Law l yN 2 1 3 52 yB 2 none site (P a D fV fC b A z) (E a D fV fC A) [⟨a, fC.slot⟩, ⟨a, fV.slot⟩] 1 A.slots.size := by
  refine Law.of_walk (plainFor_of_name (by decide +kernel)) (by decide +kernel) (by decide +kernel) (by decide) (fun _ _ h => by rw [h.1]; rfl) (fun _ U U' hal hh h => ⟨h.1, h.2.1.mv hal hh, h.2.2.1.al hal, h.2.2.2.1.al hal, h.2.2.2.2.1.mv hal hh, h.2.2.2.2.2.1.there hal hh, h.2.2.2.2.2.2⟩) (fun r U U' V V' h1 hal h2 h => Got.mv r U U' V V' h1 hal h2 h) ?_
  intro p e s m args below meth c s₁ X0 hexec hbytes hml hret hlk hnm hown hh0 W hP
  obtain ⟨rfl, hB, f1, f2, hA, s1, hz, l0, l2, hp⟩ := hP
  have c1 : Steps p.tables e below (s₁.setTop (entryFrame m #[.ref a, .ref b] 2)) (s₁.setTop (mkF m 0 #[.val (.ref a), .val (.ref b)] [])) := entry rfl
  have c2 : Steps p.tables e below (s₁.setTop (entryFrame m #[.ref a, .ref b] 2)) (s₁.setTop (mkF m 6 #[.val (.ref a), .val (.ref b)] [.null, .int (Int32.ofNat A.slots.size), .int 0, .ref b, .ref a])) := c1.trans (by
    refine XS.aloadN X0.here hexec rfl (hb hbytes d0) rfl rfl ?_
    refine XS.aloadN X0.here hexec rfl (hb hbytes d1) rfl rfl ?_
    refine iconstV X0.here hexec rfl 0 (hb hbytes d2) (by decide) ?_
    refine XS.aloadN X0.here hexec rfl (hb hbytes d3) rfl rfl ?_
    refine X0.alen hexec (hA.1.mv X0.warmed.alike hh0) rfl rfl (hb hbytes d4) ?_
    refine XS.aconstNull X0.here hexec rfl (hb hbytes d5) ?_
    exact Steps.refl _)
  obtain ⟨v3, T3, X3, E3, g3⟩ := X0.callN hexec (New4.law l a D fV fC b A z 0 A.slots.size) rfl hown (wks W (initW "java/lang/String" 27 New4.yN)) (W New4.tab (by simp only [site, List.mem_cons, List.mem_append, true_or, or_true])) (W := 0) (Nat.le_of_ble_eq_true rfl) (Nat.le_of_ble_eq_true rfl) (Nat.le_refl _) (by show 0 + A.slots.size ≤ A.slots.size; omega) (g := (mkF m 6 #[.val (.ref a), .val (.ref b)] [.null, .int (Int32.ofNat A.slots.size), .int (Int32.ofNat 0), .ref b, .ref a])) rfl (by rw [hml]; rfl) c2 (argsL := [.ref b, .int (Int32.ofNat 0), .int (Int32.ofNat A.slots.size), .null]) (rest := []) rfl rfl (by show 2 * 0 + 0 ≤ _; decide) (hb hbytes d6) (⟨rfl, hB.mv X0.warmed.alike hh0, f1.al X0.warmed.alike, f2.al X0.warmed.alike, hA.mv X0.warmed.alike hh0, s1.there X0.warmed.alike hh0, hz, l0, by omega, l2, fun i hi => by rw [Nat.zero_add]; exact hp i hi⟩)
  have e0 := Got.mv _ s₁ s _ _ hh0.symm (Vm.Alike.refl _) rfl E3
  obtain rfl := e0.1
  have c4 : Steps p.tables e below (s₁.setTop (entryFrame m #[.ref a, .ref b] 2)) (T3.setTop (mkF m 9 #[.val (.ref a), .val (.ref b)] [])) := g3
  exact ⟨T3, none, _, _, _, X3, by simp, rfl, by omega, (fun _ => rfl), e0, fun fs hl => c4.trans (X3.returnOut hexec hret (hb hbytes d9) hl)⟩
theorem pays {l : Launch} {R : Room} {p : Program} {e : Env} {below : List Frame} {s : State} {sargs : Array Value} {len W : Nat} (a : Addr) (D : Cell) (fV fC : Field) (b : Addr) (A : Cell) (z : Int32) (htab : tab.before sargs s = true) (hfr : 4 ≤ R.frames) (hlo : W + 65 ≤ R.locals) :
    Back l R p e below s sargs yN len W (fun A₁ a₁ => A₁.cells + 1 ≤ R.cells ∧ A₁.slots + A.slots.size ≤ R.slots ∧ P a D fV fC b A z a₁ A₁.U) (fun A₁ _ v₁ B₁ => E a D fV fC A v₁ A₁.U B₁.U ∧ B₁.locs = A₁.locs ++ [⟨a, fC.slot⟩, ⟨a, fV.slot⟩] ∧ B₁.cells = A₁.cells + 1 ∧ B₁.slots = A₁.slots + A.slots.size) :=
  (law l a D fV fC b A z).pays htab hfr (by omega)
end New1
end StrChars
namespace StrChars.Road
open Jvm Sem ClassFile Op Lib Jvm.Stand Jvm.Free Jvm.Free.XT
open Jvm.Lib.Cold (StaticIs)
abbrev ST : String := "java/lang/String"
/-- every table word that New1's law asks, flat -/
abbrev words : List Jvm.Cond := [.code New1.yN New1.yB 2 none, .initialized ST, .methodLink ST 27 New4.yN, .instanceMethod New4.yN,
  .code New4.yN New4.yB 6 none, .fieldLink ST 38 ST "COMPACT_STRINGS" "Z", .laysFinal ST ST "value" "[B", .fieldLink ST 9 ST "value" "[B", .laysFinal ST ST "coder" "B", .fieldLink ST 15 ST "coder" "B",
  .methodLink ST 1 Lib.objectInit, .instanceMethod Lib.objectInit, .code Lib.objectInit ⟨#[0xb1]⟩ 1 none, .methodLink ST 177 Cmp3.yN, .static Cmp3.yN, .methodLink ST 47 CodL.yN, .static CodL.yN,
  .code Cmp3.yN Cmp3.yB 6 (some (.array .byte)), .initialized U16, .arrayClass .byte, .methodLink U16 115 Cmp5.yN, .static Cmp5.yN, .code Cmp5.yN Cmp5.yB 7 (some .int), .code CodL.yN CodL.yB 2 (some .byte)]
theorem tab_of {a : Array Value} {s : State} (h : ∀ w ∈ words, w.before a s = true) : New1.tab.before a s = true := by
  have h5 : Cmp5.tab.before a s = true := unparts (wk h (.code Cmp5.yN Cmp5.yB 7 (some .int))) (wks h (.initialized Cmp5.yN.cls :: Cmp5.site))
  have hc : CodL.tab.before a s = true := unparts (wk h (.code CodL.yN CodL.yB 2 (some .byte))) (wks h (.initialized CodL.yN.cls :: CodL.site))
  have q5 : ∀ w ∈ Cmp5.tab :: words, w.before a s = true := fun w hw => (List.mem_cons.mp hw).elim (fun e => e ▸ h5) (h w)
  have h3 : Cmp3.tab.before a s = true := unparts (wk q5 (.code Cmp3.yN Cmp3.yB 6 (some (.array .byte)))) (wks q5 (.initialized Cmp3.yN.cls :: Cmp3.site))
  have q3 : ∀ w ∈ Cmp3.tab :: CodL.tab :: words, w.before a s = true := fun w hw => (List.mem_cons.mp hw).elim (fun e => e ▸ h3) fun hw => (List.mem_cons.mp hw).elim (fun e => e ▸ hc) (h w)
  have h4 : New4.tab.before a s = true := unparts (wk q3 (.code New4.yN New4.yB 6 none)) (wks q3 (.initialized New4.yN.cls :: New4.site))
  have q4 : ∀ w ∈ New4.tab :: words, w.before a s = true := fun w hw => (List.mem_cons.mp hw).elim (fun e => e ▸ h4) (h w)
  exact unparts (wk q4 (.code New1.yN New1.yB 2 none)) (wks q4 (.initialized New1.yN.cls :: New1.site))
/-- the words ride from the start Z to the walk's own state -/
theorem moved {Z s : State} {a0 args : Array Value} (hZ : Z.Warmed39 s.vm) (hw : ∀ d ∈ words, d.before a0 Z = true) : ∀ d ∈ words, d.before args s = true := fun d hd => by
  have q := hw d hd
  have t : ∀ d ∈ words, d = .arrayClass .byte ∨ (d.onTables && d.keepsFace) = true := by decide +kernel
  rcases t d hd with rfl | t
  · exact RoadKit.mvA hZ q
  · exact RoadKit.mv hZ q t
/-- WHAT COMES BACK, over the tables of the start Z: h the heap at the call, h' behind it -/
def Q (Z : State) (x : Addr) (A : Cell) (h : Heap) (v : Option Value) (h' : Heap) (L : List Loc) : Prop := v = none ∧ (∀ y ∈ L, y.base = x) ∧ RoadKit.Keep h h' [x] ∧ h'.size = h.size + 1 ∧ RoadKit.Exa Z h' x ST ∧ RoadKit.Fld Z h' x ST "value" "[B" (.ref h.size) ∧ RoadKit.Fld Z h' x ST "coder" "B" (.int 0) ∧
  (∃ V : Cell, RoadKit.Arr Z h' h.size V .byte ∧ V.vm = .none ∧ Z.vm.findClass "[B" = some V.cls ∧ V.slots.size = A.slots.size ∧ ∀ j, j < A.slots.size → V.slots[j]? = some (.int (lo8 (cv A j)))) ∧
  ∀ (O n d : String) (w : Value), RoadKit.Fld Z h x O n d w → RoadKit.slotOf Z O n d ≠ RoadKit.slotOf Z ST "value" "[B" → RoadKit.slotOf Z O n d ≠ RoadKit.slotOf Z ST "coder" "B" → RoadKit.Fld Z h' x O n d w
/-- **new String(chars) AT A CALL, IN THE ROAD'S FORM**: for specialBack behind newO: x the fresh String, b the char[] with the cell A -/
theorem back {p : Program} {l : Launch} {e : Env} {R : Room} {s : State} {args : Array Value} {below : List Frame} {len W : Nat} {Z : State} {a0 : Array Value} {h : Heap} (hZ : Z.Warmed39 s.vm) (hw : ∀ d ∈ words, d.before a0 Z = true) {kI : Nat} (wi : (Jvm.Cond.instantiable ST kI).before a0 Z = true)
    {x b : Addr} {A : Cell} {z : Int32} {v0 c0 : Value} (E : RoadKit.Exa Z h x ST) (V : RoadKit.Fld Z h x ST "value" "[B" v0) (C : RoadKit.Fld Z h x ST "coder" "B" c0) (K : RoadKit.Arr Z h b A .char) (hty : Typed .char A) (S : RoadKit.Sta Z h ST "COMPACT_STRINGS" "Z" (.int z)) (hz : ¬ z = 0)
    (l0 : 0 < A.slots.size) (l2 : A.slots.size ≤ 536870912) (hp : ∀ i, i < A.slots.size → ¬ 255 < cv A i) (hfr : 4 ≤ R.frames) (hlo : W + 65 ≤ R.locals) :
    Back l R p e below s args New1.yN len W (fun P a => a = #[.ref x, .ref b] ∧ P.U.heap = h ∧ P.cells + 1 ≤ R.cells ∧ P.slots + A.slots.size ≤ R.slots)
      (fun P _ v B => ∃ L, Q Z x A h v B.U.heap L ∧ B.locs = P.locs ++ L ∧ B.cells = P.cells + 1 ∧ B.slots = P.slots + A.slots.size) := by
  intro m meth c P g ig mk a X hg hsize hdg hW hn hp'
  obtain ⟨rfl, rfl, r1, r2⟩ := hp'
  have al : Z.vm.Alike P.U.vm := hZ.alike.trans X.warmed.alike
  obtain ⟨D, cfV, kV, iV, fV, hD, gV, stV, knV, obV, asV, slV⟩ := id V
  obtain ⟨D', cfC, kC, iC, fC, hD', gC, stC, -, -, asC, slC⟩ := id C
  cases hD.symm.trans hD'
  obtain ⟨D2, kD, e1, e2, e3, e4, e5⟩ := id E
  cases hD.symm.trans e1
  obtain ⟨c2, k2, i1, i2, i3, -⟩ := Cond.instantiable_spec wi
  cases e2.symm.trans i1
  cases e3.symm.trans i2
  obtain ⟨kU, u1, u2⟩ := al.2.2 _ _ e3
  have hB : Blank ST x D P.U := ⟨hD, ⟨knV, fun q hq => by rw [hq] at obV; cases obV⟩, by rw [al.findClass]; exact e2, kU, u1, by rw [u2]; exact i3, by rw [u2]; exact e5 i3⟩
  have F1 : Found ST "value" "[B" fV P.U := ⟨SBG.found_only al ⟨cfV, kV, iV, gV⟩, stV⟩
  have F2 : Found ST "coder" "B" fC P.U := ⟨SBG.found_only al ⟨cfC, kC, iC, gC⟩, stC⟩
  have hA : Ch b A P.U := ⟨⟨K.1, State.isArrayOf_alike al K.2.1, K.2.2, by omega⟩, hty⟩
  have hS : StaticIs P.U ST "COMPACT_STRINGS" "Z" (.int z) := by
    obtain ⟨cfS, iS, kS, fS, st, cS, t1, t2, t3, t4, t5, t6, t7⟩ := S
    exact StaticIs.there (s := { Z with heap := P.U.heap }) ⟨cfS, iS, kS, fS, st, cS, t1, t2, t3, t4, t5, (fun q => by rw [q] at t6; cases t6), t7⟩ al rfl
  obtain ⟨v, B, X', ⟨⟨hv, E', V', q1, q2, q3, q4, q5, q6, q7, q8, q9, q10, q11⟩, hl, hc, hs⟩, st⟩ := New1.pays x D fV fC b A z (tab_of (moved hZ hw)) hfr hlo m meth c P g ig mk _ X hg hsize hdg hW hn ⟨r1, r2, rfl, hB, F1, F2, hA, hS, hz, l0, l2, hp⟩
  have al' : Z.vm.Alike B.U.vm := hZ.alike.trans X'.warmed.alike
  have hsz : E'.slots.size = D.slots.size := by
    obtain ⟨-, -, -, kB, w1, w2, w3⟩ := q1
    obtain ⟨kB', y1, y2⟩ := al'.2.2 _ _ e3
    rw [q2.2.1] at w1
    cases w1.symm.trans y1
    rw [w3, e5 i3, y2]
  refine ⟨v, B, X', ⟨_, ⟨hv, ?_, ⟨by omega, fun y cy hy hn' => q10 y cy (by simpa using hn') hy, fun y cy hy => ?_⟩, q11, ⟨E', _, q1.1, by rw [q2.2.1]; exact e2, by rw [q2.2.1]; exact e3, by rw [q2.1]; exact obV, fun _ => by rw [hsz]; exact e5 i3⟩,
    ⟨E', cfV, kV, iV, fV, q1.1, gV, stV, by rw [q2.1]; exact knV, by rw [q2.1]; exact obV, by rw [q2.2.1]; exact asV, q3⟩, ⟨E', cfC, kC, iC, fC, q1.1, gC, stC, by rw [q2.1]; exact knV, by rw [q2.1]; exact obV, by rw [q2.2.1]; exact asC, q4⟩,
    ⟨V', ⟨q5.1, State.isArrayOf_alike al'.symm q5.2.1, q5.2.2.1⟩, q6, by rw [← al'.findClass]; exact q7, q8, fun j hj => by have := q9 j hj; rwa [Nat.zero_add] at this⟩, fun O n d w F n1 n2 => ?_⟩, hl, hc, hs⟩, st⟩
  · intro y hy
    simp only [List.mem_cons, List.not_mem_nil, or_false] at hy
    rcases hy with rfl | rfl <;> rfl
  · by_cases q : y = x
    · subst q
      cases hD.symm.trans hy
      exact ⟨E', q1.1, q2.2.1, q2.1, hsz⟩
    · exact ⟨cy, q10 y cy q hy, rfl, rfl, rfl⟩
  · obtain ⟨D3, cf, k, i, f, g1, g2, g3, g4, g5, g6, g7⟩ := F
    cases hD.symm.trans g1
    simp only [RoadKit.slotOf, g2, gV, gC, Option.map_some, Option.getD_some] at n1 n2
    exact ⟨E', cf, k, i, f, q1.1, g2, g3, by rw [q2.1]; exact g4, by rw [q2.1]; exact g5, by rw [q2.2.1]; exact g6, by rw [q2.2.2 f.slot (by simp [n1, n2])]; exact g7⟩
end StrChars.Road
namespace StrChars.Road
open Jvm Sem ClassFile Op Lib Jvm.Stand Jvm.Free Jvm.Free.XT
/-- WHAT COMES BACK, the byte[] as a list of values -/
def QA (Z : State) (x : Addr) (zn : Int32) (cs : List Int32) (h : Heap) (v : Option Value) (h' : Heap) (L : List Loc) : Prop := v = none ∧ (∀ y ∈ L, y.base = x) ∧ RoadKit.Keep h h' [x] ∧ h'.size = h.size + 1 ∧ RoadKit.Exa Z h' x ST ∧ RoadKit.Fld Z h' x ST "value" "[B" (.ref h.size) ∧ RoadKit.Fld Z h' x ST "coder" "B" (.int 0) ∧
  (∃ kb, Z.vm.findClass "[B" = some kb ∧ RoadKit.Arv Z h' h.size kb .byte zn (cs.map fun c => .int (lo8 c)) (.int 0)) ∧
  ∀ (O n d : String) (w : Value), RoadKit.Fld Z h x O n d w → RoadKit.slotOf Z O n d ≠ RoadKit.slotOf Z ST "value" "[B" → RoadKit.slotOf Z O n d ≠ RoadKit.slotOf Z ST "coder" "B" → RoadKit.Fld Z h' x O n d w
/-- **new String(chars) AT A CALL, THE ARRAYS AS LISTS**: the char[] at b holds cs, not empty, no char above 255 -/
theorem backArv {p : Program} {l : Launch} {e : Env} {R : Room} {s : State} {args : Array Value} {below : List Frame} {len W : Nat} {Z : State} {a0 : Array Value} {h : Heap} (hZ : Z.Warmed39 s.vm) (hw : ∀ d ∈ words, d.before a0 Z = true) {kI : Nat} (wi : (Jvm.Cond.instantiable ST kI).before a0 Z = true)
    {x b : Addr} {k : ClassId} {zn z : Int32} {cs : List Int32} {dv v0 c0 : Value} (E : RoadKit.Exa Z h x ST) (V : RoadKit.Fld Z h x ST "value" "[B" v0) (C : RoadKit.Fld Z h x ST "coder" "B" c0) (K : RoadKit.Arv Z h b k .char zn (cs.map Value.int) dv) (S : RoadKit.Sta Z h ST "COMPACT_STRINGS" "Z" (.int z)) (hz : ¬ z = 0)
    (hlen : zn.toNatClampNeg = cs.length) (h0 : 0 < cs.length) (hbig : cs.length ≤ 536870912) (hall : ∀ c ∈ cs, ¬ 255 < c) (hfr : 4 ≤ R.frames) (hlo : W + 65 ≤ R.locals) :
    Back l R p e below s args New1.yN len W (fun P a => a = #[.ref x, .ref b] ∧ P.U.heap = h ∧ P.cells + 1 ≤ R.cells ∧ P.slots + cs.length ≤ R.slots)
      (fun P _ v B => ∃ L, QA Z x zn cs h v B.U.heap L ∧ B.locs = P.locs ++ L ∧ B.cells = P.cells + 1 ∧ B.slots = P.slots + cs.length) := by
  obtain ⟨A, K1, K2, K3, K4, K5, K6⟩ := K
  have e : A.slots.size = cs.length := K3.trans hlen
  have hat : ∀ (i : Nat) (hi : i < cs.length), A.slots[i]? = some (.int cs[i]) := fun i hi => by rw [K5 i (by omega)]; simp [List.getD_eq_getElem?_getD, hi]
  have hcv : ∀ (i : Nat) (hi : i < cs.length), cv A i = cs[i] := fun i hi => by unfold cv; rw [hat i hi]
  have hty : Typed .char A := fun i v hv => by
    have hi : i < A.slots.size := (Array.getElem?_eq_some_iff.mp hv).1
    have q := K5 i hi
    rw [hv] at q
    rw [Option.some.inj q]
    exact K6 i hi
  refine Back.mono (back hZ hw wi E V C K1 hty S hz (by omega) (by omega) (fun i hi => by rw [hcv i (by omega)]; exact hall _ (List.getElem_mem _)) hfr hlo) (fun P a hp => ⟨hp.1, hp.2.1, hp.2.2.1, by rw [e]; exact hp.2.2.2⟩) (fun P a v B hp hq => ?_)
  obtain ⟨L, ⟨q1, q2, q3, q4, q5, q6, q7, ⟨V', v1, v2, v3, v4, v5⟩, q9⟩, hl, hc, hs⟩ := hq
  refine ⟨L, ⟨q1, q2, q3, q4, q5, q6, q7, ⟨V'.cls, v3, V', v1, rfl, by rw [v4, e, hlen], K4, fun i hi => ?_, fun i hi => ?_⟩, q9⟩, hl, hc, by rw [hs, e]⟩
  · have hi' : i < cs.length := by omega
    rw [v5 i (by omega), hcv i hi']; simp [List.getD_eq_getElem?_getD, hi']
  · have hi' : i < cs.length := by omega
    simp only [List.getD_eq_getElem?_getD, List.getElem?_map, List.getElem?_eq_getElem hi', Option.map_some, Option.getD_some]
    exact fits_lo8 _
end StrChars.Road
namespace StrChars.Road
open Jvm Sem ClassFile Op Lib Jvm.Stand Jvm.Free Jvm.Free.XT
/-- WHAT COMES BACK, in the writer's own shape -/
def QV (Z : State) (x : Addr) (N : Int32) (bs : List Int32) (h : Heap) (n0 : Nat) (v : Option Value) (h' : Heap) (L : List Loc) : Prop := v = none ∧ RoadKit.Fr n0 L ∧ RoadKit.Keep h h' [x] ∧ RoadKit.Exa Z h' x ST ∧ RoadKit.Fld Z h' x ST "coder" "B" (.int 0) ∧
  ∃ (t : Addr) (kb : ClassId), n0 ≤ t ∧ h.size ≤ t ∧ ¬ t = x ∧ RoadKit.Fld Z h' x ST "value" "[B" (.ref t) ∧ RoadKit.Arv Z h' t kb .byte N (bs.map Value.int) (.int 0)
/-- **new String(chars) AT A CALL, FOR THE WRITER**: a char[] of n known ints, each 0 to 255 -/
theorem backV {p : Program} {l : Launch} {e : Env} {R : Room} {s : State} {args : Array Value} {below : List Frame} {len W : Nat} {Z : State} {a0 : Array Value} {h : Heap} (hZ : Z.Warmed39 s.vm) (hw : ∀ d ∈ words, d.before a0 Z = true) {kI : Nat} (wi : (Jvm.Cond.instantiable ST kI).before a0 Z = true)
    {x b : Addr} {kC : ClassId} {cs bs : List Int32} {d v0 c0 : Value} {z N : Int32} {n n0 : Nat} (hx0 : n0 ≤ x) (hh0 : n0 ≤ h.size) (E : RoadKit.Exa Z h x ST) (V : RoadKit.Fld Z h x ST "value" "[B" v0) (C : RoadKit.Fld Z h x ST "coder" "B" c0) (K : RoadKit.Arv Z h b kC .char N (cs.map Value.int) d) (S : RoadKit.Sta Z h ST "COMPACT_STRINGS" "Z" (.int z)) (hz : ¬ z = 0)
    (hn : cs.length = n) (hN : N = Int32.ofNat n) (l0 : 0 < n) (l2 : n ≤ 4000) (hp : ∀ c ∈ cs, ¬ c < 0 ∧ ¬ (255 : Int32) < c) (hb : bs = cs.map (fun c => c.toInt8.toInt32)) (hfr : 4 ≤ R.frames) (hlo : W + 65 ≤ R.locals) :
    Back l R p e below s args (⟨"java/lang/String", "<init>", "([C)V"⟩ : MethodName) len W (fun P a => a = #[.ref x, .ref b] ∧ P.U.heap = h ∧ P.cells + 1 ≤ R.cells ∧ P.slots + n ≤ R.slots)
      (fun P _ v B => ∃ L, QV Z x N bs h n0 v B.U.heap L ∧ B.locs = P.locs ++ L ∧ B.cells = P.cells + 1 ∧ B.slots = P.slots + n) := by
  subst hn hN hb
  refine Back.mono (backArv hZ hw wi E V C K S hz (n32 (by omega)) l0 (by omega) (fun c hc => (hp c hc).2) hfr hlo) (fun P a hp => hp) (fun P a v B hp hq => ?_)
  obtain ⟨L, ⟨q1, q2, q3, q4, q5, q6, q7, ⟨kb, v1, v2⟩, q9⟩, hl, hc, hs⟩ := hq
  exact ⟨L, ⟨q1, fun y hy => by rw [q2 y hy]; exact hx0, q3, q5, q7, h.size, kb, hh0, Nat.le_refl _, Nat.ne_of_gt E.lt, q6, by rw [List.map_map]; exact v2⟩, hl, hc, hs⟩
end StrChars.Road
end Jvm.Pilot.@@N@@
namespace Jvm.Pilot.@@N@@
open Jvm Jvm.ClassFile Sem Op Lib Jvm.Free Jvm.Stand Jvm.LawKit Jvm.RoadKit Bundle Jvm.Pilot.@@N@@.Jvm.D
namespace Wk
open Jvm Jvm.ClassFile Sem Op Lib Jvm.Free Jvm.Stand Jvm.LawKit Jvm.RoadKit
/-- the fixed part of a walk: program, environment, the state at the invocation, the method, its arguments, the frames below, the method's record, its code -/
abbrev Wd : Type := Program × Env × State × MethodId × Array Value × List Frame × Method × Code
abbrev Wd.p (W : Wd) : Program := W.1
abbrev Wd.e (W : Wd) : Env := W.2.1
abbrev Wd.s (W : Wd) : State := W.2.2.1
abbrev Wd.m (W : Wd) : MethodId := W.2.2.2.1
abbrev Wd.a (W : Wd) : Array Value := W.2.2.2.2.1
abbrev Wd.b (W : Wd) : List Frame := W.2.2.2.2.2.1
abbrev Wd.t (W : Wd) : Method := W.2.2.2.2.2.2.1
abbrev Wd.c (W : Wd) : Code := W.2.2.2.2.2.2.2
abbrev Post : Type := Option Value → Heap → Prop
def Go (R : Room) (Z : State) (W : Wd) (Q : Post) (A : State) : Prop :=
  ∃ s₂ o, Steps W.p.tables W.e W.b A s₂ ∧ s₂.status = .running ∧ Ended s₂ W.b o ∧ ∃ v L, o = .returned v ∧ (Q v s₂.heap ∧ Ext Z.heap s₂.heap ∧ Fr Z.heap.size L) ∧ FrameEnd W.s o s₂ L R.cells R.slots
abbrev Std (l : Launch) (R : Room) (W : Wd) (T : State) (locs : List Loc) (k n : Nat) : Prop := Stand W.p l W.e R W.s W.m W.a W.b W.t W.c T locs k n
def Run (l : Launch) (R : Room) (Z : State) (W : Wd) (Q : Post) (h : Heap) (k n : Nat) (f : JFrame) : Prop :=
  ∀ T locs, Std l R W T locs k n → T.heap = h → Fr Z.heap.size locs → Ext Z.heap h → Go R Z W Q (T.setTop f)
def Cx (Z : State) (W : Wd) (own nm : String) (code : ByteArray) (maxL : Nat) (ret : Option FieldType) : Prop :=
  W.p.tables.exec = Jvm.exec ∧ W.c.code = code ∧ W.c.maxLocals = maxL ∧ W.s.vm.findClass own = some W.m.cls ∧ Z.Warmed39 W.s.vm ∧ W.t.sig.returnType = ret ∧ W.t.name = nm ∧ W.t.locks = false
section Kit
variable {l : Launch} {R : Room} {Z : State} {W : Wd} {Q : Post} {h : Heap} {k n : Nat} {own nm : String} {code : ByteArray} {maxL : Nat} {ret : Option FieldType} {a0 : Array Value} {pc pc' : Nat} {Ls : Array Slot} {st : List Value}
theorem Cx.hx (C : Cx Z W own nm code maxL ret) : W.p.tables.exec = Jvm.exec := C.1
theorem Cx.hb (C : Cx Z W own nm code maxL ret) {pc : Nat} {r : Except ClassFile.DecodeError (ClassFile.Instr × Nat)} (h2 : decode code pc = r) : decode W.c.code pc = r := C.2.1 ▸ h2
theorem Cx.ow (C : Cx Z W own nm code maxL ret) : W.s.vm.findClass own = some W.m.cls := C.2.2.2.1
theorem Cx.hZ (C : Cx Z W own nm code maxL ret) : Z.Warmed39 W.s.vm := C.2.2.2.2.1
theorem Cx.ml (C : Cx Z W own nm code maxL ret) : W.c.maxLocals = maxL := C.2.2.1
theorem Cx.rt (C : Cx Z W own nm code maxL ret) : W.t.sig.returnType = ret := C.2.2.2.2.2.1
theorem Cx.nme (C : Cx Z W own nm code maxL ret) : W.t.name = nm := C.2.2.2.2.2.2.1
theorem Cx.lk (C : Cx Z W own nm code maxL ret) : W.t.locks = false := C.2.2.2.2.2.2.2
theorem old_of (O : Ext Z.heap h) : Old Z Z.heap.size h := ⟨rfl, O⟩
theorem Go.step {A B : State} (f : ∀ t, Steps W.p.tables W.e W.b B t → Steps W.p.tables W.e W.b A t) (g : Go R Z W Q B) : Go R Z W Q A := by
  obtain ⟨t, o, h1, r⟩ := g
  exact ⟨t, o, f t h1, r⟩
theorem Run.one {g g' : JFrame} (f : ∀ T locs, Std l R W T locs k n → T.heap = h → ∀ t, Steps W.p.tables W.e W.b (T.setTop g') t → Steps W.p.tables W.e W.b (T.setTop g) t) (r : Run l R Z W Q h k n g') : Run l R Z W Q h k n g :=
  fun T locs X eT N O => Go.step (f T locs X eT) (r T locs X eT N O)
theorem Run.old {f : JFrame} (r : Ext Z.heap h → Run l R Z W Q h k n f) : Run l R Z W Q h k n f := fun T locs X eT N O => r O T locs X eT N O
theorem iloadN (C : Cx Z W own nm code maxL ret) {i : Fin 4} {v : Int32} (hd : decode code pc = .ok (.iload_n i, 1)) (hl : Ls[i.val]? = some (.val (.int v))) (hp : pc + 1 = pc')
    (r : Run l R Z W Q h k n (mkF W.m pc' Ls (.int v :: st))) : Run l R Z W Q h k n (mkF W.m pc Ls (st)) := by
  subst hp
  exact Run.one (fun T locs X _ t g => XS.iloadN X.here C.hx rfl (C.hb hd) hl g) r
theorem iload (C : Cx Z W own nm code maxL ret) {i : Nat} {v : Int32} (hd : decode code pc = .ok (.iload i, 2)) (hl : Ls[i]? = some (.val (.int v))) (hp : pc + 2 = pc')
    (r : Run l R Z W Q h k n (mkF W.m pc' Ls (.int v :: st))) : Run l R Z W Q h k n (mkF W.m pc Ls (st)) := by
  subst hp
  exact Run.one (fun T locs X _ t g => XS.iload X.here C.hx rfl (C.hb hd) hl g) r
theorem lloadN (C : Cx Z W own nm code maxL ret) {i : Fin 4} {v : Int64} (hd : decode code pc = .ok (.lload_n i, 1)) (hl : Ls[i.val]? = some (.val (.long v))) (hp : pc + 1 = pc')
    (r : Run l R Z W Q h k n (mkF W.m pc' Ls (.long v :: st))) : Run l R Z W Q h k n (mkF W.m pc Ls (st)) := by
  subst hp
  exact Run.one (fun T locs X _ t g => XS.lloadN X.here C.hx rfl (C.hb hd) hl g) r
theorem lload (C : Cx Z W own nm code maxL ret) {i : Nat} {v : Int64} (hd : decode code pc = .ok (.lload i, 2)) (hl : Ls[i]? = some (.val (.long v))) (hp : pc + 2 = pc')
    (r : Run l R Z W Q h k n (mkF W.m pc' Ls (.long v :: st))) : Run l R Z W Q h k n (mkF W.m pc Ls (st)) := by
  subst hp
  exact Run.one (fun T locs X _ t g => XS.lload X.here C.hx rfl (C.hb hd) hl g) r
theorem aloadN (C : Cx Z W own nm code maxL ret) {i : Fin 4} {v : Value} (hd : decode code pc = .ok (.aload_n i, 1)) (hl : Ls[i.val]? = some (.val v)) (hv : v.isRef = true) (hp : pc + 1 = pc')
    (r : Run l R Z W Q h k n (mkF W.m pc' Ls (v :: st))) : Run l R Z W Q h k n (mkF W.m pc Ls (st)) := by
  subst hp
  exact Run.one (fun T locs X _ t g => XS.aloadN X.here C.hx rfl (C.hb hd) hl hv g) r
theorem aload (C : Cx Z W own nm code maxL ret) {i : Nat} {v : Value} (hd : decode code pc = .ok (.aload i, 2)) (hl : Ls[i]? = some (.val v)) (hv : v.isRef = true) (hp : pc + 2 = pc')
    (r : Run l R Z W Q h k n (mkF W.m pc' Ls (v :: st))) : Run l R Z W Q h k n (mkF W.m pc Ls (st)) := by
  subst hp
  exact Run.one (fun T locs X _ t g => XS.aload X.here C.hx rfl (C.hb hd) hl hv g) r
theorem istoreN (C : Cx Z W own nm code maxL ret) {i : Fin 4} {v : Int32} {Ls' : Array Slot} (hd : decode code pc = .ok (.istore_n i, 1)) (hl : storeLocals Ls i.val (.int v) = some Ls') (hp : pc + 1 = pc')
    (r : Run l R Z W Q h k n (mkF W.m pc' Ls' (st))) : Run l R Z W Q h k n (mkF W.m pc Ls (.int v :: st)) := by
  subst hp
  exact Run.one (fun T locs X _ t g => XS.istoreN X.here C.hx rfl (C.hb hd) rfl hl g) r
theorem istore (C : Cx Z W own nm code maxL ret) {i : Nat} {v : Int32} {Ls' : Array Slot} (hd : decode code pc = .ok (.istore i, 2)) (hl : storeLocals Ls i (.int v) = some Ls') (hp : pc + 2 = pc')
    (r : Run l R Z W Q h k n (mkF W.m pc' Ls' (st))) : Run l R Z W Q h k n (mkF W.m pc Ls (.int v :: st)) := by
  subst hp
  exact Run.one (fun T locs X _ t g => XS.istore X.here C.hx rfl (C.hb hd) rfl hl g) r
theorem lstore (C : Cx Z W own nm code maxL ret) {i : Nat} {v : Int64} {Ls' : Array Slot} (hd : decode code pc = .ok (.lstore i, 2)) (hl : storeLocals Ls i (.long v) = some Ls') (hp : pc + 2 = pc')
    (r : Run l R Z W Q h k n (mkF W.m pc' Ls' (st))) : Run l R Z W Q h k n (mkF W.m pc Ls (.long v :: st)) := by
  subst hp
  exact Run.one (fun T locs X _ t g => XS.lstore X.here C.hx rfl (C.hb hd) rfl hl g) r
theorem astoreN (C : Cx Z W own nm code maxL ret) {i : Fin 4} {v : Value} {Ls' : Array Slot} (hd : decode code pc = .ok (.astore_n i, 1)) (hv : v.isRef = true) (hl : storeLocals Ls i.val v = some Ls') (hp : pc + 1 = pc')
    (r : Run l R Z W Q h k n (mkF W.m pc' Ls' (st))) : Run l R Z W Q h k n (mkF W.m pc Ls (v :: st)) := by
  subst hp
  exact Run.one (fun T locs X _ t g => XS.astoreN X.here C.hx rfl (C.hb hd) rfl hv hl g) r
theorem astore (C : Cx Z W own nm code maxL ret) {i : Nat} {v : Value} {Ls' : Array Slot} (hd : decode code pc = .ok (.astore i, 2)) (hv : v.isRef = true) (hl : storeLocals Ls i v = some Ls') (hp : pc + 2 = pc')
    (r : Run l R Z W Q h k n (mkF W.m pc' Ls' (st))) : Run l R Z W Q h k n (mkF W.m pc Ls (v :: st)) := by
  subst hp
  exact Run.one (fun T locs X _ t g => XS.astore X.here C.hx rfl (C.hb hd) rfl hv hl g) r
theorem iconst (C : Cx Z W own nm code maxL ret) {i : Int} {v : Int32} (hd : decode code pc = .ok (.iconst i, 1)) (hv : Int32.ofInt i = v) (hp : pc + 1 = pc')
    (r : Run l R Z W Q h k n (mkF W.m pc' Ls (.int v :: st))) : Run l R Z W Q h k n (mkF W.m pc Ls (st)) := by
  subst hp
  exact Run.one (fun T locs X _ t g => XS.iconst X.here C.hx rfl (C.hb hd) (hv ▸ g)) r
theorem bipush (C : Cx Z W own nm code maxL ret) {i : Int} {v : Int32} (hd : decode code pc = .ok (.bipush i, 2)) (hv : (Int8.ofInt i).toInt32 = v) (hp : pc + 2 = pc')
    (r : Run l R Z W Q h k n (mkF W.m pc' Ls (.int v :: st))) : Run l R Z W Q h k n (mkF W.m pc Ls (st)) := by
  subst hp
  exact Run.one (fun T locs X _ t g => XS.bipush X.here C.hx rfl (C.hb hd) (hv ▸ g)) r
theorem sipush (C : Cx Z W own nm code maxL ret) {i : Int} {v : Int32} (hd : decode code pc = .ok (.sipush i, 3)) (hv : (Int16.ofInt i).toInt32 = v) (hp : pc + 3 = pc')
    (r : Run l R Z W Q h k n (mkF W.m pc' Ls (.int v :: st))) : Run l R Z W Q h k n (mkF W.m pc Ls (st)) := by
  subst hp
  exact Run.one (fun T locs X _ t g => XS.sipush X.here C.hx rfl (C.hb hd) (hv ▸ g)) r
theorem aconstNull (C : Cx Z W own nm code maxL ret)  (hd : decode code pc = .ok (.aconst_null, 1)) (hp : pc + 1 = pc')
    (r : Run l R Z W Q h k n (mkF W.m pc' Ls (.null :: st))) : Run l R Z W Q h k n (mkF W.m pc Ls (st)) := by
  subst hp
  exact Run.one (fun T locs X _ t g => XS.aconstNull X.here C.hx rfl (C.hb hd) g) r
theorem iadd (C : Cx Z W own nm code maxL ret) {x y v : Int32} (hd : decode code pc = .ok (.iadd, 1)) (hv : x + y = v) (hp : pc + 1 = pc')
    (r : Run l R Z W Q h k n (mkF W.m pc' Ls (.int v :: st))) : Run l R Z W Q h k n (mkF W.m pc Ls (.int y :: .int x :: st)) := by
  subst hp
  exact Run.one (fun T locs X _ t g => XS.iadd X.here C.hx rfl (C.hb hd) rfl (hv ▸ g)) r
theorem isub (C : Cx Z W own nm code maxL ret) {x y v : Int32} (hd : decode code pc = .ok (.isub, 1)) (hv : x - y = v) (hp : pc + 1 = pc')
    (r : Run l R Z W Q h k n (mkF W.m pc' Ls (.int v :: st))) : Run l R Z W Q h k n (mkF W.m pc Ls (.int y :: .int x :: st)) := by
  subst hp
  exact Run.one (fun T locs X _ t g => XS.isub X.here C.hx rfl (C.hb hd) rfl (hv ▸ g)) r
theorem imul (C : Cx Z W own nm code maxL ret) {x y v : Int32} (hd : decode code pc = .ok (.imul, 1)) (hv : x * y = v) (hp : pc + 1 = pc')
    (r : Run l R Z W Q h k n (mkF W.m pc' Ls (.int v :: st))) : Run l R Z W Q h k n (mkF W.m pc Ls (.int y :: .int x :: st)) := by
  subst hp
  exact Run.one (fun T locs X _ t g => XS.imul X.here C.hx rfl (C.hb hd) rfl (hv ▸ g)) r
theorem iand (C : Cx Z W own nm code maxL ret) {x y v : Int32} (hd : decode code pc = .ok (.iand, 1)) (hv : x &&& y = v) (hp : pc + 1 = pc')
    (r : Run l R Z W Q h k n (mkF W.m pc' Ls (.int v :: st))) : Run l R Z W Q h k n (mkF W.m pc Ls (.int y :: .int x :: st)) := by
  subst hp
  exact Run.one (fun T locs X _ t g => XS.iand X.here C.hx rfl (C.hb hd) rfl (hv ▸ g)) r
theorem ior (C : Cx Z W own nm code maxL ret) {x y v : Int32} (hd : decode code pc = .ok (.ior, 1)) (hv : x ||| y = v) (hp : pc + 1 = pc')
    (r : Run l R Z W Q h k n (mkF W.m pc' Ls (.int v :: st))) : Run l R Z W Q h k n (mkF W.m pc Ls (.int y :: .int x :: st)) := by
  subst hp
  exact Run.one (fun T locs X _ t g => XS.ior X.here C.hx rfl (C.hb hd) rfl (hv ▸ g)) r
theorem ladd (C : Cx Z W own nm code maxL ret) {x y v : Int64} (hd : decode code pc = .ok (.ladd, 1)) (hv : x + y = v) (hp : pc + 1 = pc')
    (r : Run l R Z W Q h k n (mkF W.m pc' Ls (.long v :: st))) : Run l R Z W Q h k n (mkF W.m pc Ls (.long y :: .long x :: st)) := by
  subst hp
  exact Run.one (fun T locs X _ t g => XS.ladd X.here C.hx rfl (C.hb hd) rfl (hv ▸ g)) r
theorem land (C : Cx Z W own nm code maxL ret) {x y v : Int64} (hd : decode code pc = .ok (.land, 1)) (hv : x &&& y = v) (hp : pc + 1 = pc')
    (r : Run l R Z W Q h k n (mkF W.m pc' Ls (.long v :: st))) : Run l R Z W Q h k n (mkF W.m pc Ls (.long y :: .long x :: st)) := by
  subst hp
  exact Run.one (fun T locs X _ t g => XS.land X.here C.hx rfl (C.hb hd) rfl (hv ▸ g)) r
theorem idiv (C : Cx Z W own nm code maxL ret) {x y v : Int32} (hd : decode code pc = .ok (.idiv, 1)) (hy : ¬ y = 0) (hv : x / y = v) (hp : pc + 1 = pc')
    (r : Run l R Z W Q h k n (mkF W.m pc' Ls (.int v :: st))) : Run l R Z W Q h k n (mkF W.m pc Ls (.int y :: .int x :: st)) := by
  subst hp
  exact Run.one (fun T locs X _ t g => XS.idiv X.here C.hx rfl (C.hb hd) rfl hy (hv ▸ g)) r
theorem irem (C : Cx Z W own nm code maxL ret) {x y v : Int32} (hd : decode code pc = .ok (.irem, 1)) (hy : ¬ y = 0) (hv : x % y = v) (hp : pc + 1 = pc')
    (r : Run l R Z W Q h k n (mkF W.m pc' Ls (.int v :: st))) : Run l R Z W Q h k n (mkF W.m pc Ls (.int y :: .int x :: st)) := by
  subst hp
  exact Run.one (fun T locs X _ t g => iremM X C.hx rfl (C.hb hd) rfl hy (hv ▸ g)) r
theorem ldiv (C : Cx Z W own nm code maxL ret) {x y v : Int64} (hd : decode code pc = .ok (.ldiv, 1)) (hy : ¬ y = 0) (hv : x / y = v) (hp : pc + 1 = pc')
    (r : Run l R Z W Q h k n (mkF W.m pc' Ls (.long v :: st))) : Run l R Z W Q h k n (mkF W.m pc Ls (.long y :: .long x :: st)) := by
  subst hp
  exact Run.one (fun T locs X _ t g => XT.ldiv X.here C.hx rfl (C.hb hd) rfl hy (hv ▸ g)) r
theorem ishl (C : Cx Z W own nm code maxL ret) {x y v : Int32} (hd : decode code pc = .ok (.ishl, 1)) (hv : x <<< (y &&& 31) = v) (hp : pc + 1 = pc')
    (r : Run l R Z W Q h k n (mkF W.m pc' Ls (.int v :: st))) : Run l R Z W Q h k n (mkF W.m pc Ls (.int y :: .int x :: st)) := by
  subst hp
  exact Run.one (fun T locs X _ t g => XS.ishl X.here C.hx rfl (C.hb hd) rfl (hv ▸ g)) r
theorem ishr (C : Cx Z W own nm code maxL ret) {x y v : Int32} (hd : decode code pc = .ok (.ishr, 1)) (hv : x >>> (y &&& 31) = v) (hp : pc + 1 = pc')
    (r : Run l R Z W Q h k n (mkF W.m pc' Ls (.int v :: st))) : Run l R Z W Q h k n (mkF W.m pc Ls (.int y :: .int x :: st)) := by
  subst hp
  exact Run.one (fun T locs X _ t g => XS.ishr X.here C.hx rfl (C.hb hd) rfl (hv ▸ g)) r
theorem iushr (C : Cx Z W own nm code maxL ret) {x y v : Int32} (hd : decode code pc = .ok (.iushr, 1)) (hv : (x.toUInt32 >>> (y &&& 31).toUInt32).toInt32 = v) (hp : pc + 1 = pc')
    (r : Run l R Z W Q h k n (mkF W.m pc' Ls (.int v :: st))) : Run l R Z W Q h k n (mkF W.m pc Ls (.int y :: .int x :: st)) := by
  subst hp
  exact Run.one (fun T locs X _ t g => XS.iushr X.here C.hx rfl (C.hb hd) rfl (hv ▸ g)) r
theorem lshl (C : Cx Z W own nm code maxL ret) {x : Int64} {y : Int32} {v : Int64} (hd : decode code pc = .ok (.lshl, 1)) (hv : x <<< (y &&& 0x3f).toInt64 = v) (hp : pc + 1 = pc')
    (r : Run l R Z W Q h k n (mkF W.m pc' Ls (.long v :: st))) : Run l R Z W Q h k n (mkF W.m pc Ls (.int y :: .long x :: st)) := by
  subst hp
  exact Run.one (fun T locs X _ t g => XS.lshl X.here C.hx rfl (C.hb hd) rfl (hv ▸ g)) r
theorem lushr (C : Cx Z W own nm code maxL ret) {x : Int64} {y : Int32} {v : Int64} (hd : decode code pc = .ok (.lushr, 1)) (hv : (x.toUInt64 >>> (y &&& 0x3f).toInt64.toUInt64).toInt64 = v) (hp : pc + 1 = pc')
    (r : Run l R Z W Q h k n (mkF W.m pc' Ls (.long v :: st))) : Run l R Z W Q h k n (mkF W.m pc Ls (.int y :: .long x :: st)) := by
  subst hp
  exact Run.one (fun T locs X _ t g => XS.lushr X.here C.hx rfl (C.hb hd) rfl (hv ▸ g)) r
theorem i2l (C : Cx Z W own nm code maxL ret) {x : Int32} {v : Int64} (hd : decode code pc = .ok (.i2l, 1)) (hv : x.toInt64 = v) (hp : pc + 1 = pc')
    (r : Run l R Z W Q h k n (mkF W.m pc' Ls (.long v :: st))) : Run l R Z W Q h k n (mkF W.m pc Ls (.int x :: st)) := by
  subst hp
  exact Run.one (fun T locs X _ t g => XS.i2l X.here C.hx rfl (C.hb hd) rfl (hv ▸ g)) r
theorem l2i (C : Cx Z W own nm code maxL ret) {x : Int64} {v : Int32} (hd : decode code pc = .ok (.l2i, 1)) (hv : x.toInt32 = v) (hp : pc + 1 = pc')
    (r : Run l R Z W Q h k n (mkF W.m pc' Ls (.int v :: st))) : Run l R Z W Q h k n (mkF W.m pc Ls (.long x :: st)) := by
  subst hp
  exact Run.one (fun T locs X _ t g => XS.l2i X.here C.hx rfl (C.hb hd) rfl (hv ▸ g)) r
theorem i2b (C : Cx Z W own nm code maxL ret) {x : Int32} {v : Int32} (hd : decode code pc = .ok (.i2b, 1)) (hv : x.toInt8.toInt32 = v) (hp : pc + 1 = pc')
    (r : Run l R Z W Q h k n (mkF W.m pc' Ls (.int v :: st))) : Run l R Z W Q h k n (mkF W.m pc Ls (.int x :: st)) := by
  subst hp
  exact Run.one (fun T locs X _ t g => XS.i2b X.here C.hx rfl (C.hb hd) rfl (hv ▸ g)) r
theorem i2c (C : Cx Z W own nm code maxL ret) {x : Int32} {v : Int32} (hd : decode code pc = .ok (.i2c, 1)) (hv : x.toUInt32.toUInt16.toUInt32.toInt32 = v) (hp : pc + 1 = pc')
    (r : Run l R Z W Q h k n (mkF W.m pc' Ls (.int v :: st))) : Run l R Z W Q h k n (mkF W.m pc Ls (.int x :: st)) := by
  subst hp
  exact Run.one (fun T locs X _ t g => XS.i2c X.here C.hx rfl (C.hb hd) rfl (hv ▸ g)) r
theorem dup (C : Cx Z W own nm code maxL ret) {v : Value} (hd : decode code pc = .ok (.dup, 1)) (hc : v.category = 1) (hp : pc + 1 = pc')
    (r : Run l R Z W Q h k n (mkF W.m pc' Ls (v :: v :: st))) : Run l R Z W Q h k n (mkF W.m pc Ls (v :: st)) := by
  subst hp
  exact Run.one (fun T locs X _ t g => XS.dup X.here C.hx rfl (C.hb hd) rfl hc g) r
theorem pop (C : Cx Z W own nm code maxL ret) {v : Value} (hd : decode code pc = .ok (.pop, 1)) (hc : v.category = 1) (hp : pc + 1 = pc')
    (r : Run l R Z W Q h k n (mkF W.m pc' Ls (st))) : Run l R Z W Q h k n (mkF W.m pc Ls (v :: st)) := by
  subst hp
  exact Run.one (fun T locs X _ t g => XS.pop X.here C.hx rfl (C.hb hd) rfl hc g) r
theorem iinc (C : Cx Z W own nm code maxL ret) {i : Nat} {d : Int} {x v : Int32} {Ls' : Array Slot} (hd : decode code pc = .ok (.iinc i d, 3)) (hl : Ls[i]? = some (.val (.int x))) (hv : x + Int32.ofInt d = v) (hl' : storeLocals Ls i (.int v) = some Ls') (hp : pc + 3 = pc')
    (r : Run l R Z W Q h k n (mkF W.m pc' Ls' st)) : Run l R Z W Q h k n (mkF W.m pc Ls st) := by
  subst hp hv
  exact Run.one (fun T locs X _ t g => XS.iinc X.here C.hx rfl (C.hb hd) hl hl' g) r
theorem goto (C : Cx Z W own nm code maxL ret) {o : Int} (hd : decode code pc = .ok (.goto o, 3)) (ho : 0 ≤ (pc : Int) + o) (hp : ((pc : Int) + o).toNat = pc')
    (r : Run l R Z W Q h k n (mkF W.m pc' Ls st)) : Run l R Z W Q h k n (mkF W.m pc Ls st) :=
  Run.one (fun T locs X _ t g => XS.goto X.here C.hx rfl rfl (C.hb hd) ho hp g) r
theorem icmp_eq (C : Cx Z W own nm code maxL ret) {x y : Int32} {o : Int} {pcT : Nat} (hd : decode code pc = .ok (.if_icmp .eq o, 3)) (ho : 0 ≤ (pc : Int) + o) (hp : ((pc : Int) + o).toNat = pcT) (hp' : pc + 3 = pc')
    (rt : x = y → Run l R Z W Q h k n (mkF W.m pcT Ls st)) (rf : ¬ x = y → Run l R Z W Q h k n (mkF W.m pc' Ls st)) : Run l R Z W Q h k n (mkF W.m pc Ls (.int y :: .int x :: st)) := by
  subst hp'
  by_cases q : x = y
  · exact Run.one (fun T locs X _ t g => XS.icmpYes X.here C.hx rfl rfl (C.hb hd) rfl (teq q).1 ho hp g) (rt q)
  · exact Run.one (fun T locs X _ t g => XS.icmpNo X.here C.hx rfl (C.hb hd) rfl (feq q).1 g) (rf q)
theorem if_eq (C : Cx Z W own nm code maxL ret) {x : Int32} {o : Int} {pcT : Nat} (hd : decode code pc = .ok (.ifCond .eq o, 3)) (ho : 0 ≤ (pc : Int) + o) (hp : ((pc : Int) + o).toNat = pcT) (hp' : pc + 3 = pc')
    (rt : x = (0 : Int32) → Run l R Z W Q h k n (mkF W.m pcT Ls st)) (rf : ¬ x = (0 : Int32) → Run l R Z W Q h k n (mkF W.m pc' Ls st)) : Run l R Z W Q h k n (mkF W.m pc Ls (.int x :: st)) := by
  subst hp'
  by_cases q : x = (0 : Int32)
  · exact Run.one (fun T locs X _ t g => XS.ifYes X.here C.hx rfl rfl (C.hb hd) rfl ((if0 _ _).trans (teq q).1) ho hp g) (rt q)
  · exact Run.one (fun T locs X _ t g => XS.ifNo X.here C.hx rfl (C.hb hd) rfl ((if0 _ _).trans (feq q).1) g) (rf q)
theorem icmp_ne (C : Cx Z W own nm code maxL ret) {x y : Int32} {o : Int} {pcT : Nat} (hd : decode code pc = .ok (.if_icmp .ne o, 3)) (ho : 0 ≤ (pc : Int) + o) (hp : ((pc : Int) + o).toNat = pcT) (hp' : pc + 3 = pc')
    (rt : ¬ x = y → Run l R Z W Q h k n (mkF W.m pcT Ls st)) (rf : x = y → Run l R Z W Q h k n (mkF W.m pc' Ls st)) : Run l R Z W Q h k n (mkF W.m pc Ls (.int y :: .int x :: st)) := by
  subst hp'
  by_cases q : x = y
  · exact Run.one (fun T locs X _ t g => XS.icmpNo X.here C.hx rfl (C.hb hd) rfl (teq q).2 g) (rf q)
  · exact Run.one (fun T locs X _ t g => XS.icmpYes X.here C.hx rfl rfl (C.hb hd) rfl (feq q).2 ho hp g) (rt q)
theorem if_ne (C : Cx Z W own nm code maxL ret) {x : Int32} {o : Int} {pcT : Nat} (hd : decode code pc = .ok (.ifCond .ne o, 3)) (ho : 0 ≤ (pc : Int) + o) (hp : ((pc : Int) + o).toNat = pcT) (hp' : pc + 3 = pc')
    (rt : ¬ x = (0 : Int32) → Run l R Z W Q h k n (mkF W.m pcT Ls st)) (rf : x = (0 : Int32) → Run l R Z W Q h k n (mkF W.m pc' Ls st)) : Run l R Z W Q h k n (mkF W.m pc Ls (.int x :: st)) := by
  subst hp'
  by_cases q : x = (0 : Int32)
  · exact Run.one (fun T locs X _ t g => XS.ifNo X.here C.hx rfl (C.hb hd) rfl ((if0 _ _).trans (teq q).2) g) (rf q)
  · exact Run.one (fun T locs X _ t g => XS.ifYes X.here C.hx rfl rfl (C.hb hd) rfl ((if0 _ _).trans (feq q).2) ho hp g) (rt q)
theorem icmp_lt (C : Cx Z W own nm code maxL ret) {x y : Int32} {o : Int} {pcT : Nat} (hd : decode code pc = .ok (.if_icmp .lt o, 3)) (ho : 0 ≤ (pc : Int) + o) (hp : ((pc : Int) + o).toNat = pcT) (hp' : pc + 3 = pc')
    (rt : x < y → Run l R Z W Q h k n (mkF W.m pcT Ls st)) (rf : ¬ x < y → Run l R Z W Q h k n (mkF W.m pc' Ls st)) : Run l R Z W Q h k n (mkF W.m pc Ls (.int y :: .int x :: st)) := by
  subst hp'
  by_cases q : x < y
  · exact Run.one (fun T locs X _ t g => XS.icmpYes X.here C.hx rfl rfl (C.hb hd) rfl (tlt q).1 ho hp g) (rt q)
  · exact Run.one (fun T locs X _ t g => XS.icmpNo X.here C.hx rfl (C.hb hd) rfl (flt q).1 g) (rf q)
theorem if_lt (C : Cx Z W own nm code maxL ret) {x : Int32} {o : Int} {pcT : Nat} (hd : decode code pc = .ok (.ifCond .lt o, 3)) (ho : 0 ≤ (pc : Int) + o) (hp : ((pc : Int) + o).toNat = pcT) (hp' : pc + 3 = pc')
    (rt : x < (0 : Int32) → Run l R Z W Q h k n (mkF W.m pcT Ls st)) (rf : ¬ x < (0 : Int32) → Run l R Z W Q h k n (mkF W.m pc' Ls st)) : Run l R Z W Q h k n (mkF W.m pc Ls (.int x :: st)) := by
  subst hp'
  by_cases q : x < (0 : Int32)
  · exact Run.one (fun T locs X _ t g => XS.ifYes X.here C.hx rfl rfl (C.hb hd) rfl ((if0 _ _).trans (tlt q).1) ho hp g) (rt q)
  · exact Run.one (fun T locs X _ t g => XS.ifNo X.here C.hx rfl (C.hb hd) rfl ((if0 _ _).trans (flt q).1) g) (rf q)
theorem icmp_ge (C : Cx Z W own nm code maxL ret) {x y : Int32} {o : Int} {pcT : Nat} (hd : decode code pc = .ok (.if_icmp .ge o, 3)) (ho : 0 ≤ (pc : Int) + o) (hp : ((pc : Int) + o).toNat = pcT) (hp' : pc + 3 = pc')
    (rt : ¬ x < y → Run l R Z W Q h k n (mkF W.m pcT Ls st)) (rf : x < y → Run l R Z W Q h k n (mkF W.m pc' Ls st)) : Run l R Z W Q h k n (mkF W.m pc Ls (.int y :: .int x :: st)) := by
  subst hp'
  by_cases q : x < y
  · exact Run.one (fun T locs X _ t g => XS.icmpNo X.here C.hx rfl (C.hb hd) rfl (tlt q).2.1 g) (rf q)
  · exact Run.one (fun T locs X _ t g => XS.icmpYes X.here C.hx rfl rfl (C.hb hd) rfl (flt q).2.1 ho hp g) (rt q)
theorem if_ge (C : Cx Z W own nm code maxL ret) {x : Int32} {o : Int} {pcT : Nat} (hd : decode code pc = .ok (.ifCond .ge o, 3)) (ho : 0 ≤ (pc : Int) + o) (hp : ((pc : Int) + o).toNat = pcT) (hp' : pc + 3 = pc')
    (rt : ¬ x < (0 : Int32) → Run l R Z W Q h k n (mkF W.m pcT Ls st)) (rf : x < (0 : Int32) → Run l R Z W Q h k n (mkF W.m pc' Ls st)) : Run l R Z W Q h k n (mkF W.m pc Ls (.int x :: st)) := by
  subst hp'
  by_cases q : x < (0 : Int32)
  · exact Run.one (fun T locs X _ t g => XS.ifNo X.here C.hx rfl (C.hb hd) rfl ((if0 _ _).trans (tlt q).2.1) g) (rf q)
  · exact Run.one (fun T locs X _ t g => XS.ifYes X.here C.hx rfl rfl (C.hb hd) rfl ((if0 _ _).trans (flt q).2.1) ho hp g) (rt q)
theorem icmp_gt (C : Cx Z W own nm code maxL ret) {x y : Int32} {o : Int} {pcT : Nat} (hd : decode code pc = .ok (.if_icmp .gt o, 3)) (ho : 0 ≤ (pc : Int) + o) (hp : ((pc : Int) + o).toNat = pcT) (hp' : pc + 3 = pc')
    (rt : y < x → Run l R Z W Q h k n (mkF W.m pcT Ls st)) (rf : ¬ y < x → Run l R Z W Q h k n (mkF W.m pc' Ls st)) : Run l R Z W Q h k n (mkF W.m pc Ls (.int y :: .int x :: st)) := by
  subst hp'
  by_cases q : y < x
  · exact Run.one (fun T locs X _ t g => XS.icmpYes X.here C.hx rfl rfl (C.hb hd) rfl (tlt q).2.2.1 ho hp g) (rt q)
  · exact Run.one (fun T locs X _ t g => XS.icmpNo X.here C.hx rfl (C.hb hd) rfl (flt q).2.2.1 g) (rf q)
theorem icmp_le (C : Cx Z W own nm code maxL ret) {x y : Int32} {o : Int} {pcT : Nat} (hd : decode code pc = .ok (.if_icmp .le o, 3)) (ho : 0 ≤ (pc : Int) + o) (hp : ((pc : Int) + o).toNat = pcT) (hp' : pc + 3 = pc')
    (rt : ¬ y < x → Run l R Z W Q h k n (mkF W.m pcT Ls st)) (rf : y < x → Run l R Z W Q h k n (mkF W.m pc' Ls st)) : Run l R Z W Q h k n (mkF W.m pc Ls (.int y :: .int x :: st)) := by
  subst hp'
  by_cases q : y < x
  · exact Run.one (fun T locs X _ t g => XS.icmpNo X.here C.hx rfl (C.hb hd) rfl (tlt q).2.2.2 g) (rf q)
  · exact Run.one (fun T locs X _ t g => XS.icmpYes X.here C.hx rfl rfl (C.hb hd) rfl (flt q).2.2.2 ho hp g) (rt q)
theorem ifnonnullY (C : Cx Z W own nm code maxL ret) {o : Int} {b : Addr} (hd : decode code pc = .ok (.ifnonnull o, 3)) (ho : 0 ≤ (pc : Int) + o) (hp : ((pc : Int) + o).toNat = pc') (r : Run l R Z W Q h k n (mkF W.m pc' Ls st)) : Run l R Z W Q h k n (mkF W.m pc Ls (.ref b :: st)) :=
  Run.one (fun T locs X _ t g => XS.ifnonnullYes X.here C.hx rfl rfl (C.hb hd) rfl ho hp g) r
theorem acmp_ne (C : Cx Z W own nm code maxL ret) {o : Int} {x y : Value} {pcT : Nat} (hd : decode code pc = .ok (.if_acmp .ne o, 3)) (hx' : x.isRef = true) (hy' : y.isRef = true) (ho : 0 ≤ (pc : Int) + o) (hp : ((pc : Int) + o).toNat = pcT) (hp' : pc + 3 = pc')
    (rt : ¬ x = y → Run l R Z W Q h k n (mkF W.m pcT Ls st)) (rf : x = y → Run l R Z W Q h k n (mkF W.m pc' Ls st)) : Run l R Z W Q h k n (mkF W.m pc Ls (y :: x :: st)) := by
  subst hp'
  by_cases q : x = y
  · exact Run.one (fun T locs X _ t g => XT.acmpNo X.here C.hx rfl (C.hb hd) rfl hx' hy' (XT.aa_ne_f q) g) (rf q)
  · exact Run.one (fun T locs X _ t g => XT.acmpYes X.here C.hx rfl rfl (C.hb hd) rfl hx' hy' (XT.aa_ne_t q) ho hp g) (rt q)
theorem ldcI (C : Cx Z W own nm code maxL ret) {ix : Nat} {v : Int32} (hd : decode code pc = .ok (.ldc ix, 2)) (w : (Cond.constant own ix v).before a0 Z = true) (hp : pc + 2 = pc') (r : Run l R Z W Q h k n (mkF W.m pc' Ls (.int v :: st))) : Run l R Z W Q h k n (mkF W.m pc Ls st) := by
  subst hp
  exact Run.one (fun T locs X _ t g => X.ldcInt C.hx C.ow (mvT C.hZ w) (g := mkF W.m pc Ls st) rfl (C.hb hd) t g) r
theorem ldc2J (C : Cx Z W own nm code maxL ret) {ix : Nat} {v : Int64} (hd : decode code pc = .ok (.ldc2_w ix, 3)) (w : (Cond.constantLong own ix v).before a0 Z = true) (hp : pc + 3 = pc') (r : Run l R Z W Q h k n (mkF W.m pc' Ls (.long v :: st))) : Run l R Z W Q h k n (mkF W.m pc Ls st) := by
  subst hp
  exact Run.one (fun T locs X _ t g => X.ldc2Long C.hx C.ow (mvT C.hZ w) (g := mkF W.m pc Ls st) rfl (C.hb hd) t g) r
theorem Run.via {g g' : JFrame} (f : ∀ T locs, Std l R W T locs k n → T.heap = h → ∃ T', Std l R W T' locs k n ∧ T'.heap = h ∧ ∀ t, Steps W.p.tables W.e W.b (T'.setTop g') t → Steps W.p.tables W.e W.b (T.setTop g) t) (r : Run l R Z W Q h k n g') : Run l R Z W Q h k n g :=
  fun T locs X eT N O => by
    obtain ⟨T', X', e', s'⟩ := f T locs X eT
    exact Go.step s' (r T' locs X' e' N O)
theorem getF (C : Cx Z W own nm code maxL ret) {R0 O nmF d : String} {ix : Nat} (hd : decode code pc = .ok (.getfield ix, 3)) (w : (Cond.fieldLink own ix R0 nmF d).before a0 Z = true) (via : Via Z R0 O nmF d) {a : Addr} {v : Value} (F : Fld Z h a O nmF d v) (hp : pc + 3 = pc')
    (r : Run l R Z W Q h k n (mkF W.m pc' Ls (v :: st))) : Run l R Z W Q h k n (mkF W.m pc Ls (.ref a :: st)) := by
  subst hp
  exact Run.via (fun T locs X eT => RoadKit.getF X C.hx C.hZ C.ow (host := "") (Or.inl w) via eT F (g := mkF W.m pc Ls (.ref a :: st)) rfl rfl (C.hb hd)) r
theorem getS (C : Cx Z W own nm code maxL ret) {R0 O nmF d : String} {ix : Nat} (hd : decode code pc = .ok (.getstatic ix, 3)) (w : (Cond.fieldLink own ix R0 nmF d).before a0 Z = true) (via : Via Z R0 O nmF d) {v : Value} (F : Sta Z h O nmF d v) (hp : pc + 3 = pc')
    (r : Run l R Z W Q h k n (mkF W.m pc' Ls (v :: st))) : Run l R Z W Q h k n (mkF W.m pc Ls st) := by
  subst hp
  exact Run.via (fun T locs X eT => getS2 X C.hx C.hZ C.ow (host := "") (Or.inl w) via eT F (g := mkF W.m pc Ls st) rfl (C.hb hd)) r
theorem castY (C : Cx Z W own nm code maxL ret) {K : String} {ix : Nat} (hd : decode code pc = .ok (.checkcast ix, 3)) (w : (Cond.classLink own ix K).before a0 Z = true) {a : Addr} (F : Ins Z h a K true) (hp : pc + 3 = pc')
    (r : Run l R Z W Q h k n (mkF W.m pc' Ls (.ref a :: st))) : Run l R Z W Q h k n (mkF W.m pc Ls (.ref a :: st)) := by
  subst hp
  exact Run.via (fun T locs X eT => RoadKit.castY X C.hx C.hZ C.ow w eT F (g := mkF W.m pc Ls (.ref a :: st)) rfl rfl (C.hb hd)) r
/-- an array as a list: its kind, its length, its elements -/
def Ary (Z : State) (h : Heap) (a : Addr) (ty : FieldType) (vs : List Value) : Prop := ∃ c : Cell, Arr Z h a c ty ∧ c.slots = vs.toArray ∧ vs.length < 2 ^ 31 ∧ ∀ v ∈ vs, fits ty v = true
theorem Ary.lt {a : Addr} {ty : FieldType} {vs : List Value} (F : Ary Z h a ty vs) : a < h.size := by obtain ⟨c, A, -⟩ := F; exact A.lt
theorem Ary.ext {h' : Heap} {a : Addr} {ty : FieldType} {vs : List Value} (F : Ary Z h a ty vs) (E : Ext h h') : Ary Z h' a ty vs := by obtain ⟨c, A, r⟩ := F; exact ⟨c, A.ext E, r⟩
theorem Ary.other {h' : Heap} {a b : Addr} {sl : Nat} {v : Value} {ty : FieldType} {vs : List Value} (F : Ary Z h b ty vs) (X : Wr h h' a sl v) (q : b ≠ a) : Ary Z h' b ty vs := by obtain ⟨c, A, r⟩ := F; exact ⟨c, A.other X q, r⟩
theorem Ary.keep {h' : Heap} {a : Addr} {ws : List Addr} {ty : FieldType} {vs : List Value} (F : Ary Z h a ty vs) (K : Keep h h' ws) (q : a ∉ ws) : Ary Z h' a ty vs := by obtain ⟨c, A, r⟩ := F; exact ⟨c, ⟨K.2.1 a c A.1 q, A.2⟩, r⟩
theorem Ary.set {h' : Heap} {a : Addr} {i : Nat} {v : Value} {ty : FieldType} {vs : List Value} (F : Ary Z h a ty vs) (X : Wr h h' a i v) (hv : fits ty v = true) : Ary Z h' a ty (vs.set i v) := by
  obtain ⟨c, A, e, q, f⟩ := F
  refine ⟨_, A.same X, ?_, by simpa using q, fun w hw => ?_⟩
  · show (c.slots.setIfInBounds i v) = _
    rw [e]; simp
  · rcases List.mem_or_eq_of_mem_set hw with hw | rfl
    · exact f w hw
    · exact hv
theorem Ary.inb {a : Addr} {ty : FieldType} {vs : List Value} {c : Cell} {j : Int32} (e : c.slots = vs.toArray) (h0 : ¬ j < 0) (h1 : j.toNatClampNeg < vs.length) : ¬ (j < 0 ∨ c.slots.size ≤ j.toNatClampNeg) := by
  rw [e]
  rintro (q | q)
  · exact h0 q
  · simp at q; omega
theorem Ary.arv {a : Addr} {ty : FieldType} {vs : List Value} {d : Value} (F : Ary Z h a ty vs) : ∃ kc, Arv Z h a kc ty (Int32.ofNat vs.length) vs d := by
  obtain ⟨c, A, e, q, f⟩ := F
  have hn : (Int32.ofNat vs.length).toNatClampNeg = vs.length := by
    rw [Int32.toNatClampNeg_ofNat_of_lt q]
  refine ⟨c.cls, c, A, rfl, by rw [hn, e]; simp, ?_, fun i hi => ?_, fun i hi => ?_⟩
  · rw [Int32.lt_iff_toInt_lt, Int32.toInt_ofNat_of_lt q]; simp
  · have hi' : i < vs.length := by rw [e] at hi; simpa using hi
    rw [e]; simp [List.getD_eq_getElem?_getD, hi']
  · have hi' : i < vs.length := by rw [e] at hi; simpa using hi
    have := f _ (List.getElem_mem hi')
    simpa [List.getD_eq_getElem?_getD, hi'] using this
theorem Ary.of_arv {a : Addr} {kc : ClassId} {ty : FieldType} {z : Int32} {vs : List Value} {d : Value} (F : Arv Z h a kc ty z vs d) (hz : z.toNatClampNeg = vs.length) : Ary Z h a ty vs := by
  obtain ⟨c, A, -, S, z0, H, G⟩ := F
  have hs : c.slots.size = vs.length := S.trans hz
  refine ⟨c, A, ?_, by rw [← hz]; exact (back32 z0).2, fun v hv => ?_⟩
  · apply Array.ext
    · simpa using hs
    · intro i h1 h2
      have q := H i h1
      rw [Array.getElem?_eq_getElem h1] at q
      have h3 : i < vs.length := by omega
      simpa [List.getD_eq_getElem?_getD, h3] using q
  · obtain ⟨i, hi, rfl⟩ := List.getElem_of_mem hv
    have := G i (by omega)
    simpa [List.getD_eq_getElem?_getD, hi] using this
theorem alen (C : Cx Z W own nm code maxL ret) (hd : decode code pc = .ok (.arraylength, 1)) {a : Addr} {ty : FieldType} {vs : List Value} {z : Int32} (F : Ary Z h a ty vs) (hz : Int32.ofNat vs.length = z) (hp : pc + 1 = pc')
    (r : Run l R Z W Q h k n (mkF W.m pc' Ls (.int z :: st))) : Run l R Z W Q h k n (mkF W.m pc Ls (.ref a :: st)) := by
  subst hp hz
  obtain ⟨c, A, e, -⟩ := F
  have e2 : c.slots.size.toInt32 = Int32.ofNat vs.length := by rw [e]; simp
  exact Run.one (fun T locs X eT t g => X.arraylength C.hx (by rw [eT]; exact A.1) (State.isArrayOf_alike C.hZ.alike A.2.1) (g := mkF W.m pc Ls (.ref a :: st)) rfl rfl (C.hb hd) t (by rw [e2]; exact g)) r
theorem caload (C : Cx Z W own nm code maxL ret) (hd : decode code pc = .ok (.caload, 1)) {a : Addr} {vs : List Value} {j : Int32} {v : Value} (F : Ary Z h a .char vs) (h0 : ¬ j < 0) (hv : vs[j.toNatClampNeg]? = some v) (hp : pc + 1 = pc')
    (r : Run l R Z W Q h k n (mkF W.m pc' Ls (v :: st))) : Run l R Z W Q h k n (mkF W.m pc Ls (.int j :: .ref a :: st)) := by
  subst hp
  obtain ⟨c, A, e, -⟩ := F
  have h1 : j.toNatClampNeg < vs.length := (List.getElem?_eq_some_iff.mp hv).1
  exact Run.one (fun T locs X eT t g => X.caload C.hx (by rw [eT]; exact A.1) (State.isArrayOf_alike C.hZ.alike A.2.1) A.2.2 (Ary.inb (a := a) (ty := .char) e h0 h1) (by rw [e]; simpa using hv) (g := mkF W.m pc Ls (.int j :: .ref a :: st)) rfl rfl (C.hb hd) t g) r
theorem iaload (C : Cx Z W own nm code maxL ret) (hd : decode code pc = .ok (.iaload, 1)) {a : Addr} {vs : List Value} {j : Int32} {v : Value} (F : Ary Z h a .int vs) (h0 : ¬ j < 0) (hv : vs[j.toNatClampNeg]? = some v) (hp : pc + 1 = pc')
    (r : Run l R Z W Q h k n (mkF W.m pc' Ls (v :: st))) : Run l R Z W Q h k n (mkF W.m pc Ls (.int j :: .ref a :: st)) := by
  subst hp
  obtain ⟨c, A, e, -⟩ := F
  have h1 : j.toNatClampNeg < vs.length := (List.getElem?_eq_some_iff.mp hv).1
  exact Run.one (fun T locs X eT t g => X.iaload C.hx (by rw [eT]; exact A.1) (State.isArrayOf_alike C.hZ.alike A.2.1) A.2.2 (Ary.inb (a := a) (ty := .int) e h0 h1) (by rw [e]; simpa using hv) (g := mkF W.m pc Ls (.int j :: .ref a :: st)) rfl rfl (C.hb hd) t g) r
theorem baload (C : Cx Z W own nm code maxL ret) (hd : decode code pc = .ok (.baload, 1)) {a : Addr} {vs : List Value} {j : Int32} {v : Value} (F : Ary Z h a .byte vs) (h0 : ¬ j < 0) (hv : vs[j.toNatClampNeg]? = some v) (hp : pc + 1 = pc')
    (r : Run l R Z W Q h k n (mkF W.m pc' Ls (v :: st))) : Run l R Z W Q h k n (mkF W.m pc Ls (.int j :: .ref a :: st)) := by
  subst hp
  obtain ⟨c, A, e, -⟩ := F
  have h1 : j.toNatClampNeg < vs.length := (List.getElem?_eq_some_iff.mp hv).1
  exact Run.one (fun T locs X eT t g => X.baloadBytes C.hx (by rw [eT]; exact A.1) (State.isArrayOf_alike C.hZ.alike A.2.1) A.2.2 (Ary.inb (a := a) (ty := .byte) e h0 h1) (by rw [e]; simpa using hv) (g := mkF W.m pc Ls (.int j :: .ref a :: st)) rfl rfl (C.hb hd) t g) r
theorem Run.wrote {a : Addr} {sl : Nat} {v : Value} {g g' : JFrame} (ha : Z.heap.size ≤ a) (f : ∀ T locs, Std l R W T locs k n → T.heap = h → ∃ T' h', Std l R W T' (locs ++ [⟨a, sl⟩]) k n ∧ T'.heap = h' ∧ Wr h h' a sl v ∧ ∀ t, Steps W.p.tables W.e W.b (T'.setTop g') t → Steps W.p.tables W.e W.b (T.setTop g) t)
    (r : ∀ h', Wr h h' a sl v → Ext Z.heap h' → Run l R Z W Q h' k n g') : Run l R Z W Q h k n g := fun T locs X eT N O => by
  obtain ⟨T', h', X', e', w', s'⟩ := f T locs X eT
  have O' : Ext Z.heap h' := ((old_of O).wr w' ha).2
  exact Go.step s' (r h' w' O' T' _ X' e' (Fr.snoc X' N ha) O')
theorem putF (C : Cx Z W own nm code maxL ret) {R0 O nmF d K : String} {ix kk : Nat} {ty : FieldType} (hd : decode code pc = .ok (.putfield ix, 3)) (w : (Cond.fieldLink own ix R0 nmF d).before a0 Z = true) (via : Via Z R0 O nmF d) {a : Addr} {v old : Value} (F : Fld Z h a O nmF d old) (E : Exa Z h a K)
    (L : (Cond.lays K O nmF d).before a0 Z = true ∨ ((Cond.laysFinal K O nmF d).before a0 Z = true ∧ own = O ∧ nm = "<init>")) (wi : (Cond.instantiable K kk).before a0 Z = true) (hty : parseFieldDescriptor d = some ty) (hn : narrow ty v = v) (hf : fits ty v = true) (ha : Z.heap.size ≤ a) (hp : pc + 3 = pc')
    (r : ∀ h', Wr h h' a (RoadKit.slotOf Z O nmF d) v → Ext Z.heap h' → Run l R Z W Q h' k n (mkF W.m pc' Ls st)) : Run l R Z W Q h k n (mkF W.m pc Ls (v :: .ref a :: st)) := by
  subst hp
  exact Run.wrote ha (fun T locs X eT => RoadKit.putF X C.hx C.hZ C.ow (host := "") (Or.inl w) via eT F E (L.imp id fun q => ⟨q.1, q.2.1, C.nme.trans q.2.2⟩) wi hty hn hf (g := mkF W.m pc Ls (v :: .ref a :: st)) rfl rfl (C.hb hd)) r
theorem castore (C : Cx Z W own nm code maxL ret) (hd : decode code pc = .ok (.castore, 1)) {a : Addr} {vs vs' : List Value} {j x : Int32} (F : Ary Z h a .char vs) (h0 : ¬ j < 0) (h1 : j.toNatClampNeg < vs.length) (hx : nar .char x = x) (hs : vs.set j.toNatClampNeg (.int x) = vs') (ha : Z.heap.size ≤ a) (hp : pc + 1 = pc')
    (r : ∀ h', Wr h h' a j.toNatClampNeg (.int x) → Ary Z h' a .char vs' → Ext Z.heap h' → Run l R Z W Q h' k n (mkF W.m pc' Ls st)) : Run l R Z W Q h k n (mkF W.m pc Ls (.int x :: .int j :: .ref a :: st)) := by
  subst hp hs
  have F' := F
  obtain ⟨c, A, e, -⟩ := F'
  exact Run.wrote ha (fun T locs X eT => by have w0 := RoadKit.stC X C.hx C.hZ eT A (Ary.inb (a := a) (ty := .char) e h0 h1) (g := mkF W.m pc Ls (.int x :: .int j :: .ref a :: st)) rfl rfl (C.hb hd); rw [hx] at w0; exact w0) (fun h' w' O' => r h' w' (F.set w' (hx ▸ fits_nar_char x)) O')
theorem bastore (C : Cx Z W own nm code maxL ret) (hd : decode code pc = .ok (.bastore, 1)) {a : Addr} {vs vs' : List Value} {j x : Int32} (F : Ary Z h a .byte vs) (h0 : ¬ j < 0) (h1 : j.toNatClampNeg < vs.length) (hs : vs.set j.toNatClampNeg (.int (nar .byte x)) = vs') (ha : Z.heap.size ≤ a) (hp : pc + 1 = pc')
    (r : ∀ h', Wr h h' a j.toNatClampNeg (.int (nar .byte x)) → Ary Z h' a .byte vs' → Ext Z.heap h' → Run l R Z W Q h' k n (mkF W.m pc' Ls st)) : Run l R Z W Q h k n (mkF W.m pc Ls (.int x :: .int j :: .ref a :: st)) := by
  subst hp hs
  have F' := F
  obtain ⟨c, A, e, -⟩ := F'
  exact Run.wrote ha (fun T locs X eT => by have w0 := RoadKit.stB X C.hx C.hZ eT A (Ary.inb (a := a) (ty := .byte) e h0 h1) (g := mkF W.m pc Ls (.int x :: .int j :: .ref a :: st)) rfl rfl (C.hb hd); exact w0) (fun h' w' O' => r h' w' (F.set w' (fits_nar_byte x)) O')
theorem iastore (C : Cx Z W own nm code maxL ret) (hd : decode code pc = .ok (.iastore, 1)) {a : Addr} {vs vs' : List Value} {j x : Int32} (F : Ary Z h a .int vs) (h0 : ¬ j < 0) (h1 : j.toNatClampNeg < vs.length) (hs : vs.set j.toNatClampNeg (.int x) = vs') (ha : Z.heap.size ≤ a) (hp : pc + 1 = pc')
    (r : ∀ h', Wr h h' a j.toNatClampNeg (.int x) → Ary Z h' a .int vs' → Ext Z.heap h' → Run l R Z W Q h' k n (mkF W.m pc' Ls st)) : Run l R Z W Q h k n (mkF W.m pc Ls (.int x :: .int j :: .ref a :: st)) := by
  subst hp hs
  have F' := F
  obtain ⟨c, A, e, -⟩ := F'
  exact Run.wrote ha (fun T locs X eT => by have w0 := RoadKit.stI X C.hx C.hZ eT A (Ary.inb (a := a) (ty := .int) e h0 h1) (g := mkF W.m pc Ls (.int x :: .int j :: .ref a :: st)) rfl rfl (C.hb hd); exact w0) (fun h' w' O' => r h' w' (F.set w' rfl) O')
/-- what a fresh object holds -/
abbrev Fresh (Z : State) (a0 : Array Value) (h' : Heap) (a : Addr) (K : String) : Prop := ∀ {O nm d : String} {ty : FieldType}, Laid Z a0 K O nm d → parseFieldDescriptor d = some ty → Fld Z h' a O nm d (defaultValue ty)
theorem newO (C : Cx Z W own nm code maxL ret) {K : String} {ix sl k' n' : Nat} (hd : decode code pc = .ok (.new ix, 3)) (w : (Cond.classLink own ix K).before a0 Z = true) (wi : (Cond.instantiable K sl).before a0 Z = true) (wz : (Cond.initialized K).before a0 Z = true) (hc : k + 1 = k') (hl : n + sl = n') (hc' : k' ≤ R.cells) (hl' : n' ≤ R.slots) (hp : pc + 3 = pc')
    (r : ∀ a h', a = h.size → Z.heap.size ≤ a → Ext h h' → Exa Z h' a K → Fresh Z a0 h' a K → Unt h' a → Ext Z.heap h' → Run l R Z W Q h' k' n' (mkF W.m pc' Ls (.ref a :: st))) : Run l R Z W Q h k n (mkF W.m pc Ls st) := by
  subst hp hc hl
  intro T locs X eT N O
  obtain ⟨T', h', X', e', E', A', D', U', s'⟩ := RoadKit.newO X C.hx C.hZ C.ow w wi wz eT (g := mkF W.m pc Ls st) rfl (C.hb hd) hc' hl'
  have O' : Ext Z.heap h' := ((old_of O).ext E').2
  exact Go.step s' (r h.size h' rfl O.1 E' A' D' U' O' T' locs X' e' N O')
theorem newA (C : Cx Z W own nm code maxL ret) {aty : ArrayType} {ty : FieldType} {z : Int32} {k' n' cap : Nat} (hd : decode code pc = .ok (.newarray aty, 2)) (ht : newarray.typeOf aty = ty) (w : (Cond.arrayClass ty).before a0 Z = true) (hz : ¬ z < 0) (hcap : z.toNatClampNeg ≤ cap) (hb : cap * 8 ≤ 536870912) (hc : k + 1 = k') (hl : n + cap = n') (hc' : k' ≤ R.cells) (hl' : n' ≤ R.slots) (hdf : fits ty (defaultValue ty) = true) (hp : pc + 2 = pc')
    (r : ∀ a h', a = h.size → Z.heap.size ≤ a → Ext h h' → Ary Z h' a ty (List.replicate z.toNatClampNeg (defaultValue ty)) → Ext Z.heap h' → Run l R Z W Q h' k' n' (mkF W.m pc' Ls (.ref a :: st))) : Run l R Z W Q h k n (mkF W.m pc Ls (.int z :: st)) := by
  subst hp hc hl ht
  intro T locs X eT N O
  obtain ⟨T', h', cA, X', e', E', A', s'⟩ := newP X C.hx C.hZ w eT (g := mkF W.m pc Ls (.int z :: st)) rfl (C.hb hd) rfl hz hcap hb hc' hl'
  have O' : Ext Z.heap h' := ((old_of O).ext E').2
  have hz2 : z.toNatClampNeg < 2 ^ 31 := (back32 hz).2
  refine Go.step s' (r h.size h' rfl O.1 E' ⟨_, A', ?_, by simpa using hz2, fun v hv => ?_⟩ O' T' locs X' e' N O')
  · show Array.replicate _ _ = _
    simp
  · rw [(List.mem_replicate.mp hv).2]; exact hdf
/-- newarray, with the array's class -/
theorem newAE (C : Cx Z W own nm code maxL ret) {aty : ArrayType} {ty : FieldType} {ad : String} {z : Int32} {k' n' cap : Nat} (hd : decode code pc = .ok (.newarray aty, 2)) (ht : newarray.typeOf aty = ty) (w : (Cond.arrayClass ty).before a0 Z = true) (hz : ¬ z < 0) (hcap : z.toNatClampNeg ≤ cap) (hb : cap * 8 ≤ 536870912) (had : "[" ++ ty.toString = ad) (hc : k + 1 = k') (hl : n + cap = n') (hc' : k' ≤ R.cells) (hl' : n' ≤ R.slots) (hdf : fits ty (defaultValue ty) = true) (hp : pc + 2 = pc')
    (r : ∀ a h', a = h.size → Z.heap.size ≤ a → Ext h h' → Ary Z h' a ty (List.replicate z.toNatClampNeg (defaultValue ty)) → Exa Z h' a ad → Ext Z.heap h' → Run l R Z W Q h' k' n' (mkF W.m pc' Ls (.ref a :: st))) : Run l R Z W Q h k n (mkF W.m pc Ls (.int z :: st)) := by
  subst hp hc hl ht
  intro T locs X eT N O
  obtain ⟨T', h', cA, X', e', E', A', D', s'⟩ := newPE X C.hx C.hZ w eT (g := mkF W.m pc Ls (.int z :: st)) rfl (C.hb hd) rfl hz hcap hb hc' hl' had
  have O' : Ext Z.heap h' := ((old_of O).ext E').2
  have hz2 : z.toNatClampNeg < 2 ^ 31 := (back32 hz).2
  refine Go.step s' (r h.size h' rfl O.1 E' ⟨_, A', ?_, by simpa using hz2, fun v hv => ?_⟩ D' O' T' locs X' e' N O')
  · show Array.replicate _ _ = _
    simp
  · rw [(List.mem_replicate.mp hv).2]; exact hdf
/-- an array of references to K: its class -/
def RefA (Z : State) (h : Heap) (a : Addr) (K : String) : Prop := ∃ cl : Cell, h[a]? = some cl ∧ Ovr Z cl.cls K
theorem RefA.ext {h' : Heap} {a : Addr} {K : String} (F : RefA Z h a K) (E : Ext h h') : RefA Z h' a K := by
  obtain ⟨cl, h1, r⟩ := F
  exact ⟨cl, E.2 _ _ h1, r⟩
theorem RefA.wr {h' : Heap} {a b : Addr} {K : String} {sl : Nat} {v : Value} (F : RefA Z h a K) (W : Wr h h' b sl v) : RefA Z h' a K := by
  obtain ⟨cl, h1, r⟩ := F
  obtain ⟨d, d1, d2, -⟩ := wr_at W h1
  exact ⟨d, d1, by rw [d2]; exact r⟩
theorem declOf {y : MethodName} {bytes : ByteArray} {mxL : Nat} {rt : Option FieldType} (w1 : (Cond.instanceMethod y).before a0 Z = true) (w2 : (Cond.code y bytes mxL rt).before a0 Z = true) : (Cond.declares y).before a0 Z = true := by
  obtain ⟨m, meth, h1, h2, h3, -⟩ := Cond.instanceMethod_spec w1
  obtain ⟨meth', c', g1, -, -, -, -, -, -, g2⟩ := Cond.code_spec h1 w2
  cases h2.symm.trans g1
  simp [Cond.before, Cond.holds, Cond.value, h1, h2, h3, g2]
theorem cloneA (C : Cx Z W own nm code maxL ret) {ad : String} {ty : FieldType} {vs : List Value} {ix Wn k' n' : Nat} {a : Addr} (hd : decode code pc = .ok (.invokevirtual ix, 3)) (F : Ary Z h a ty vs) (E : Exa Z h a ad)
    (w1 : (Cond.methodLink own ix ⟨ad, "clone", "()Ljava/lang/Object;"⟩).before a0 Z = true) (w2 : (Cond.sameMethod ad "java/lang/Object" "clone" "()Ljava/lang/Object;").before a0 Z = true) (w3 : (Cond.native ⟨"java/lang/Object", "clone", "()Ljava/lang/Object;"⟩).before a0 Z = true) (w4 : (Cond.instanceMethod ⟨"java/lang/Object", "clone", "()Ljava/lang/Object;"⟩).before a0 Z = true)
    (w5 : (Cond.selects ad ⟨ad, "clone", "()Ljava/lang/Object;"⟩ ⟨"java/lang/Object", "clone", "()Ljava/lang/Object;"⟩).before a0 Z = true) (w6 : (Cond.castable ad "java/lang/Cloneable").before a0 Z = true) (hsz : Ls.size = maxL) (hf : 1 ≤ R.frames) (hW : (st.map fun v => v.category).sum ≤ Wn) (hlo : Wn + 14 ≤ R.locals) (hc : k + 1 = k') (hl : n + vs.length = n') (hc' : k' ≤ R.cells) (hl' : n' ≤ R.slots) (hp : pc + 3 = pc')
    (r : ∀ b h', b = h.size → Z.heap.size ≤ b → Ext h h' → Ary Z h' b ty vs → Exa Z h' b ad → Ext Z.heap h' → Run l R Z W Q h' k' n' (mkF W.m pc' Ls (.ref b :: st))) : Run l R Z W Q h k n (mkF W.m pc Ls (.ref a :: st)) := by
  subst hp hc hl
  intro T locs X eT N O
  obtain ⟨c, A, e, q, f⟩ := F
  have hs : c.slots.size = vs.length := by rw [e]; simp
  obtain ⟨T', h', X', e', E', A', X2, s'⟩ := RoadKit.cloneA X C.hx C.hZ C.ow w1 w2 w3 w4 w5 w6 eT A E (fitC_of A fun i hi v hv => f v (by rw [e] at hv; exact List.mem_of_getElem? (by simpa using hv))) (g := mkF W.m pc Ls (.ref a :: st)) rfl (hsz.trans C.ml.symm) rfl (C.hb hd) hf (W := Wn) (cap := vs.length) (by show 2 * 0 + _ ≤ _; omega) hlo (by omega) hc' hl'
  have O' : Ext Z.heap h' := ((old_of O).ext E').2
  exact Go.step s' (r h.size h' rfl O.1 E' ⟨_, A', e, q, f⟩ X2 O' T' locs X' e' N O')
theorem cloneC (C : Cx Z W own nm code maxL ret) {ad : String} {ty : FieldType} {vs : List Value} {ix Wn k' n' : Nat} {a : Addr} (hd : decode code pc = .ok (.invokevirtual ix, 3)) (F : Ary Z h a ty vs) (E : Exa Z h a ad)
    (w1 : (Cond.methodLink own ix ⟨ad, "clone", "()Ljava/lang/Object;"⟩).before a0 Z = true) (w2 : (Cond.sameMethod ad "java/lang/Object" "clone" "()Ljava/lang/Object;").before a0 Z = true) (w3 : (Cond.native ⟨"java/lang/Object", "clone", "()Ljava/lang/Object;"⟩).before a0 Z = true) (w4 : (Cond.instanceMethod ⟨"java/lang/Object", "clone", "()Ljava/lang/Object;"⟩).before a0 Z = true)
    (w5 : (Cond.selects ad ⟨ad, "clone", "()Ljava/lang/Object;"⟩ ⟨"java/lang/Object", "clone", "()Ljava/lang/Object;"⟩).before a0 Z = true) (w6 : (Cond.castable ad "java/lang/Cloneable").before a0 Z = true) (hsz : Ls.size = maxL) (hf : 1 ≤ R.frames) (hW : (st.map fun v => v.category).sum ≤ Wn) (hlo : Wn + 14 ≤ R.locals) (hc : k + 1 = k') {cap : Nat} (hcap : vs.length ≤ cap) (hl : n + cap = n') (hc' : k' ≤ R.cells) (hl' : n' ≤ R.slots) (hp : pc + 3 = pc')
    (r : ∀ b h', b = h.size → Z.heap.size ≤ b → Ext h h' → Ary Z h' b ty vs → Exa Z h' b ad → Ext Z.heap h' → Run l R Z W Q h' k' n' (mkF W.m pc' Ls (.ref b :: st))) : Run l R Z W Q h k n (mkF W.m pc Ls (.ref a :: st)) := by
  subst hp hc hl
  intro T locs X eT N O
  obtain ⟨c, A, e, q, f⟩ := F
  have hs : c.slots.size = vs.length := by rw [e]; simp
  obtain ⟨T', h', X', e', E', A', X2, s'⟩ := RoadKit.cloneA X C.hx C.hZ C.ow w1 w2 w3 w4 w5 w6 eT A E (fitC_of A fun i hi v hv => f v (by rw [e] at hv; exact List.mem_of_getElem? (by simpa using hv))) (g := mkF W.m pc Ls (.ref a :: st)) rfl (hsz.trans C.ml.symm) rfl (C.hb hd) hf (W := Wn) (cap := cap) (by show 2 * 0 + _ ≤ _; omega) hlo (by omega) hc' hl'
  have O' : Ext Z.heap h' := ((old_of O).ext E').2
  exact Go.step s' (r h.size h' rfl O.1 E' ⟨_, A', e, q, f⟩ X2 O' T' locs X' e' N O')
theorem initO (C : Cx Z W own nm code maxL ret) {ix Wn : Nat} (hd : decode code pc = .ok (.invokespecial ix, 3)) (w1 : (Cond.methodLink own ix Lib.objectInit).before a0 Z = true) (w2 : (Cond.instanceMethod Lib.objectInit).before a0 Z = true) (w3 : (Cond.code Lib.objectInit ⟨#[0xb1]⟩ 1 none).before a0 Z = true) {a : Addr} (hsz : Ls.size = maxL) (hf : 1 ≤ R.frames) (hW : (st.map fun v => v.category).sum ≤ Wn) (hl : Wn + 12 ≤ R.locals) (hp : pc + 3 = pc')
    (r : Run l R Z W Q h k n (mkF W.m pc' Ls st)) : Run l R Z W Q h k n (mkF W.m pc Ls (.ref a :: st)) := by
  subst hp
  exact Run.via (fun T locs X eT => RoadKit.initO X C.hx C.hZ C.ow w1 w2 w3 eT (g := mkF W.m pc Ls (.ref a :: st)) rfl (hsz.trans C.ml.symm) rfl (C.hb hd) hf (W := Wn) (by show 2 * 0 + _ ≤ _; omega) hl) r
/-! ## contracts and calls -/
/-- the method y, called with these arguments at the heap h0, returns with Q -/
def Con (l : Launch) (Z : State) (y : MethodName) (bytes : ByteArray) (maxL : Nat) (ret : Option FieldType) (rm : Room) (as' : Array Value) (h0 : Heap) (Q : Post) : Prop :=
  ∀ ws, MetFree l y (head1 (Jvm.Cond.code y bytes maxL ret :: ws) rm) (fun a U => a = as' ∧ Z.Warmed39 U.vm ∧ U.heap = h0) (fun _ _ _ _ _ => True) (fun _ U o U' => ∃ v L, o = .returned v ∧ (Q v U'.heap ∧ Ext Z.heap U'.heap ∧ Fr Z.heap.size L) ∧ FrameEnd U o U' L rm.cells rm.slots)
theorem Con.intro {y : MethodName} {bytes : ByteArray} {rm : Room} {as' : Array Value} {Ls0 : Array Slot} (hy : plainFor y = true) (O : Ext Z.heap h) (he : ∀ m, entryFrame m as' maxL = mkF m 0 Ls0 [])
    (body : ∀ W : Wd, Cx Z W y.cls y.name bytes maxL ret → Run l rm Z W Q h 0 0 (mkF W.m 0 Ls0 [])) : Con l Z y bytes maxL ret rm as' h Q := by
  intro ws
  refine MetFree.of_bodySF hy hisR ?_
  intro p e s m args below meth c s₁ Bd hml0 hP hK
  obtain ⟨rfl, hZ, hh⟩ := hP
  have e0 : s₁.heap = h := by rw [← hh, Bd.state]; rfl
  have X0 : Stand p l e rm s m args below meth c s₁ [] 0 0 := Stand.of_body Bd
  have r := body (p, e, s, m, args, below, meth, c) ⟨Bd.exec, Bd.bytes, hml0, findClass_of_methodNamed Bd.named, hZ, Bd.returns, (name_of_methodNamed Bd.named Bd.method).1, Bd.notSynchronized⟩ s₁ [] X0 e0 (Fr.nil _) O
  rw [he m]
  exact r
theorem Con.mono {y : MethodName} {bytes : ByteArray} {rm : Room} {as' : Array Value} {Q' : Post} (c : Con l Z y bytes maxL ret rm as' h Q) (f : ∀ v h', Q v h' → Q' v h') : Con l Z y bytes maxL ret rm as' h Q' := by
  intro ws p e ha hc hk s m args below hf happ hP hK
  obtain ⟨n, o, h1, h2, h3, v, L, h4, ⟨h5, h6⟩, h7⟩ := c ws p e ha hc hk s m args below hf happ hP hK
  exact ⟨n, o, h1, h2, h3, v, L, h4, ⟨f _ _ h5, h6⟩, h7⟩
section Calls
variable {y : MethodName} {bytes : ByteArray} {mxL : Nat} {rt : Option FieldType} {rm : Room} {Qc : Post} {argsL : List Value} {as' : Array Value} {ix Wn k' n' kc nc : Nat} {st' : List Value}
/-- a law of the library, or a contract, as a call takes it -/
abbrev Pays (l : Launch) (R : Room) (W : Wd) (y : MethodName) (ln Wn : Nat) (as' : Array Value) (h : Heap) (kc nc : Nat) (Qv : Option Value → Heap → List Loc → Prop) : Prop :=
  Back l R W.p W.e W.b W.s W.a y ln Wn (fun P a => a = as' ∧ P.U.heap = h ∧ P.cells + kc ≤ R.cells ∧ P.slots + nc ≤ R.slots) (fun P _ v B => ∃ L, Qv v B.U.heap L ∧ B.locs = P.locs ++ L ∧ B.cells = P.cells + kc ∧ B.slots = P.slots + nc)
abbrev Clean (Z : State) (Qc : Post) (Qv : Option Value → Heap → List Loc → Prop) : Prop := ∀ v h' L, Qv v h' L → Qc v h' ∧ Ext Z.heap h' ∧ Fr Z.heap.size L
theorem Con.pays (C : Cx Z W own nm code maxL ret) {ln : Nat} (K : Con l Z y bytes mxL rt rm as' h Qc) (w4 : (Cond.code y bytes mxL rt).before a0 Z = true) (wz : (Cond.initialized y.cls).before a0 Z = true) (hf : rm.frames + 1 ≤ R.frames) (hl : Wn + (mxL + 11) + rm.locals ≤ R.locals) :
    Pays l R W y ln Wn as' h rm.cells rm.slots (fun v h' L => Qc v h' ∧ Ext Z.heap h' ∧ Fr Z.heap.size L) := backOf (W := Wn) (Q := fun v h' L => Qc v h' ∧ Ext Z.heap h' ∧ Fr Z.heap.size L) (K []) C.hZ w4 wz hf hl
theorem callS (C : Cx Z W own nm code maxL ret) (hd : decode code pc = .ok (.invokestatic ix, 3)) {Qv : Option Value → Heap → List Loc → Prop} (K : Pays l R W y 3 Wn as' h kc nc Qv) (hQ : Clean Z Qc Qv) (w1 : (Cond.methodLink own ix y).before a0 Z = true) (w2 : (Cond.static y).before a0 Z = true) (w3 : (Cond.initialized y.cls).before a0 Z = true) (w4 : (Cond.code y bytes mxL rt).before a0 Z = true) (hy : y.cls ≠ "java/lang/invoke/MethodHandle" ∧ y.cls ≠ "java/lang/invoke/VarHandle")
    (has : argsL.toArray = as') (hst : argsL.reverse ++ st = st') (hlen : ∀ sig, parseMethodDescriptor y.desc = some sig → argsL.length = sig.parameters.length) (hsz : Ls.size = maxL) (hW : (st.map fun v => v.category).sum ≤ Wn) (hk : k + kc = k') (hn : n + nc = n') (hk' : k' ≤ R.cells) (hn' : n' ≤ R.slots) (hp : pc + 3 = pc')
    (r : ∀ v h', Qc v h' → Ext Z.heap h' → Run l R Z W Q h' k' n' (mkF W.m pc' Ls (v.toList ++ st))) : Run l R Z W Q h k n (mkF W.m pc Ls st') := by
  subst hp hk hn has hst
  intro T locs X eT N O
  obtain ⟨v, vm₁, ⟨T', L', k', n'⟩, -, X', ⟨L, q0, l1, y1, z1⟩, s'⟩ := Jvm.LawKit.callS X C.hx (y := y) C.ow (mvT C.hZ w1) (mvT C.hZ w2) (mvT C.hZ w3) (mvT C.hZ w4) hy K (g := mkF W.m pc Ls (argsL.reverse ++ st)) rfl (hsz.trans C.ml.symm) (argsL := argsL) (rest := st) hlen rfl (by show 2 * 0 + _ ≤ _; omega) (C.hb hd) (fun _ _ => ⟨rfl, eT, hk', hn'⟩)
  dsimp only [Pt.U, Pt.locs, Pt.cells, Pt.slots] at X' l1 y1 z1 s' q0
  subst l1 y1 z1
  obtain ⟨q1, q2, q3⟩ := hQ _ _ _ q0
  exact Go.step s' (r v T'.heap q1 q2 T' _ X' rfl (N.app q3) q2)
theorem callI (C : Cx Z W own nm code maxL ret) (hd : decode code pc = .ok (.invokespecial ix, 3)) {a : Addr} {Qv : Option Value → Heap → List Loc → Prop} (K : Pays l R W y 3 Wn as' h kc nc Qv) (hQ : Clean Z Qc Qv) (hi : y.name = "<init>") (w1 : (Cond.methodLink own ix y).before a0 Z = true) (w2 : (Cond.instanceMethod y).before a0 Z = true) (w4 : (Cond.code y bytes mxL none).before a0 Z = true) (hy : y.cls ≠ "java/lang/invoke/MethodHandle" ∧ y.cls ≠ "java/lang/invoke/VarHandle")
    (has : (Value.ref a :: argsL).toArray = as') (hst : argsL.reverse ++ .ref a :: st = st') (hlen : ∀ sig, parseMethodDescriptor y.desc = some sig → argsL.length = sig.parameters.length) (hsz : Ls.size = maxL) (hW : (st.map fun v => v.category).sum ≤ Wn) (hk : k + kc = k') (hn : n + nc = n') (hk' : k' ≤ R.cells) (hn' : n' ≤ R.slots) (hp : pc + 3 = pc')
    (r : ∀ v h', Qc v h' → Ext Z.heap h' → Run l R Z W Q h' k' n' (mkF W.m pc' Ls (v.toList ++ st))) : Run l R Z W Q h k n (mkF W.m pc Ls st') := by
  subst hp hk hn has hst
  intro T locs X eT N O
  obtain ⟨v, vm₁, ⟨T', L', k', n'⟩, -, X', ⟨L, q0, l1, y1, z1⟩, s'⟩ := X.specialBack C.hx (y := y) hi C.ow (mvT C.hZ w1) (mvT C.hZ w2) (mvT C.hZ w4) hy K (g := mkF W.m pc Ls (argsL.reverse ++ .ref a :: st)) rfl (hsz.trans C.ml.symm) (Steps.refl _) (a := a) (argsL := argsL) (rest := st) hlen rfl (by show 2 * 0 + _ ≤ _; omega) (C.hb hd) (fun _ _ => ⟨rfl, eT, hk', hn'⟩)
  dsimp only [Pt.U, Pt.locs, Pt.cells, Pt.slots] at X' l1 y1 z1 s' q0
  subst l1 y1 z1
  obtain ⟨q1, q2, q3⟩ := hQ _ _ _ q0
  exact Go.step (fun t => s'.trans) (r v T'.heap q1 q2 T' _ X' rfl (N.app q3) q2)
theorem callV (C : Cx Z W own nm code maxL ret) (hd : decode code pc = .ok (.invokevirtual ix, 3)) {y0 : MethodName} {K0 : String} {a : Addr} {Qv : Option Value → Heap → List Loc → Prop} (K : Pays l R W y 3 Wn as' h kc nc Qv) (hQ : Clean Z Qc Qv) (E : Exa Z h a K0) (w1 : (Cond.methodLink own ix y0).before a0 Z = true) (w2 : (Cond.declares y0).before a0 Z = true) (nf : NotFace W.s y0) (w3 : (Cond.selects K0 y0 y).before a0 Z = true) (w5 : (Cond.instanceMethod y).before a0 Z = true) (hy : y0.cls ≠ "java/lang/invoke/MethodHandle" ∧ y0.cls ≠ "java/lang/invoke/VarHandle")
    (has : (Value.ref a :: argsL).toArray = as') (hst : argsL.reverse ++ .ref a :: st = st') (hlen : ∀ sig, parseMethodDescriptor y0.desc = some sig → argsL.length = sig.parameters.length) (hsz : Ls.size = maxL) (hW : (st.map fun v => v.category).sum ≤ Wn) (hk : k + kc = k') (hn : n + nc = n') (hk' : k' ≤ R.cells) (hn' : n' ≤ R.slots) (hp : pc + 3 = pc')
    (r : ∀ v h', Qc v h' → Ext Z.heap h' → Run l R Z W Q h' k' n' (mkF W.m pc' Ls (v.toList ++ st))) : Run l R Z W Q h k n (mkF W.m pc Ls st') := by
  subst hp hk hn has hst
  intro T locs X eT N O
  obtain ⟨cq, kq, qa, qb, qc⟩ := isOf C.hZ eT E
  obtain ⟨v, vm₁, ⟨T', L', k', n'⟩, -, X', ⟨L, q0, l1, y1, z1⟩, s'⟩ := X.virtualBack C.hx (y := y0) (z := y) C.ow (mvT C.hZ w1) (mvT C.hZ w2) nf (mvT C.hZ w3) (mvT C.hZ w5) hy K qa qc (g := mkF W.m pc Ls (argsL.reverse ++ .ref a :: st)) rfl (hsz.trans C.ml.symm) (Steps.refl _) (argsL := argsL) (rest := st) hlen rfl (by show 2 * 0 + _ ≤ _; omega) (C.hb hd) (fun _ _ => ⟨rfl, eT, hk', hn'⟩)
  dsimp only [Pt.U, Pt.locs, Pt.cells, Pt.slots] at X' l1 y1 z1 s' q0
  subst l1 y1 z1
  obtain ⟨q1, q2, q3⟩ := hQ _ _ _ q0
  exact Go.step (fun t => s'.trans) (r v T'.heap q1 q2 T' _ X' rfl (N.app q3) q2)
theorem cleanC {Qc : Post} : Clean Z Qc (fun v h' L => Qc v h' ∧ Ext Z.heap h' ∧ Fr Z.heap.size L) := fun v h' L q => q
end Calls
theorem Ext.refl (h : Heap) : Ext h h := ⟨Nat.le_refl _, fun _ _ q => q⟩
theorem Ext.trans {h1 h2 h3 : Heap} (A : Ext h1 h2) (B : Ext h2 h3) : Ext h1 h3 := ⟨Nat.le_trans A.1 B.1, fun a c q => B.2 a c (A.2 a c q)⟩
theorem Ext.wr {Z : State} {h1 h2 h3 : Heap} {a : Addr} {sl : Nat} {v : Value} (A : Ext h1 h2) (B : Wr h2 h3 a sl v) (q : h1.size ≤ a) : Ext h1 h3 := ((old_of (Z := { Z with heap := h1 }) A).wr B q).2
theorem Ext.keep1 {Z : State} {h1 h2 h3 : Heap} {a : Addr} (A : Ext h1 h2) (B : Keep h2 h3 [a]) (q : h1.size ≤ a) : Ext h1 h3 := ((old_of (Z := { Z with heap := h1 }) A).keep B (allS q all0)).2
/-- System.arraycopy of primitive components, between two arrays -/
theorem acopy (C : Cx Z W own nm code maxL ret) {ix Wn : Nat} (hd : decode code pc = .ok (.invokestatic ix, 3)) (w1 : (Cond.methodLink own ix Jvm.Stand.acN).before a0 Z = true) (w2 : (Cond.native Jvm.Stand.acN).before a0 Z = true) (w3 : (Cond.static Jvm.Stand.acN).before a0 Z = true) (w4 : (Cond.initialized "java/lang/System").before a0 Z = true)
    {a b : Addr} {ty : FieldType} {vs vd vd' : List Value} {sp dp nn : Int32} (F : Ary Z h a ty vs) (G : Ary Z h b ty vd) (hty : refKind ty = false) (h1 : ¬ sp < 0) (h2 : ¬ dp < 0) (h3 : ¬ nn < 0) (h4 : sp.toNatClampNeg + nn.toNatClampNeg ≤ vs.length) (h5 : dp.toNatClampNeg + nn.toNatClampNeg ≤ vd.length)
    (hv : vd.take dp.toNatClampNeg ++ (vs.drop sp.toNatClampNeg).take nn.toNatClampNeg ++ vd.drop (dp.toNatClampNeg + nn.toNatClampNeg) = vd') (ha : Z.heap.size ≤ b) (hsz : Ls.size = maxL) (hf : 1 ≤ R.frames) (hW : (st.map fun v => v.category).sum ≤ Wn) (hlo : Wn + 18 ≤ R.locals) (hp : pc + 3 = pc')
    (r : ∀ h', Keep h h' [b] → Ary Z h' b ty vd' → Ext Z.heap h' → Run l R Z W Q h' k n (mkF W.m pc' Ls st)) : Run l R Z W Q h k n (mkF W.m pc Ls (.int nn :: .int dp :: .ref b :: .int sp :: .ref a :: st)) := by
  subst hp
  intro T locs X eT N O
  have l1 : vs.length < 2 ^ 31 := by obtain ⟨_, _, _, q, _⟩ := F; exact q
  have l2 : vd.length < 2 ^ 31 := by obtain ⟨_, _, _, q, _⟩ := G; exact q
  obtain ⟨ka, A⟩ := F.arv (d := .int 0)
  obtain ⟨kb, B⟩ := G.arv (d := .int 0)
  have n1 : (Int32.ofNat vs.length).toNatClampNeg = vs.length := Int32.toNatClampNeg_ofNat_of_lt l1
  have n2 : (Int32.ofNat vd.length).toNatClampNeg = vd.length := Int32.toNatClampNeg_ofNat_of_lt l2
  obtain ⟨T', h', L, X', e', N', K', V', s'⟩ := cpA X C.hx C.hZ C.ow w1 w2 w3 w4 eT A B (Or.inl ⟨rfl, hty⟩) h1 h2 h3 (by rw [n1]; exact h4) (by rw [n2]; exact h5) rfl h5 N ha (g := mkF W.m pc Ls (.int nn :: .int dp :: .ref b :: .int sp :: .ref a :: st)) rfl (hsz.trans C.ml.symm) rfl (C.hb hd) hf (W := Wn) (by show 2 * 0 + _ ≤ _; omega) hlo
  have O' : Ext Z.heap h' := Ext.keep1 (Z := Z) O K' ha
  have eu : ((List.range nn.toNatClampNeg).map fun i => vs.getD (sp.toNatClampNeg + i) (.int 0)) = (vs.drop sp.toNatClampNeg).take nn.toNatClampNeg := by
    apply List.ext_getElem
    · simp; omega
    · intro i q1 q2
      have q3 : sp.toNatClampNeg + i < vs.length := by simp at q1; omega
      simp [List.getD_eq_getElem?_getD, q3]
  rw [eu, hv] at V'
  have hlen : (Int32.ofNat vd.length).toNatClampNeg = vd'.length := by rw [n2, ← hv]; simp; omega
  exact Go.step s' (r h' K' (Ary.of_arv V' hlen) O' T' L X' e' N' O')
/-! ## returns -/
theorem Run.leave (C : Cx Z W own nm code maxL ret) {v : Option Value} {f : JFrame} (hv : ret = none → v = none) (q : Q v h) (hk : k ≤ R.cells) (hn : n ≤ R.slots)
    (s' : ∀ T locs, Std l R W T locs k n → ∀ fs, (∀ (f : JFrame) (acts : List Action), f.method = W.m → f.locked = none → f.entered = [] → (doReturn W.e (T.setTop f) acts v).1 = T.setFrames fs) → Steps W.p.tables W.e W.b (T.setTop f) (T.setFrames fs)) : Run l R Z W Q h k n f := by
  intro T locs X eT N O
  have hlk : W.t.locks = false := C.lk
  obtain ⟨fs, hr, hrun, hended, hW, hsame⟩ := X.leave (v := v) (fun hh => hv (C.rt.symm.trans hh))
  have e2 : (T.setFrames fs).heap = h := eT
  exact ⟨_, _, s' T locs X fs hr, hrun, hended, _, _, rfl, ⟨by rw [e2]; exact q, by rw [e2]; exact O, N⟩, ⟨_, rfl⟩, hW, hsame.mono hk hn⟩
theorem retV (C : Cx Z W own nm code maxL none) (hd : decode code pc = .ok (.return_, 1)) (hk : k ≤ R.cells) (hn : n ≤ R.slots) (q : Q none h) : Run l R Z W Q h k n (mkF W.m pc Ls []) :=
  Run.leave C (fun _ => rfl) q hk hn (fun T locs X fs hr => X.returnOut C.hx C.rt (C.hb hd) hr)
theorem retI (C : Cx Z W own nm code maxL (some .int)) (hd : decode code pc = .ok (.ireturn, 1)) {z : Int32} (hk : k ≤ R.cells) (hn : n ≤ R.slots) (q : Q (some (.int z)) h) : Run l R Z W Q h k n (mkF W.m pc Ls (.int z :: st)) :=
  Run.leave C (fun hh => nomatch hh) q hk hn (fun T locs X fs hr => retOut X C.hx C.rt rfl (Or.inl ⟨rfl, Or.inl rfl, z, rfl⟩) (C.hb hd) hr)
theorem retNar {ty : FieldType} (C : Cx Z W own nm code maxL (some ty)) (ht : ty = .boolean ∨ ty = .byte ∨ ty = .char ∨ ty = .short) (hd : decode code pc = .ok (.ireturn, 1)) {z z' : Int32} (hz : nar ty z = z') (hk : k ≤ R.cells) (hn : n ≤ R.slots) (q : Q (some (.int z')) h) : Run l R Z W Q h k n (mkF W.m pc Ls (.int z :: st)) := by
  subst hz
  exact Run.leave C (fun hh => nomatch hh) q hk hn (fun T locs X fs hr => retN X C.hx C.rt ht (C.hb hd) hr)
theorem retA {ty : FieldType} {v : Value} (C : Cx Z W own nm code maxL (some ty)) (ht : ty.isReference = true) (hv : v.isRef = true) (hd : decode code pc = .ok (.areturn, 1)) (hk : k ≤ R.cells) (hn : n ≤ R.slots) (q : Q (some v) h) : Run l R Z W Q h k n (mkF W.m pc Ls (v :: st)) :=
  Run.leave C (fun hh => nomatch hh) q hk hn (fun T locs X fs hr => retOut X C.hx C.rt (by rcases ref_cases hv with rfl | ⟨a, rfl⟩ <;> cases ty <;> simp [FieldType.isReference] at ht <;> rfl) (Or.inr (Or.inr (Or.inr (Or.inr ⟨rfl, ht, hv⟩)))) (C.hb hd) hr)
end Kit
end Wk

def Ws (a0 : Array Value) (Z : State) : Prop := ∀ d ∈ tables_1, d.before a0 Z = true
theorem Wk.nar_i2c {x v : Int32} (h : x.toUInt32.toUInt16.toUInt32.toInt32 = v) : nar .char v = v := by subst h; simp only [nar, UInt32.toUInt32_toInt32, UInt16.toUInt16_toUInt32]
theorem Wk.nar_i2b {x v : Int32} (h : x.toInt8.toInt32 = v) : nar .byte v = v := by
  subst h
  show x.toInt8.toInt32.toInt8.toInt32 = _
  simp
theorem Wk.rng255L {p a : Int64} {b w : Int32} (h : p &&& 255 = a) (h1 : a.toInt32 = b) (h' : b.toUInt32.toUInt16.toUInt32.toInt32 = w) : ¬ w < 0 ∧ ¬ (255 : Int32) < w := by
  subst h h1 h'
  have a1 := c_maskL p 255 8 (by decide) (by decide)
  have a2 := c_l2i (p &&& 255)
  have a3 := c_i2c (p &&& 255).toInt32
  have a4 := rng32 (p &&& 255).toInt32
  have e0 : (0 : Int32).toInt = 0 := by decide
  have e1 : (255 : Int32).toInt = 255 := by decide
  rw [Int32.lt_iff_toInt_lt, Int32.lt_iff_toInt_lt]
  omega
theorem Wk.nar_rng {c : Int32} (h : ¬ c < 0 ∧ ¬ (255 : Int32) < c) : nar .char c = c := by
  show c.toUInt32.toUInt16.toUInt32.toInt32 = c
  have h1 := c_i2c c
  obtain ⟨h2, h3⟩ := h
  rw [Int32.lt_iff_toInt_lt] at h2 h3
  have e0 : (0 : Int32).toInt = 0 := by decide
  have e1 : (255 : Int32).toInt = 255 := by decide
  exact Int32.toInt_inj.mp (by omega)
theorem Wk.mask31 {f v : Int32} (h : f &&& 2147483647 = v) : 0 ≤ v.toInt := by
  subst h
  rw [c_mask f 2147483647 31 (by decide) (by decide)]
  omega
theorem Wk.modr {v d w : Int32} (h0 : 0 ≤ v.toInt) (hd : 0 < d.toInt) (h : v % d = w) : 0 ≤ w.toInt ∧ w.toInt < d.toInt := by
  subst h
  have q := (c_iremV v d).1 h0 hd
  exact ⟨q.1, q.2.1⟩
theorem Wk.addI {x y v : Int32} (h : x + y = v) : (v.toInt - (x.toInt + y.toInt)) % 4294967296 = 0 := h ▸ c_iadd x y
theorem Wk.subI {x y v : Int32} (h : x - y = v) : (v.toInt - (x.toInt - y.toInt)) % 4294967296 = 0 := h ▸ c_isub x y
theorem Wk.eqI {x y : Int32} (h : x.toInt = y.toInt) : x = y := Int32.toInt_inj.mp h
theorem Wk.ltI {x y : Int32} : x < y ↔ x.toInt < y.toInt := Int32.lt_iff_toInt_lt
theorem Wk.nn {x : Int32} (h : 0 ≤ x.toInt) : ¬ x < 0 := by
  have e0 : (0 : Int32).toInt = 0 := by decide
  rw [Wk.ltI]; omega
theorem Wk.ofNat {x : Int32} (h : 0 ≤ x.toInt) : x = Int32.ofNat x.toNatClampNeg := ((back32 (Wk.nn h)).1).symm
theorem Wk.nat32 {n : Nat} (h : n ≤ 4000) : (Int32.ofNat n).toInt = n ∧ (Int32.ofNat n).toNatClampNeg = n := ⟨Int32.toInt_ofNat_of_lt (by omega), Int32.toNatClampNeg_ofNat_of_lt (by omega)⟩
theorem Wk.succ32 {n : Nat} (h : n < 4000) : Int32.ofNat n + Int32.ofInt 1 = Int32.ofNat (n + 1) := by
  have a := c_iadd (Int32.ofNat n) 1
  have b := rng32 (Int32.ofNat n + 1)
  have c1 : (1 : Int32).toInt = 1 := by decide
  have c2 := (Wk.nat32 (n := n) (by omega)).1
  have c3 := (Wk.nat32 (n := n + 1) (by omega)).1
  exact Wk.eqI (by show (Int32.ofNat n + 1).toInt = _; omega)
theorem Wk.lt32 {a b : Nat} (ha : a ≤ 4000) (hb : b ≤ 4000) : Int32.ofNat a < Int32.ofNat b ↔ a < b := by rw [Wk.ltI, (Wk.nat32 ha).1, (Wk.nat32 hb).1]; omega
theorem Wk.eq32 {a b : Nat} (ha : a ≤ 4000) (hb : b ≤ 4000) : Int32.ofNat a = Int32.ofNat b ↔ a = b := by
  constructor
  · intro h; have q := congrArg Int32.toInt h; rw [(Wk.nat32 ha).1, (Wk.nat32 hb).1] at q; omega
  · rintro rfl; rfl
theorem Wk.sub32 {a b : Nat} {v : Int32} (h : b ≤ a) (ha : a ≤ 4000) (hv : Int32.ofNat a - Int32.ofNat b = v) : v = Int32.ofNat (a - b) := by
  have q := Wk.subI hv
  have r := rng32 v
  rw [(Wk.nat32 ha).1, (Wk.nat32 (n := b) (by omega)).1] at q
  exact Wk.eqI (by rw [(Wk.nat32 (n := a - b) (by omega)).1]; omega)
theorem Wk.add32 {a b : Nat} {v : Int32} (h : a + b ≤ 4000) (hv : Int32.ofNat a + Int32.ofNat b = v) : v = Int32.ofNat (a + b) := by
  have q := Wk.addI hv
  have r := rng32 v
  rw [(Wk.nat32 (n := a) (by omega)).1, (Wk.nat32 (n := b) (by omega)).1] at q
  exact Wk.eqI (by rw [(Wk.nat32 (n := a + b) (by omega)).1]; omega)
theorem Wk.nn32 {a : Nat} (ha : a ≤ 4000) : ¬ Int32.ofNat a < 0 := Wk.nn (by rw [(Wk.nat32 ha).1]; omega)
theorem Wk.lenS {args : Array Value} {s : State} {t : Term} {a : Addr} {cl : Cell} {ty : FieldType} {n : Int32} (ht : t.eval args s none [] s = some (.ref a)) (A : Arr s s.heap a cl ty) (h : (Jvm.Cond.eq (.length t) (.int n)).value args s none s [] = some true) : cl.slots.size < 2 ^ 31 ∧ cl.slots.size.toInt32 = n := by
  obtain ⟨x, y, e1, e2, -, kin⟩ := cmp_v (Or.inl h)
  cases (Term.int_eval n).symm.trans e2
  obtain ⟨z, rfl⟩ := kin
  have e3 := gotT (Cond.eq_ints e1 e2) h
  have ha : s.arrayAt? a = some cl := A.fin (Vm.Alike.refl _)
  by_cases q : cl.slots.size < 2 ^ 31
  · refine ⟨q, ?_⟩
    have e4 := len_f ht ha q
    rw [e4] at e1
    cases e1
    exact e3
  · simp [Term.eval, ht, ha, q] at e1
theorem Wk.elemS {args : Array Value} {s : State} {t : Term} {a : Addr} {cl : Cell} {ty : FieldType} {j v : Int32} (ht : t.eval args s none [] s = some (.ref a)) (A : Arr s s.heap a cl ty) (h : (Jvm.Cond.eq (.elem t (.int j)) (.int v)).value args s none s [] = some true) : cl.slots[j.toNatClampNeg]? = some (.int v) := by
  obtain ⟨x, y, e1, e2, -, kin⟩ := cmp_v (Or.inl h)
  cases (Term.int_eval v).symm.trans e2
  obtain ⟨z, rfl⟩ := kin
  cases gotT (Cond.eq_ints e1 e2) h
  exact (elem_in e1 ht (Term.int_eval j) A.1).2
theorem Wk.aryS {Z : State} {h : Heap} {a : Addr} {cl : Cell} {ty : FieldType} {vs : List Value} {n : Int32} (A : Arr Z h a cl ty) (hn : cl.slots.size < 2 ^ 31 ∧ cl.slots.size.toInt32 = n) (hl : n.toNatClampNeg = vs.length) (H : HasL cl 0 vs) (hf : ∀ v ∈ vs, fits ty v = true) : Wk.Ary Z h a ty vs := by
  have hs : cl.slots.size = vs.length := by
    rw [← hl, ← hn.2]
    exact (Int32.toNatClampNeg_ofNat_of_lt hn.1).symm
  refine ⟨cl, A, ?_, by omega, hf⟩
  apply Array.ext
  · simpa using hs
  · intro i h1 h2
    have q := HasL.at (dv := .null) vs 0 H i (by omega)
    rw [Nat.zero_add, Array.getElem?_eq_getElem h1] at q
    have h3 : i < vs.length := by omega
    simpa [List.getD_eq_getElem?_getD, h3] using q
abbrev StN : String := "java/lang/String"
abbrev PcN : String := "jdk/internal/util/Preconditions"
/-- null, or a String -/
def SN (Z : State) (h : Heap) (v : Value) : Prop := v = .null ∨ ∃ x, v = .ref x ∧ Exa Z h x StN
theorem SN.ext {Z : State} {h h' : Heap} {v : Value} (F : SN Z h v) (E : Ext h h') : SN Z h' v := F.imp id fun ⟨x, e, A⟩ => ⟨x, e, A.ext E⟩
theorem SN.wr {Z : State} {h h' : Heap} {v u : Value} {b : Addr} {sl : Nat} (F : SN Z h v) (W : Wr h h' b sl u) : SN Z h' v := F.imp id fun ⟨x, e, A⟩ => ⟨x, e, A.wr W⟩
theorem SN.keep {Z : State} {h h' : Heap} {v : Value} {ws : List Addr} (F : SN Z h v) (K : Keep h h' ws) : SN Z h' v := F.imp id fun ⟨x, e, A⟩ => ⟨x, e, A.keep K⟩
theorem SN.ref {Z : State} {h : Heap} {v : Value} (F : SN Z h v) : v.isRef = true := by rcases F with rfl | ⟨x, rfl, -⟩ <;> rfl
/-- the named sets of the JDK's statics, at the start -/
def Sets (Z : State) : Prop := ∃ (z : Int32) (fm : Value), Sta Z Z.heap StN "COMPACT_STRINGS" "Z" (.int z) ∧ ¬ z = 0 ∧ Sta Z Z.heap PcN "SIOOBE_FORMATTER" "Ljava/util/function/BiFunction;" fm ∧ fm.isRef = true
theorem w0 {a0 : Array Value} {Z : State} (hw : Ws a0 Z) : (Jvm.Cond.arrayClass Jvm.ClassFile.FieldType.int).before a0 Z = true := hw _ (List.mem_of_getElem? (i := 0) rfl)
theorem w1 {a0 : Array Value} {Z : State} (hw : Ws a0 Z) : (Jvm.Cond.constant "com/example/scopegate/scopegate/token/Base64UrlDecodePinLaw" (7 : Nat) (2147483647 : Int32)).before a0 Z = true := hw _ (List.mem_of_getElem? (i := 1) rfl)
theorem w2 {a0 : Array Value} {Z : State} (hw : Ws a0 Z) : (Jvm.Cond.constantLong "com/example/scopegate/scopegate/token/Base64UrlDecodePinLaw" (8 : Nat) (281474976710655 : Int64)).before a0 Z = true := hw _ (List.mem_of_getElem? (i := 2) rfl)
theorem w3 {a0 : Array Value} {Z : State} (hw : Ws a0 Z) : (Jvm.Cond.arrayClass Jvm.ClassFile.FieldType.char).before a0 Z = true := hw _ (List.mem_of_getElem? (i := 3) rfl)
theorem w4 {a0 : Array Value} {Z : State} (hw : Ws a0 Z) : (Jvm.Cond.methodLink "com/example/scopegate/scopegate/token/Base64UrlDecodePinLaw" (10 : Nat) ({ cls := "com/example/scopegate/scopegate/token/Base64UrlDecodePinLaw", name := "at", desc := "(IIIJJ)C" } : Jvm.MethodName)).before a0 Z = true := hw _ (List.mem_of_getElem? (i := 4) rfl)
theorem w5 {a0 : Array Value} {Z : State} (hw : Ws a0 Z) : (Jvm.Cond.static ({ cls := "com/example/scopegate/scopegate/token/Base64UrlDecodePinLaw", name := "at", desc := "(IIIJJ)C" } : Jvm.MethodName)).before a0 Z = true := hw _ (List.mem_of_getElem? (i := 5) rfl)
theorem w6 {a0 : Array Value} {Z : State} (hw : Ws a0 Z) : (Jvm.Cond.initialized "com/example/scopegate/scopegate/token/Base64UrlDecodePinLaw").before a0 Z = true := hw _ (List.mem_of_getElem? (i := 6) rfl)
theorem w7 {a0 : Array Value} {Z : State} (hw : Ws a0 Z) : (Jvm.Cond.code ({ cls := "com/example/scopegate/scopegate/token/Base64UrlDecodePinLaw", name := "at", desc := "(IIIJJ)C" } : Jvm.MethodName) method_3_code (7 : Nat) (Option.some Jvm.ClassFile.FieldType.char)).before a0 Z = true := hw _ (List.mem_of_getElem? (i := 7) rfl)
theorem w8 {a0 : Array Value} {Z : State} (hw : Ws a0 Z) : (Jvm.Cond.constantLong "com/example/scopegate/scopegate/token/Base64UrlDecodePinLaw" (37 : Nat) (255 : Int64)).before a0 Z = true := hw _ (List.mem_of_getElem? (i := 8) rfl)
theorem w9 {a0 : Array Value} {Z : State} (hw : Ws a0 Z) : (Jvm.Cond.classLink "com/example/scopegate/scopegate/token/Base64UrlDecodePinLaw" (16 : Nat) "java/lang/String").before a0 Z = true := hw _ (List.mem_of_getElem? (i := 9) rfl)
theorem w10 {a0 : Array Value} {Z : State} (hw : Ws a0 Z) : (Jvm.Cond.instantiable "java/lang/String" (4 : Nat)).before a0 Z = true := hw _ (List.mem_of_getElem? (i := 10) rfl)
theorem w11 {a0 : Array Value} {Z : State} (hw : Ws a0 Z) : (Jvm.Cond.initialized "java/lang/String").before a0 Z = true := hw _ (List.mem_of_getElem? (i := 11) rfl)
theorem w12 {a0 : Array Value} {Z : State} (hw : Ws a0 Z) : (Jvm.Cond.methodLink "com/example/scopegate/scopegate/token/Base64UrlDecodePinLaw" (18 : Nat) ({ cls := "java/lang/String", name := "<init>", desc := "([C)V" } : Jvm.MethodName)).before a0 Z = true := hw _ (List.mem_of_getElem? (i := 12) rfl)
theorem w13 {a0 : Array Value} {Z : State} (hw : Ws a0 Z) : (Jvm.Cond.instanceMethod ({ cls := "java/lang/String", name := "<init>", desc := "([C)V" } : Jvm.MethodName)).before a0 Z = true := hw _ (List.mem_of_getElem? (i := 13) rfl)
theorem w14 {a0 : Array Value} {Z : State} (hw : Ws a0 Z) : (Jvm.Cond.code ({ cls := "java/lang/String", name := "<init>", desc := "([C)V" } : Jvm.MethodName) jdk_42_method_3_code (2 : Nat) (Option.none : Option Jvm.ClassFile.FieldType)).before a0 Z = true := hw _ (List.mem_of_getElem? (i := 14) rfl)
theorem w19 {a0 : Array Value} {Z : State} (hw : Ws a0 Z) : (Jvm.Cond.methodLink "java/lang/String" (1 : Nat) ({ cls := "java/lang/Object", name := "<init>", desc := "()V" } : Jvm.MethodName)).before a0 Z = true := hw _ (List.mem_of_getElem? (i := 19) rfl)
theorem w20 {a0 : Array Value} {Z : State} (hw : Ws a0 Z) : (Jvm.Cond.instanceMethod ({ cls := "java/lang/Object", name := "<init>", desc := "()V" } : Jvm.MethodName)).before a0 Z = true := hw _ (List.mem_of_getElem? (i := 20) rfl)
theorem w21 {a0 : Array Value} {Z : State} (hw : Ws a0 Z) : (Jvm.Cond.code ({ cls := "java/lang/Object", name := "<init>", desc := "()V" } : Jvm.MethodName) object_method_1_code (1 : Nat) (Option.none : Option Jvm.ClassFile.FieldType)).before a0 Z = true := hw _ (List.mem_of_getElem? (i := 21) rfl)
theorem w22 {a0 : Array Value} {Z : State} (hw : Ws a0 Z) : (Jvm.Cond.fieldLink "java/lang/String" (38 : Nat) "java/lang/String" "COMPACT_STRINGS" "Z").before a0 Z = true := hw _ (List.mem_of_getElem? (i := 22) rfl)
theorem w27 {a0 : Array Value} {Z : State} (hw : Ws a0 Z) : (Jvm.Cond.arrayClass Jvm.ClassFile.FieldType.byte).before a0 Z = true := hw _ (List.mem_of_getElem? (i := 27) rfl)
theorem w34 {a0 : Array Value} {Z : State} (hw : Ws a0 Z) : (Jvm.Cond.fieldLink "java/lang/String" (15 : Nat) "java/lang/String" "coder" "B").before a0 Z = true := hw _ (List.mem_of_getElem? (i := 34) rfl)
theorem w35 {a0 : Array Value} {Z : State} (hw : Ws a0 Z) : (Jvm.Cond.laysFinal "java/lang/String" "java/lang/String" "coder" "B").before a0 Z = true := hw _ (List.mem_of_getElem? (i := 35) rfl)
theorem w36 {a0 : Array Value} {Z : State} (hw : Ws a0 Z) : (Jvm.Cond.fieldLink "java/lang/String" (9 : Nat) "java/lang/String" "value" "[B").before a0 Z = true := hw _ (List.mem_of_getElem? (i := 36) rfl)
theorem w37 {a0 : Array Value} {Z : State} (hw : Ws a0 Z) : (Jvm.Cond.laysFinal "java/lang/String" "java/lang/String" "value" "[B").before a0 Z = true := hw _ (List.mem_of_getElem? (i := 37) rfl)
theorem w38 {a0 : Array Value} {Z : State} (hw : Ws a0 Z) : (Jvm.Cond.methodLink "com/example/scopegate/scopegate/token/Base64UrlDecodePinLaw" (21 : Nat) ({ cls := "com/example/scopegate/scopegate/token/Base64Url", name := "decode", desc := "(Ljava/lang/String;II)[B" } : Jvm.MethodName)).before a0 Z = true := hw _ (List.mem_of_getElem? (i := 38) rfl)
theorem w39 {a0 : Array Value} {Z : State} (hw : Ws a0 Z) : (Jvm.Cond.static ({ cls := "com/example/scopegate/scopegate/token/Base64Url", name := "decode", desc := "(Ljava/lang/String;II)[B" } : Jvm.MethodName)).before a0 Z = true := hw _ (List.mem_of_getElem? (i := 39) rfl)
theorem w40 {a0 : Array Value} {Z : State} (hw : Ws a0 Z) : (Jvm.Cond.initialized "com/example/scopegate/scopegate/token/Base64Url").before a0 Z = true := hw _ (List.mem_of_getElem? (i := 40) rfl)
theorem w41 {a0 : Array Value} {Z : State} (hw : Ws a0 Z) : (Jvm.Cond.code ({ cls := "com/example/scopegate/scopegate/token/Base64Url", name := "decode", desc := "(Ljava/lang/String;II)[B" } : Jvm.MethodName) prog_15_method_4_code (3 : Nat) (Option.some (Jvm.ClassFile.FieldType.array Jvm.ClassFile.FieldType.byte))).before a0 Z = true := hw _ (List.mem_of_getElem? (i := 41) rfl)
theorem w42 {a0 : Array Value} {Z : State} (hw : Ws a0 Z) : (Jvm.Cond.fieldLink "com/example/scopegate/scopegate/token/Base64Url" (27 : Nat) "com/example/scopegate/scopegate/token/Base64Url" "DECODER" "Ljava/util/Base64$Decoder;").before a0 Z = true := hw _ (List.mem_of_getElem? (i := 42) rfl)
theorem w43 {a0 : Array Value} {Z : State} (hw : Ws a0 Z) : (Jvm.Cond.laysStatic "com/example/scopegate/scopegate/token/Base64Url" "DECODER" "Ljava/util/Base64$Decoder;").before a0 Z = true := hw _ (List.mem_of_getElem? (i := 43) rfl)
theorem w44 {a0 : Array Value} {Z : State} (hw : Ws a0 Z) : (Jvm.Cond.methodLink "com/example/scopegate/scopegate/token/Base64Url" (31 : Nat) ({ cls := "java/lang/String", name := "substring", desc := "(II)Ljava/lang/String;" } : Jvm.MethodName)).before a0 Z = true := hw _ (List.mem_of_getElem? (i := 44) rfl)
theorem w45 {a0 : Array Value} {Z : State} (hw : Ws a0 Z) : (Jvm.Cond.declares ({ cls := "java/lang/String", name := "substring", desc := "(II)Ljava/lang/String;" } : Jvm.MethodName)).before a0 Z = true := hw _ (List.mem_of_getElem? (i := 45) rfl)
theorem w46 {a0 : Array Value} {Z : State} (hw : Ws a0 Z) : (Jvm.Cond.instanceMethod ({ cls := "java/lang/String", name := "substring", desc := "(II)Ljava/lang/String;" } : Jvm.MethodName)).before a0 Z = true := hw _ (List.mem_of_getElem? (i := 46) rfl)
theorem w47 {a0 : Array Value} {Z : State} (hw : Ws a0 Z) : (Jvm.Cond.selects "java/lang/String" ({ cls := "java/lang/String", name := "substring", desc := "(II)Ljava/lang/String;" } : Jvm.MethodName) ({ cls := "java/lang/String", name := "substring", desc := "(II)Ljava/lang/String;" } : Jvm.MethodName)).before a0 Z = true := hw _ (List.mem_of_getElem? (i := 47) rfl)
theorem w48 {a0 : Array Value} {Z : State} (hw : Ws a0 Z) : (Jvm.Cond.code ({ cls := "java/lang/String", name := "substring", desc := "(II)Ljava/lang/String;" } : Jvm.MethodName) jdk_42_method_92_code (5 : Nat) (Option.some (Jvm.ClassFile.FieldType.object "java/lang/String"))).before a0 Z = true := hw _ (List.mem_of_getElem? (i := 48) rfl)
theorem w49 {a0 : Array Value} {Z : State} (hw : Ws a0 Z) : (Jvm.Cond.methodLink "java/lang/String" (505 : Nat) ({ cls := "java/lang/String", name := "length", desc := "()I" } : Jvm.MethodName)).before a0 Z = true := hw _ (List.mem_of_getElem? (i := 49) rfl)
theorem w50 {a0 : Array Value} {Z : State} (hw : Ws a0 Z) : (Jvm.Cond.declares ({ cls := "java/lang/String", name := "length", desc := "()I" } : Jvm.MethodName)).before a0 Z = true := hw _ (List.mem_of_getElem? (i := 50) rfl)
theorem w51 {a0 : Array Value} {Z : State} (hw : Ws a0 Z) : (Jvm.Cond.instanceMethod ({ cls := "java/lang/String", name := "length", desc := "()I" } : Jvm.MethodName)).before a0 Z = true := hw _ (List.mem_of_getElem? (i := 51) rfl)
theorem w52 {a0 : Array Value} {Z : State} (hw : Ws a0 Z) : (Jvm.Cond.selects "java/lang/String" ({ cls := "java/lang/String", name := "length", desc := "()I" } : Jvm.MethodName) ({ cls := "java/lang/String", name := "length", desc := "()I" } : Jvm.MethodName)).before a0 Z = true := hw _ (List.mem_of_getElem? (i := 52) rfl)
theorem w53 {a0 : Array Value} {Z : State} (hw : Ws a0 Z) : (Jvm.Cond.code ({ cls := "java/lang/String", name := "length", desc := "()I" } : Jvm.MethodName) jdk_42_method_54_code (1 : Nat) (Option.some Jvm.ClassFile.FieldType.int)).before a0 Z = true := hw _ (List.mem_of_getElem? (i := 53) rfl)
theorem w54 {a0 : Array Value} {Z : State} (hw : Ws a0 Z) : (Jvm.Cond.methodLink "java/lang/String" (335 : Nat) ({ cls := "java/lang/String", name := "coder", desc := "()B" } : Jvm.MethodName)).before a0 Z = true := hw _ (List.mem_of_getElem? (i := 54) rfl)
theorem w55 {a0 : Array Value} {Z : State} (hw : Ws a0 Z) : (Jvm.Cond.declares ({ cls := "java/lang/String", name := "coder", desc := "()B" } : Jvm.MethodName)).before a0 Z = true := hw _ (List.mem_of_getElem? (i := 55) rfl)
theorem w56 {a0 : Array Value} {Z : State} (hw : Ws a0 Z) : (Jvm.Cond.instanceMethod ({ cls := "java/lang/String", name := "coder", desc := "()B" } : Jvm.MethodName)).before a0 Z = true := hw _ (List.mem_of_getElem? (i := 56) rfl)
theorem w57 {a0 : Array Value} {Z : State} (hw : Ws a0 Z) : (Jvm.Cond.selects "java/lang/String" ({ cls := "java/lang/String", name := "coder", desc := "()B" } : Jvm.MethodName) ({ cls := "java/lang/String", name := "coder", desc := "()B" } : Jvm.MethodName)).before a0 Z = true := hw _ (List.mem_of_getElem? (i := 57) rfl)
theorem w58 {a0 : Array Value} {Z : State} (hw : Ws a0 Z) : (Jvm.Cond.code ({ cls := "java/lang/String", name := "coder", desc := "()B" } : Jvm.MethodName) jdk_42_method_152_code (1 : Nat) (Option.some Jvm.ClassFile.FieldType.byte)).before a0 Z = true := hw _ (List.mem_of_getElem? (i := 58) rfl)
theorem w59 {a0 : Array Value} {Z : State} (hw : Ws a0 Z) : (Jvm.Cond.methodLink "java/lang/String" (521 : Nat) ({ cls := "java/lang/String", name := "checkBoundsBeginEnd", desc := "(III)V" } : Jvm.MethodName)).before a0 Z = true := hw _ (List.mem_of_getElem? (i := 59) rfl)
theorem w60 {a0 : Array Value} {Z : State} (hw : Ws a0 Z) : (Jvm.Cond.static ({ cls := "java/lang/String", name := "checkBoundsBeginEnd", desc := "(III)V" } : Jvm.MethodName)).before a0 Z = true := hw _ (List.mem_of_getElem? (i := 60) rfl)
theorem w61 {a0 : Array Value} {Z : State} (hw : Ws a0 Z) : (Jvm.Cond.code ({ cls := "java/lang/String", name := "checkBoundsBeginEnd", desc := "(III)V" } : Jvm.MethodName) jdk_42_method_158_code (3 : Nat) (Option.none : Option Jvm.ClassFile.FieldType)).before a0 Z = true := hw _ (List.mem_of_getElem? (i := 61) rfl)
theorem w62 {a0 : Array Value} {Z : State} (hw : Ws a0 Z) : (Jvm.Cond.fieldLink "java/lang/String" (1053 : Nat) "jdk/internal/util/Preconditions" "SIOOBE_FORMATTER" "Ljava/util/function/BiFunction;").before a0 Z = true := hw _ (List.mem_of_getElem? (i := 62) rfl)
theorem w63 {a0 : Array Value} {Z : State} (hw : Ws a0 Z) : (Jvm.Cond.initialized "jdk/internal/util/Preconditions").before a0 Z = true := hw _ (List.mem_of_getElem? (i := 63) rfl)
theorem w64 {a0 : Array Value} {Z : State} (hw : Ws a0 Z) : (Jvm.Cond.methodLink "java/lang/String" (1062 : Nat) ({ cls := "jdk/internal/util/Preconditions", name := "checkFromToIndex", desc := "(IIILjava/util/function/BiFunction;)I" } : Jvm.MethodName)).before a0 Z = true := hw _ (List.mem_of_getElem? (i := 64) rfl)
theorem w65 {a0 : Array Value} {Z : State} (hw : Ws a0 Z) : (Jvm.Cond.static ({ cls := "jdk/internal/util/Preconditions", name := "checkFromToIndex", desc := "(IIILjava/util/function/BiFunction;)I" } : Jvm.MethodName)).before a0 Z = true := hw _ (List.mem_of_getElem? (i := 65) rfl)
theorem w66 {a0 : Array Value} {Z : State} (hw : Ws a0 Z) : (Jvm.Cond.code ({ cls := "jdk/internal/util/Preconditions", name := "checkFromToIndex", desc := "(IIILjava/util/function/BiFunction;)I" } : Jvm.MethodName) jdk_41_method_12_code (4 : Nat) (Option.some Jvm.ClassFile.FieldType.int)).before a0 Z = true := hw _ (List.mem_of_getElem? (i := 66) rfl)
theorem w67 {a0 : Array Value} {Z : State} (hw : Ws a0 Z) : (Jvm.Cond.methodLink "java/lang/String" (492 : Nat) ({ cls := "java/lang/String", name := "isLatin1", desc := "()Z" } : Jvm.MethodName)).before a0 Z = true := hw _ (List.mem_of_getElem? (i := 67) rfl)
theorem w68 {a0 : Array Value} {Z : State} (hw : Ws a0 Z) : (Jvm.Cond.declares ({ cls := "java/lang/String", name := "isLatin1", desc := "()Z" } : Jvm.MethodName)).before a0 Z = true := hw _ (List.mem_of_getElem? (i := 68) rfl)
theorem w69 {a0 : Array Value} {Z : State} (hw : Ws a0 Z) : (Jvm.Cond.instanceMethod ({ cls := "java/lang/String", name := "isLatin1", desc := "()Z" } : Jvm.MethodName)).before a0 Z = true := hw _ (List.mem_of_getElem? (i := 69) rfl)
theorem w70 {a0 : Array Value} {Z : State} (hw : Ws a0 Z) : (Jvm.Cond.selects "java/lang/String" ({ cls := "java/lang/String", name := "isLatin1", desc := "()Z" } : Jvm.MethodName) ({ cls := "java/lang/String", name := "isLatin1", desc := "()Z" } : Jvm.MethodName)).before a0 Z = true := hw _ (List.mem_of_getElem? (i := 70) rfl)
theorem w71 {a0 : Array Value} {Z : State} (hw : Ws a0 Z) : (Jvm.Cond.code ({ cls := "java/lang/String", name := "isLatin1", desc := "()Z" } : Jvm.MethodName) jdk_42_method_154_code (1 : Nat) (Option.some Jvm.ClassFile.FieldType.boolean)).before a0 Z = true := hw _ (List.mem_of_getElem? (i := 71) rfl)
theorem w72 {a0 : Array Value} {Z : State} (hw : Ws a0 Z) : (Jvm.Cond.methodLink "java/lang/String" (685 : Nat) ({ cls := "java/lang/StringLatin1", name := "newString", desc := "([BII)Ljava/lang/String;" } : Jvm.MethodName)).before a0 Z = true := hw _ (List.mem_of_getElem? (i := 72) rfl)
theorem w73 {a0 : Array Value} {Z : State} (hw : Ws a0 Z) : (Jvm.Cond.static ({ cls := "java/lang/StringLatin1", name := "newString", desc := "([BII)Ljava/lang/String;" } : Jvm.MethodName)).before a0 Z = true := hw _ (List.mem_of_getElem? (i := 73) rfl)
theorem w74 {a0 : Array Value} {Z : State} (hw : Ws a0 Z) : (Jvm.Cond.initialized "java/lang/StringLatin1").before a0 Z = true := hw _ (List.mem_of_getElem? (i := 74) rfl)
theorem w75 {a0 : Array Value} {Z : State} (hw : Ws a0 Z) : (Jvm.Cond.code ({ cls := "java/lang/StringLatin1", name := "newString", desc := "([BII)Ljava/lang/String;" } : Jvm.MethodName) jdk_43_method_47_code (3 : Nat) (Option.some (Jvm.ClassFile.FieldType.object "java/lang/String"))).before a0 Z = true := hw _ (List.mem_of_getElem? (i := 75) rfl)
theorem w76 {a0 : Array Value} {Z : State} (hw : Ws a0 Z) : (Jvm.Cond.stringLink "java/lang/StringLatin1" (151 : Nat) "").before a0 Z = true := hw _ (List.mem_of_getElem? (i := 76) rfl)
theorem w77 {a0 : Array Value} {Z : State} (hw : Ws a0 Z) : (Jvm.Cond.soleField "java/lang/String" "value").before a0 Z = true := hw _ (List.mem_of_getElem? (i := 77) rfl)
theorem w78 {a0 : Array Value} {Z : State} (hw : Ws a0 Z) : (Jvm.Cond.soleField "java/lang/String" "coder").before a0 Z = true := hw _ (List.mem_of_getElem? (i := 78) rfl)
theorem w79 {a0 : Array Value} {Z : State} (hw : Ws a0 Z) : (Jvm.Cond.methodLink "com/example/scopegate/scopegate/token/Base64Url" (35 : Nat) ({ cls := "java/util/Base64$Decoder", name := "decode", desc := "(Ljava/lang/String;)[B" } : Jvm.MethodName)).before a0 Z = true := hw _ (List.mem_of_getElem? (i := 79) rfl)
theorem w80 {a0 : Array Value} {Z : State} (hw : Ws a0 Z) : (Jvm.Cond.declares ({ cls := "java/util/Base64$Decoder", name := "decode", desc := "(Ljava/lang/String;)[B" } : Jvm.MethodName)).before a0 Z = true := hw _ (List.mem_of_getElem? (i := 80) rfl)
theorem w81 {a0 : Array Value} {Z : State} (hw : Ws a0 Z) : (Jvm.Cond.instanceMethod ({ cls := "java/util/Base64$Decoder", name := "decode", desc := "(Ljava/lang/String;)[B" } : Jvm.MethodName)).before a0 Z = true := hw _ (List.mem_of_getElem? (i := 81) rfl)
theorem w82 {a0 : Array Value} {Z : State} (hw : Ws a0 Z) : (Jvm.Cond.selects "java/util/Base64$Decoder" ({ cls := "java/util/Base64$Decoder", name := "decode", desc := "(Ljava/lang/String;)[B" } : Jvm.MethodName) ({ cls := "java/util/Base64$Decoder", name := "decode", desc := "(Ljava/lang/String;)[B" } : Jvm.MethodName)).before a0 Z = true := hw _ (List.mem_of_getElem? (i := 82) rfl)
theorem w83 {a0 : Array Value} {Z : State} (hw : Ws a0 Z) : (Jvm.Cond.initialized "java/util/Base64$Decoder").before a0 Z = true := hw _ (List.mem_of_getElem? (i := 83) rfl)
theorem w84 {a0 : Array Value} {Z : State} (hw : Ws a0 Z) : (Jvm.Cond.code ({ cls := "java/util/Base64$Decoder", name := "decode", desc := "(Ljava/lang/String;)[B" } : Jvm.MethodName) jdk_2450_method_3_code (2 : Nat) (Option.some (Jvm.ClassFile.FieldType.array Jvm.ClassFile.FieldType.byte))).before a0 Z = true := hw _ (List.mem_of_getElem? (i := 84) rfl)
theorem w85 {a0 : Array Value} {Z : State} (hw : Ws a0 Z) : (Jvm.Cond.fieldLink "java/util/Base64$Decoder" (30 : Nat) "sun/nio/cs/ISO_8859_1" "INSTANCE" "Lsun/nio/cs/ISO_8859_1;").before a0 Z = true := hw _ (List.mem_of_getElem? (i := 85) rfl)
theorem w87 {a0 : Array Value} {Z : State} (hw : Ws a0 Z) : (Jvm.Cond.methodLink "java/util/Base64$Decoder" (36 : Nat) ({ cls := "java/lang/String", name := "getBytes", desc := "(Ljava/nio/charset/Charset;)[B" } : Jvm.MethodName)).before a0 Z = true := hw _ (List.mem_of_getElem? (i := 87) rfl)
theorem w88 {a0 : Array Value} {Z : State} (hw : Ws a0 Z) : (Jvm.Cond.declares ({ cls := "java/lang/String", name := "getBytes", desc := "(Ljava/nio/charset/Charset;)[B" } : Jvm.MethodName)).before a0 Z = true := hw _ (List.mem_of_getElem? (i := 88) rfl)
theorem w89 {a0 : Array Value} {Z : State} (hw : Ws a0 Z) : (Jvm.Cond.instanceMethod ({ cls := "java/lang/String", name := "getBytes", desc := "(Ljava/nio/charset/Charset;)[B" } : Jvm.MethodName)).before a0 Z = true := hw _ (List.mem_of_getElem? (i := 89) rfl)
theorem w90 {a0 : Array Value} {Z : State} (hw : Ws a0 Z) : (Jvm.Cond.selects "java/lang/String" ({ cls := "java/lang/String", name := "getBytes", desc := "(Ljava/nio/charset/Charset;)[B" } : Jvm.MethodName) ({ cls := "java/lang/String", name := "getBytes", desc := "(Ljava/nio/charset/Charset;)[B" } : Jvm.MethodName)).before a0 Z = true := hw _ (List.mem_of_getElem? (i := 90) rfl)
theorem w91 {a0 : Array Value} {Z : State} (hw : Ws a0 Z) : (Jvm.Cond.code ({ cls := "java/lang/String", name := "getBytes", desc := "(Ljava/nio/charset/Charset;)[B" } : Jvm.MethodName) jdk_42_method_64_code (2 : Nat) (Option.some (Jvm.ClassFile.FieldType.array Jvm.ClassFile.FieldType.byte))).before a0 Z = true := hw _ (List.mem_of_getElem? (i := 91) rfl)
theorem w92 {a0 : Array Value} {Z : State} (hw : Ws a0 Z) : (Jvm.Cond.methodLink "java/lang/String" (535 : Nat) ({ cls := "java/lang/String", name := "encode", desc := "(Ljava/nio/charset/Charset;B[B)[B" } : Jvm.MethodName)).before a0 Z = true := hw _ (List.mem_of_getElem? (i := 92) rfl)
theorem w93 {a0 : Array Value} {Z : State} (hw : Ws a0 Z) : (Jvm.Cond.static ({ cls := "java/lang/String", name := "encode", desc := "(Ljava/nio/charset/Charset;B[B)[B" } : Jvm.MethodName)).before a0 Z = true := hw _ (List.mem_of_getElem? (i := 93) rfl)
theorem w94 {a0 : Array Value} {Z : State} (hw : Ws a0 Z) : (Jvm.Cond.code ({ cls := "java/lang/String", name := "encode", desc := "(Ljava/nio/charset/Charset;B[B)[B" } : Jvm.MethodName) jdk_42_method_18_code (3 : Nat) (Option.some (Jvm.ClassFile.FieldType.array Jvm.ClassFile.FieldType.byte))).before a0 Z = true := hw _ (List.mem_of_getElem? (i := 94) rfl)
theorem w95 {a0 : Array Value} {Z : State} (hw : Ws a0 Z) : (Jvm.Cond.fieldLink "java/lang/String" (86 : Nat) "sun/nio/cs/UTF_8" "INSTANCE" "Lsun/nio/cs/UTF_8;").before a0 Z = true := hw _ (List.mem_of_getElem? (i := 95) rfl)
theorem w97 {a0 : Array Value} {Z : State} (hw : Ws a0 Z) : (Jvm.Cond.fieldLink "java/lang/String" (116 : Nat) "sun/nio/cs/ISO_8859_1" "INSTANCE" "Lsun/nio/cs/ISO_8859_1;").before a0 Z = true := hw _ (List.mem_of_getElem? (i := 97) rfl)
theorem w98 {a0 : Array Value} {Z : State} (hw : Ws a0 Z) : (Jvm.Cond.methodLink "java/lang/String" (256 : Nat) ({ cls := "java/lang/String", name := "encode8859_1", desc := "(B[B)[B" } : Jvm.MethodName)).before a0 Z = true := hw _ (List.mem_of_getElem? (i := 98) rfl)
theorem w99 {a0 : Array Value} {Z : State} (hw : Ws a0 Z) : (Jvm.Cond.static ({ cls := "java/lang/String", name := "encode8859_1", desc := "(B[B)[B" } : Jvm.MethodName)).before a0 Z = true := hw _ (List.mem_of_getElem? (i := 99) rfl)
theorem w100 {a0 : Array Value} {Z : State} (hw : Ws a0 Z) : (Jvm.Cond.code ({ cls := "java/lang/String", name := "encode8859_1", desc := "(B[B)[B" } : Jvm.MethodName) jdk_42_method_26_code (2 : Nat) (Option.some (Jvm.ClassFile.FieldType.array Jvm.ClassFile.FieldType.byte))).before a0 Z = true := hw _ (List.mem_of_getElem? (i := 100) rfl)
theorem w101 {a0 : Array Value} {Z : State} (hw : Ws a0 Z) : (Jvm.Cond.methodLink "java/lang/String" (351 : Nat) ({ cls := "java/lang/String", name := "encode8859_1", desc := "(B[BZ)[B" } : Jvm.MethodName)).before a0 Z = true := hw _ (List.mem_of_getElem? (i := 101) rfl)
theorem w102 {a0 : Array Value} {Z : State} (hw : Ws a0 Z) : (Jvm.Cond.static ({ cls := "java/lang/String", name := "encode8859_1", desc := "(B[BZ)[B" } : Jvm.MethodName)).before a0 Z = true := hw _ (List.mem_of_getElem? (i := 102) rfl)
theorem w103 {a0 : Array Value} {Z : State} (hw : Ws a0 Z) : (Jvm.Cond.code ({ cls := "java/lang/String", name := "encode8859_1", desc := "(B[BZ)[B" } : Jvm.MethodName) jdk_42_method_27_code (10 : Nat) (Option.some (Jvm.ClassFile.FieldType.array Jvm.ClassFile.FieldType.byte))).before a0 Z = true := hw _ (List.mem_of_getElem? (i := 103) rfl)
theorem w104 {a0 : Array Value} {Z : State} (hw : Ws a0 Z) : (Jvm.Cond.methodLink "java/lang/String" (279 : Nat) ({ cls := "[B", name := "clone", desc := "()Ljava/lang/Object;" } : Jvm.MethodName)).before a0 Z = true := hw _ (List.mem_of_getElem? (i := 104) rfl)
theorem w105 {a0 : Array Value} {Z : State} (hw : Ws a0 Z) : (Jvm.Cond.sameMethod "[B" "java/lang/Object" "clone" "()Ljava/lang/Object;").before a0 Z = true := hw _ (List.mem_of_getElem? (i := 105) rfl)
theorem w107 {a0 : Array Value} {Z : State} (hw : Ws a0 Z) : (Jvm.Cond.instanceMethod ({ cls := "java/lang/Object", name := "clone", desc := "()Ljava/lang/Object;" } : Jvm.MethodName)).before a0 Z = true := hw _ (List.mem_of_getElem? (i := 107) rfl)
theorem w108 {a0 : Array Value} {Z : State} (hw : Ws a0 Z) : (Jvm.Cond.selects "[B" ({ cls := "[B", name := "clone", desc := "()Ljava/lang/Object;" } : Jvm.MethodName) ({ cls := "java/lang/Object", name := "clone", desc := "()Ljava/lang/Object;" } : Jvm.MethodName)).before a0 Z = true := hw _ (List.mem_of_getElem? (i := 108) rfl)
theorem w109 {a0 : Array Value} {Z : State} (hw : Ws a0 Z) : (Jvm.Cond.native ({ cls := "java/lang/Object", name := "clone", desc := "()Ljava/lang/Object;" } : Jvm.MethodName)).before a0 Z = true := hw _ (List.mem_of_getElem? (i := 109) rfl)
theorem w110 {a0 : Array Value} {Z : State} (hw : Ws a0 Z) : (Jvm.Cond.castable "[B" "java/lang/Cloneable").before a0 Z = true := hw _ (List.mem_of_getElem? (i := 110) rfl)
theorem w111 {a0 : Array Value} {Z : State} (hw : Ws a0 Z) : (Jvm.Cond.classLink "java/lang/String" (280 : Nat) "[B").before a0 Z = true := hw _ (List.mem_of_getElem? (i := 111) rfl)
theorem w113 {a0 : Array Value} {Z : State} (hw : Ws a0 Z) : (Jvm.Cond.methodLink "java/util/Base64$Decoder" (42 : Nat) ({ cls := "java/util/Base64$Decoder", name := "decode", desc := "([B)[B" } : Jvm.MethodName)).before a0 Z = true := hw _ (List.mem_of_getElem? (i := 113) rfl)
theorem w114 {a0 : Array Value} {Z : State} (hw : Ws a0 Z) : (Jvm.Cond.declares ({ cls := "java/util/Base64$Decoder", name := "decode", desc := "([B)[B" } : Jvm.MethodName)).before a0 Z = true := hw _ (List.mem_of_getElem? (i := 114) rfl)
theorem w115 {a0 : Array Value} {Z : State} (hw : Ws a0 Z) : (Jvm.Cond.instanceMethod ({ cls := "java/util/Base64$Decoder", name := "decode", desc := "([B)[B" } : Jvm.MethodName)).before a0 Z = true := hw _ (List.mem_of_getElem? (i := 115) rfl)
theorem w116 {a0 : Array Value} {Z : State} (hw : Ws a0 Z) : (Jvm.Cond.selects "java/util/Base64$Decoder" ({ cls := "java/util/Base64$Decoder", name := "decode", desc := "([B)[B" } : Jvm.MethodName) ({ cls := "java/util/Base64$Decoder", name := "decode", desc := "([B)[B" } : Jvm.MethodName)).before a0 Z = true := hw _ (List.mem_of_getElem? (i := 116) rfl)
theorem w117 {a0 : Array Value} {Z : State} (hw : Ws a0 Z) : (Jvm.Cond.code ({ cls := "java/util/Base64$Decoder", name := "decode", desc := "([B)[B" } : Jvm.MethodName) jdk_2450_method_2_code (4 : Nat) (Option.some (Jvm.ClassFile.FieldType.array Jvm.ClassFile.FieldType.byte))).before a0 Z = true := hw _ (List.mem_of_getElem? (i := 117) rfl)
theorem w118 {a0 : Array Value} {Z : State} (hw : Ws a0 Z) : (Jvm.Cond.methodLink "java/util/Base64$Decoder" (16 : Nat) ({ cls := "java/util/Base64$Decoder", name := "decodedOutLength", desc := "([BII)I" } : Jvm.MethodName)).before a0 Z = true := hw _ (List.mem_of_getElem? (i := 118) rfl)
theorem w119 {a0 : Array Value} {Z : State} (hw : Ws a0 Z) : (Jvm.Cond.instanceMethod ({ cls := "java/util/Base64$Decoder", name := "decodedOutLength", desc := "([BII)I" } : Jvm.MethodName)).before a0 Z = true := hw _ (List.mem_of_getElem? (i := 119) rfl)
theorem w121 {a0 : Array Value} {Z : State} (hw : Ws a0 Z) : (Jvm.Cond.selects "java/util/Base64$Decoder" ({ cls := "java/util/Base64$Decoder", name := "decodedOutLength", desc := "([BII)I" } : Jvm.MethodName) ({ cls := "java/util/Base64$Decoder", name := "decodedOutLength", desc := "([BII)I" } : Jvm.MethodName)).before a0 Z = true := hw _ (List.mem_of_getElem? (i := 121) rfl)
theorem w122 {a0 : Array Value} {Z : State} (hw : Ws a0 Z) : (Jvm.Cond.code ({ cls := "java/util/Base64$Decoder", name := "decodedOutLength", desc := "([BII)I" } : Jvm.MethodName) jdk_2450_method_7_code (9 : Nat) (Option.some Jvm.ClassFile.FieldType.int)).before a0 Z = true := hw _ (List.mem_of_getElem? (i := 122) rfl)
theorem w123 {a0 : Array Value} {Z : State} (hw : Ws a0 Z) : (Jvm.Cond.fieldLink "java/util/Base64$Decoder" (7 : Nat) "java/util/Base64$Decoder" "isURL" "Z").before a0 Z = true := hw _ (List.mem_of_getElem? (i := 123) rfl)
theorem w125 {a0 : Array Value} {Z : State} (hw : Ws a0 Z) : (Jvm.Cond.fieldLink "java/util/Base64$Decoder" (95 : Nat) "java/util/Base64$Decoder" "fromBase64URL" "[I").before a0 Z = true := hw _ (List.mem_of_getElem? (i := 125) rfl)
theorem w126 {a0 : Array Value} {Z : State} (hw : Ws a0 Z) : (Jvm.Cond.methodLink "java/util/Base64$Decoder" (20 : Nat) ({ cls := "java/util/Base64$Decoder", name := "decode0", desc := "([BII[B)I" } : Jvm.MethodName)).before a0 Z = true := hw _ (List.mem_of_getElem? (i := 126) rfl)
theorem w127 {a0 : Array Value} {Z : State} (hw : Ws a0 Z) : (Jvm.Cond.instanceMethod ({ cls := "java/util/Base64$Decoder", name := "decode0", desc := "([BII[B)I" } : Jvm.MethodName)).before a0 Z = true := hw _ (List.mem_of_getElem? (i := 127) rfl)
theorem w129 {a0 : Array Value} {Z : State} (hw : Ws a0 Z) : (Jvm.Cond.selects "java/util/Base64$Decoder" ({ cls := "java/util/Base64$Decoder", name := "decode0", desc := "([BII[B)I" } : Jvm.MethodName) ({ cls := "java/util/Base64$Decoder", name := "decode0", desc := "([BII[B)I" } : Jvm.MethodName)).before a0 Z = true := hw _ (List.mem_of_getElem? (i := 129) rfl)
theorem w130 {a0 : Array Value} {Z : State} (hw : Ws a0 Z) : (Jvm.Cond.code ({ cls := "java/util/Base64$Decoder", name := "decode0", desc := "([BII[B)I" } : Jvm.MethodName) jdk_2450_method_9_code (11 : Nat) (Option.some Jvm.ClassFile.FieldType.int)).before a0 Z = true := hw _ (List.mem_of_getElem? (i := 130) rfl)
theorem w131 {a0 : Array Value} {Z : State} (hw : Ws a0 Z) : (Jvm.Cond.methodLink "com/example/scopegate/scopegate/token/Base64UrlDecodePinLaw" (27 : Nat) ({ cls := "com/example/scopegate/scopegate/token/Base64UrlDecodePinLaw", name := "ok", desc := "([BIIJ)Z" } : Jvm.MethodName)).before a0 Z = true := hw _ (List.mem_of_getElem? (i := 131) rfl)
theorem w132 {a0 : Array Value} {Z : State} (hw : Ws a0 Z) : (Jvm.Cond.static ({ cls := "com/example/scopegate/scopegate/token/Base64UrlDecodePinLaw", name := "ok", desc := "([BIIJ)Z" } : Jvm.MethodName)).before a0 Z = true := hw _ (List.mem_of_getElem? (i := 132) rfl)
theorem w133 {a0 : Array Value} {Z : State} (hw : Ws a0 Z) : (Jvm.Cond.code ({ cls := "com/example/scopegate/scopegate/token/Base64UrlDecodePinLaw", name := "ok", desc := "([BIIJ)Z" } : Jvm.MethodName) method_5_code (5 : Nat) (Option.some Jvm.ClassFile.FieldType.boolean)).before a0 Z = true := hw _ (List.mem_of_getElem? (i := 133) rfl)
theorem w134 {a0 : Array Value} {Z : State} (hw : Ws a0 Z) : (Jvm.Cond.constantLong "com/example/scopegate/scopegate/token/Base64UrlDecodePinLaw" (31 : Nat) (63 : Int64)).before a0 Z = true := hw _ (List.mem_of_getElem? (i := 134) rfl)
theorem w135 {a0 : Array Value} {Z : State} (hw : Ws a0 Z) : (Jvm.Cond.methodLink "com/example/scopegate/scopegate/token/Base64UrlDecodePinLaw" (33 : Nat) ({ cls := "com/example/scopegate/scopegate/token/Base64UrlDecodePinLaw", name := "alpha", desc := "(I)C" } : Jvm.MethodName)).before a0 Z = true := hw _ (List.mem_of_getElem? (i := 135) rfl)
theorem w136 {a0 : Array Value} {Z : State} (hw : Ws a0 Z) : (Jvm.Cond.static ({ cls := "com/example/scopegate/scopegate/token/Base64UrlDecodePinLaw", name := "alpha", desc := "(I)C" } : Jvm.MethodName)).before a0 Z = true := hw _ (List.mem_of_getElem? (i := 136) rfl)
theorem w137 {a0 : Array Value} {Z : State} (hw : Ws a0 Z) : (Jvm.Cond.code ({ cls := "com/example/scopegate/scopegate/token/Base64UrlDecodePinLaw", name := "alpha", desc := "(I)C" } : Jvm.MethodName) method_4_code (1 : Nat) (Option.some Jvm.ClassFile.FieldType.char)).before a0 Z = true := hw _ (List.mem_of_getElem? (i := 137) rfl)
theorem w138 {a0 : Array Value} {Z : State} (hw : Ws a0 Z) : (Jvm.Cond.classLink "java/lang/StringLatin1" (1 : Nat) "java/lang/String").before a0 Z = true := hw _ (List.mem_of_getElem? (i := 138) rfl)
theorem w139 {a0 : Array Value} {Z : State} (hw : Ws a0 Z) : (Jvm.Cond.methodLink "java/lang/StringLatin1" (232 : Nat) ({ cls := "java/util/Arrays", name := "copyOfRange", desc := "([BII)[B" } : Jvm.MethodName)).before a0 Z = true := hw _ (List.mem_of_getElem? (i := 139) rfl)
theorem w140 {a0 : Array Value} {Z : State} (hw : Ws a0 Z) : (Jvm.Cond.static ({ cls := "java/util/Arrays", name := "copyOfRange", desc := "([BII)[B" } : Jvm.MethodName)).before a0 Z = true := hw _ (List.mem_of_getElem? (i := 140) rfl)
theorem w141 {a0 : Array Value} {Z : State} (hw : Ws a0 Z) : (Jvm.Cond.initialized "java/util/Arrays").before a0 Z = true := hw _ (List.mem_of_getElem? (i := 141) rfl)
theorem w142 {a0 : Array Value} {Z : State} (hw : Ws a0 Z) : (Jvm.Cond.code ({ cls := "java/util/Arrays", name := "copyOfRange", desc := "([BII)[B" } : Jvm.MethodName) jdk_65_method_132_code (3 : Nat) (Option.some (Jvm.ClassFile.FieldType.array Jvm.ClassFile.FieldType.byte))).before a0 Z = true := hw _ (List.mem_of_getElem? (i := 142) rfl)
theorem w143 {a0 : Array Value} {Z : State} (hw : Ws a0 Z) : (Jvm.Cond.methodLink "java/util/Arrays" (339 : Nat) ({ cls := "java/util/Arrays", name := "copyOfRangeByte", desc := "([BII)[B" } : Jvm.MethodName)).before a0 Z = true := hw _ (List.mem_of_getElem? (i := 143) rfl)
theorem w144 {a0 : Array Value} {Z : State} (hw : Ws a0 Z) : (Jvm.Cond.static ({ cls := "java/util/Arrays", name := "copyOfRangeByte", desc := "([BII)[B" } : Jvm.MethodName)).before a0 Z = true := hw _ (List.mem_of_getElem? (i := 144) rfl)
theorem w145 {a0 : Array Value} {Z : State} (hw : Ws a0 Z) : (Jvm.Cond.code ({ cls := "java/util/Arrays", name := "copyOfRangeByte", desc := "([BII)[B" } : Jvm.MethodName) jdk_65_method_133_code (5 : Nat) (Option.some (Jvm.ClassFile.FieldType.array Jvm.ClassFile.FieldType.byte))).before a0 Z = true := hw _ (List.mem_of_getElem? (i := 145) rfl)
theorem w146 {a0 : Array Value} {Z : State} (hw : Ws a0 Z) : (Jvm.Cond.methodLink "java/util/Arrays" (343 : Nat) ({ cls := "java/util/Arrays", name := "checkLength", desc := "(II)V" } : Jvm.MethodName)).before a0 Z = true := hw _ (List.mem_of_getElem? (i := 146) rfl)
theorem w147 {a0 : Array Value} {Z : State} (hw : Ws a0 Z) : (Jvm.Cond.static ({ cls := "java/util/Arrays", name := "checkLength", desc := "(II)V" } : Jvm.MethodName)).before a0 Z = true := hw _ (List.mem_of_getElem? (i := 147) rfl)
theorem w148 {a0 : Array Value} {Z : State} (hw : Ws a0 Z) : (Jvm.Cond.code ({ cls := "java/util/Arrays", name := "checkLength", desc := "(II)V" } : Jvm.MethodName) jdk_65_method_131_code (2 : Nat) (Option.none : Option Jvm.ClassFile.FieldType)).before a0 Z = true := hw _ (List.mem_of_getElem? (i := 148) rfl)
theorem w149 {a0 : Array Value} {Z : State} (hw : Ws a0 Z) : (Jvm.Cond.methodLink "java/util/Arrays" (304 : Nat) ({ cls := "java/lang/Math", name := "min", desc := "(II)I" } : Jvm.MethodName)).before a0 Z = true := hw _ (List.mem_of_getElem? (i := 149) rfl)
theorem w150 {a0 : Array Value} {Z : State} (hw : Ws a0 Z) : (Jvm.Cond.static ({ cls := "java/lang/Math", name := "min", desc := "(II)I" } : Jvm.MethodName)).before a0 Z = true := hw _ (List.mem_of_getElem? (i := 150) rfl)
theorem w151 {a0 : Array Value} {Z : State} (hw : Ws a0 Z) : (Jvm.Cond.initialized "java/lang/Math").before a0 Z = true := hw _ (List.mem_of_getElem? (i := 151) rfl)
theorem w152 {a0 : Array Value} {Z : State} (hw : Ws a0 Z) : (Jvm.Cond.code ({ cls := "java/lang/Math", name := "min", desc := "(II)I" } : Jvm.MethodName) jdk_29_method_69_code (2 : Nat) (Option.some Jvm.ClassFile.FieldType.int)).before a0 Z = true := hw _ (List.mem_of_getElem? (i := 152) rfl)
theorem w153 {a0 : Array Value} {Z : State} (hw : Ws a0 Z) : (Jvm.Cond.methodLink "java/util/Arrays" (150 : Nat) ({ cls := "java/lang/System", name := "arraycopy", desc := "(Ljava/lang/Object;ILjava/lang/Object;II)V" } : Jvm.MethodName)).before a0 Z = true := hw _ (List.mem_of_getElem? (i := 153) rfl)
theorem w154 {a0 : Array Value} {Z : State} (hw : Ws a0 Z) : (Jvm.Cond.static ({ cls := "java/lang/System", name := "arraycopy", desc := "(Ljava/lang/Object;ILjava/lang/Object;II)V" } : Jvm.MethodName)).before a0 Z = true := hw _ (List.mem_of_getElem? (i := 154) rfl)
theorem w155 {a0 : Array Value} {Z : State} (hw : Ws a0 Z) : (Jvm.Cond.initialized "java/lang/System").before a0 Z = true := hw _ (List.mem_of_getElem? (i := 155) rfl)
theorem w156 {a0 : Array Value} {Z : State} (hw : Ws a0 Z) : (Jvm.Cond.native ({ cls := "java/lang/System", name := "arraycopy", desc := "(Ljava/lang/Object;ILjava/lang/Object;II)V" } : Jvm.MethodName)).before a0 Z = true := hw _ (List.mem_of_getElem? (i := 156) rfl)
theorem w157 {a0 : Array Value} {Z : State} (hw : Ws a0 Z) : (Jvm.Cond.methodLink "java/lang/StringLatin1" (112 : Nat) ({ cls := "java/lang/String", name := "<init>", desc := "([BB)V" } : Jvm.MethodName)).before a0 Z = true := hw _ (List.mem_of_getElem? (i := 157) rfl)
theorem w158 {a0 : Array Value} {Z : State} (hw : Ws a0 Z) : (Jvm.Cond.instanceMethod ({ cls := "java/lang/String", name := "<init>", desc := "([BB)V" } : Jvm.MethodName)).before a0 Z = true := hw _ (List.mem_of_getElem? (i := 158) rfl)
theorem w159 {a0 : Array Value} {Z : State} (hw : Ws a0 Z) : (Jvm.Cond.code ({ cls := "java/lang/String", name := "<init>", desc := "([BB)V" } : Jvm.MethodName) jdk_42_method_151_code (3 : Nat) (Option.none : Option Jvm.ClassFile.FieldType)).before a0 Z = true := hw _ (List.mem_of_getElem? (i := 159) rfl)
theorem w160 {a0 : Array Value} {Z : State} (hw : Ws a0 Z) : (Jvm.Cond.fieldLink "java/util/Base64$Decoder" (13 : Nat) "java/util/Base64$Decoder" "isMIME" "Z").before a0 Z = true := hw _ (List.mem_of_getElem? (i := 160) rfl)
theorem w162 {a0 : Array Value} {Z : State} (hw : Ws a0 Z) : (Jvm.Cond.constantLong "java/util/Base64$Decoder" (107 : Nat) (3 : Int64)).before a0 Z = true := hw _ (List.mem_of_getElem? (i := 162) rfl)
theorem w163 {a0 : Array Value} {Z : State} (hw : Ws a0 Z) : (Jvm.Cond.constantLong "java/util/Base64$Decoder" (109 : Nat) (4 : Int64)).before a0 Z = true := hw _ (List.mem_of_getElem? (i := 163) rfl)
theorem w164 {a0 : Array Value} {Z : State} (hw : Ws a0 Z) : (Jvm.Cond.methodLink "java/util/Base64$Decoder" (111 : Nat) ({ cls := "java/util/Base64$Decoder", name := "decodeBlock", desc := "([BII[BIZZ)I" } : Jvm.MethodName)).before a0 Z = true := hw _ (List.mem_of_getElem? (i := 164) rfl)
theorem w165 {a0 : Array Value} {Z : State} (hw : Ws a0 Z) : (Jvm.Cond.instanceMethod ({ cls := "java/util/Base64$Decoder", name := "decodeBlock", desc := "([BII[BIZZ)I" } : Jvm.MethodName)).before a0 Z = true := hw _ (List.mem_of_getElem? (i := 165) rfl)
theorem w167 {a0 : Array Value} {Z : State} (hw : Ws a0 Z) : (Jvm.Cond.selects "java/util/Base64$Decoder" ({ cls := "java/util/Base64$Decoder", name := "decodeBlock", desc := "([BII[BIZZ)I" } : Jvm.MethodName) ({ cls := "java/util/Base64$Decoder", name := "decodeBlock", desc := "([BII[BIZZ)I" } : Jvm.MethodName)).before a0 Z = true := hw _ (List.mem_of_getElem? (i := 167) rfl)
theorem w168 {a0 : Array Value} {Z : State} (hw : Ws a0 Z) : (Jvm.Cond.code ({ cls := "java/util/Base64$Decoder", name := "decodeBlock", desc := "([BII[BIZZ)I" } : Jvm.MethodName) jdk_2450_method_8_code (16 : Nat) (Option.some Jvm.ClassFile.FieldType.int)).before a0 Z = true := hw _ (List.mem_of_getElem? (i := 168) rfl)
theorem d_jdk_42m27_0 : decode jdk_42_method_27_code 0 = .ok (.iload_n 0, 1) := by decide +kernel
theorem d_jdk_42m27_1 : decode jdk_42_method_27_code 1 = .ok (.ifCond .ne 11, 3) := by decide +kernel
theorem d_jdk_42m27_4 : decode jdk_42_method_27_code 4 = .ok (.aload_n 1, 1) := by decide +kernel
theorem d_jdk_42m27_5 : decode jdk_42_method_27_code 5 = .ok (.invokevirtual 279, 3) := by decide +kernel
theorem d_jdk_42m27_8 : decode jdk_42_method_27_code 8 = .ok (.checkcast 280, 3) := by decide +kernel
theorem d_jdk_42m27_11 : decode jdk_42_method_27_code 11 = .ok (.areturn, 1) := by decide +kernel
theorem d_jdk_42m26_0 : decode jdk_42_method_26_code 0 = .ok (.iload_n 0, 1) := by decide +kernel
theorem d_jdk_42m26_1 : decode jdk_42_method_26_code 1 = .ok (.aload_n 1, 1) := by decide +kernel
theorem d_jdk_42m26_2 : decode jdk_42_method_26_code 2 = .ok (.iconst 1, 1) := by decide +kernel
theorem d_jdk_42m26_3 : decode jdk_42_method_26_code 3 = .ok (.invokestatic 351, 3) := by decide +kernel
theorem d_jdk_42m26_6 : decode jdk_42_method_26_code 6 = .ok (.areturn, 1) := by decide +kernel
theorem d_jdk_42m18_0 : decode jdk_42_method_18_code 0 = .ok (.aload_n 0, 1) := by decide +kernel
theorem d_jdk_42m18_1 : decode jdk_42_method_18_code 1 = .ok (.getstatic 86, 3) := by decide +kernel
theorem d_jdk_42m18_4 : decode jdk_42_method_18_code 4 = .ok (.if_acmp .ne 10, 3) := by decide +kernel
theorem d_jdk_42m18_14 : decode jdk_42_method_18_code 14 = .ok (.aload_n 0, 1) := by decide +kernel
theorem d_jdk_42m18_15 : decode jdk_42_method_18_code 15 = .ok (.getstatic 116, 3) := by decide +kernel
theorem d_jdk_42m18_18 : decode jdk_42_method_18_code 18 = .ok (.if_acmp .ne 9, 3) := by decide +kernel
theorem d_jdk_42m18_21 : decode jdk_42_method_18_code 21 = .ok (.iload_n 1, 1) := by decide +kernel
theorem d_jdk_42m18_22 : decode jdk_42_method_18_code 22 = .ok (.aload_n 2, 1) := by decide +kernel
theorem d_jdk_42m18_23 : decode jdk_42_method_18_code 23 = .ok (.invokestatic 256, 3) := by decide +kernel
theorem d_jdk_42m18_26 : decode jdk_42_method_18_code 26 = .ok (.areturn, 1) := by decide +kernel
theorem d_jdk_42m152_0 : decode jdk_42_method_152_code 0 = .ok (.getstatic 38, 3) := by decide +kernel
theorem d_jdk_42m152_3 : decode jdk_42_method_152_code 3 = .ok (.ifCond .eq 10, 3) := by decide +kernel
theorem d_jdk_42m152_6 : decode jdk_42_method_152_code 6 = .ok (.aload_n 0, 1) := by decide +kernel
theorem d_jdk_42m152_7 : decode jdk_42_method_152_code 7 = .ok (.getfield 15, 3) := by decide +kernel
theorem d_jdk_42m152_10 : decode jdk_42_method_152_code 10 = .ok (.goto 4, 3) := by decide +kernel
theorem d_jdk_42m152_14 : decode jdk_42_method_152_code 14 = .ok (.ireturn, 1) := by decide +kernel
theorem d_jdk_42m64_0 : decode jdk_42_method_64_code 0 = .ok (.aload_n 1, 1) := by decide +kernel
theorem d_jdk_42m64_1 : decode jdk_42_method_64_code 1 = .ok (.ifnonnull 11, 3) := by decide +kernel
theorem d_jdk_42m64_12 : decode jdk_42_method_64_code 12 = .ok (.aload_n 1, 1) := by decide +kernel
theorem d_jdk_42m64_13 : decode jdk_42_method_64_code 13 = .ok (.aload_n 0, 1) := by decide +kernel
theorem d_jdk_42m64_14 : decode jdk_42_method_64_code 14 = .ok (.invokevirtual 335, 3) := by decide +kernel
theorem d_jdk_42m64_17 : decode jdk_42_method_64_code 17 = .ok (.aload_n 0, 1) := by decide +kernel
theorem d_jdk_42m64_18 : decode jdk_42_method_64_code 18 = .ok (.getfield 9, 3) := by decide +kernel
theorem d_jdk_42m64_21 : decode jdk_42_method_64_code 21 = .ok (.invokestatic 535, 3) := by decide +kernel
theorem d_jdk_42m64_24 : decode jdk_42_method_64_code 24 = .ok (.areturn, 1) := by decide +kernel
theorem d_jdk_2450m7_0 : decode jdk_2450_method_7_code 0 = .ok (.aload_n 0, 1) := by decide +kernel
theorem d_jdk_2450m7_1 : decode jdk_2450_method_7_code 1 = .ok (.getfield 7, 3) := by decide +kernel
theorem d_jdk_2450m7_4 : decode jdk_2450_method_7_code 4 = .ok (.ifCond .eq 9, 3) := by decide +kernel
theorem d_jdk_2450m7_7 : decode jdk_2450_method_7_code 7 = .ok (.getstatic 95, 3) := by decide +kernel
theorem d_jdk_2450m7_10 : decode jdk_2450_method_7_code 10 = .ok (.goto 6, 3) := by decide +kernel
theorem d_jdk_2450m7_16 : decode jdk_2450_method_7_code 16 = .ok (.astore 4, 2) := by decide +kernel
theorem d_jdk_2450m7_18 : decode jdk_2450_method_7_code 18 = .ok (.iconst 0, 1) := by decide +kernel
theorem d_jdk_2450m7_19 : decode jdk_2450_method_7_code 19 = .ok (.istore 5, 2) := by decide +kernel
theorem d_jdk_2450m7_21 : decode jdk_2450_method_7_code 21 = .ok (.iload_n 3, 1) := by decide +kernel
theorem d_jdk_2450m7_22 : decode jdk_2450_method_7_code 22 = .ok (.iload_n 2, 1) := by decide +kernel
theorem d_jdk_2450m7_23 : decode jdk_2450_method_7_code 23 = .ok (.isub, 1) := by decide +kernel
theorem d_jdk_2450m7_24 : decode jdk_2450_method_7_code 24 = .ok (.istore 6, 2) := by decide +kernel
theorem d_jdk_2450m7_26 : decode jdk_2450_method_7_code 26 = .ok (.iload 6, 2) := by decide +kernel
theorem d_jdk_2450m7_28 : decode jdk_2450_method_7_code 28 = .ok (.ifCond .ne 5, 3) := by decide +kernel
theorem d_jdk_2450m7_31 : decode jdk_2450_method_7_code 31 = .ok (.iconst 0, 1) := by decide +kernel
theorem d_jdk_2450m7_32 : decode jdk_2450_method_7_code 32 = .ok (.ireturn, 1) := by decide +kernel
theorem d_jdk_2450m7_33 : decode jdk_2450_method_7_code 33 = .ok (.iload 6, 2) := by decide +kernel
theorem d_jdk_2450m7_35 : decode jdk_2450_method_7_code 35 = .ok (.iconst 2, 1) := by decide +kernel
theorem d_jdk_2450m7_36 : decode jdk_2450_method_7_code 36 = .ok (.if_icmp .ge 30, 3) := by decide +kernel
theorem d_jdk_2450m7_66 : decode jdk_2450_method_7_code 66 = .ok (.aload_n 0, 1) := by decide +kernel
theorem d_jdk_2450m7_67 : decode jdk_2450_method_7_code 67 = .ok (.getfield 13, 3) := by decide +kernel
theorem d_jdk_2450m7_70 : decode jdk_2450_method_7_code 70 = .ok (.ifCond .eq 71, 3) := by decide +kernel
theorem d_jdk_2450m7_141 : decode jdk_2450_method_7_code 141 = .ok (.aload_n 1, 1) := by decide +kernel
theorem d_jdk_2450m7_142 : decode jdk_2450_method_7_code 142 = .ok (.iload_n 3, 1) := by decide +kernel
theorem d_jdk_2450m7_143 : decode jdk_2450_method_7_code 143 = .ok (.iconst 1, 1) := by decide +kernel
theorem d_jdk_2450m7_144 : decode jdk_2450_method_7_code 144 = .ok (.isub, 1) := by decide +kernel
theorem d_jdk_2450m7_145 : decode jdk_2450_method_7_code 145 = .ok (.baload, 1) := by decide +kernel
theorem d_jdk_2450m7_146 : decode jdk_2450_method_7_code 146 = .ok (.bipush 61, 2) := by decide +kernel
theorem d_jdk_2450m7_148 : decode jdk_2450_method_7_code 148 = .ok (.if_icmp .ne 19, 3) := by decide +kernel
theorem d_jdk_2450m7_167 : decode jdk_2450_method_7_code 167 = .ok (.iload 5, 2) := by decide +kernel
theorem d_jdk_2450m7_169 : decode jdk_2450_method_7_code 169 = .ok (.ifCond .ne 18, 3) := by decide +kernel
theorem d_jdk_2450m7_172 : decode jdk_2450_method_7_code 172 = .ok (.iload 6, 2) := by decide +kernel
theorem d_jdk_2450m7_174 : decode jdk_2450_method_7_code 174 = .ok (.iconst 3, 1) := by decide +kernel
theorem d_jdk_2450m7_175 : decode jdk_2450_method_7_code 175 = .ok (.iand, 1) := by decide +kernel
theorem d_jdk_2450m7_176 : decode jdk_2450_method_7_code 176 = .ok (.ifCond .eq 11, 3) := by decide +kernel
theorem d_jdk_2450m7_179 : decode jdk_2450_method_7_code 179 = .ok (.iconst 4, 1) := by decide +kernel
theorem d_jdk_2450m7_180 : decode jdk_2450_method_7_code 180 = .ok (.iload 6, 2) := by decide +kernel
theorem d_jdk_2450m7_182 : decode jdk_2450_method_7_code 182 = .ok (.iconst 3, 1) := by decide +kernel
theorem d_jdk_2450m7_183 : decode jdk_2450_method_7_code 183 = .ok (.iand, 1) := by decide +kernel
theorem d_jdk_2450m7_184 : decode jdk_2450_method_7_code 184 = .ok (.isub, 1) := by decide +kernel
theorem d_jdk_2450m7_185 : decode jdk_2450_method_7_code 185 = .ok (.istore 5, 2) := by decide +kernel
theorem d_jdk_2450m7_187 : decode jdk_2450_method_7_code 187 = .ok (.iconst 3, 1) := by decide +kernel
theorem d_jdk_2450m7_188 : decode jdk_2450_method_7_code 188 = .ok (.iload 6, 2) := by decide +kernel
theorem d_jdk_2450m7_190 : decode jdk_2450_method_7_code 190 = .ok (.i2l, 1) := by decide +kernel
theorem d_jdk_2450m7_191 : decode jdk_2450_method_7_code 191 = .ok (.ldc2_w 107, 3) := by decide +kernel
theorem d_jdk_2450m7_194 : decode jdk_2450_method_7_code 194 = .ok (.ladd, 1) := by decide +kernel
theorem d_jdk_2450m7_195 : decode jdk_2450_method_7_code 195 = .ok (.ldc2_w 109, 3) := by decide +kernel
theorem d_jdk_2450m7_198 : decode jdk_2450_method_7_code 198 = .ok (.ldiv, 1) := by decide +kernel
theorem d_jdk_2450m7_199 : decode jdk_2450_method_7_code 199 = .ok (.l2i, 1) := by decide +kernel
theorem d_jdk_2450m7_200 : decode jdk_2450_method_7_code 200 = .ok (.imul, 1) := by decide +kernel
theorem d_jdk_2450m7_201 : decode jdk_2450_method_7_code 201 = .ok (.iload 5, 2) := by decide +kernel
theorem d_jdk_2450m7_203 : decode jdk_2450_method_7_code 203 = .ok (.isub, 1) := by decide +kernel
theorem d_jdk_2450m7_204 : decode jdk_2450_method_7_code 204 = .ok (.ireturn, 1) := by decide +kernel
theorem d_jdk_2450m8_0 : decode jdk_2450_method_8_code 0 = .ok (.iload 6, 2) := by decide +kernel
theorem d_jdk_2450m8_2 : decode jdk_2450_method_8_code 2 = .ok (.ifCond .eq 9, 3) := by decide +kernel
theorem d_jdk_2450m8_5 : decode jdk_2450_method_8_code 5 = .ok (.getstatic 95, 3) := by decide +kernel
theorem d_jdk_2450m8_8 : decode jdk_2450_method_8_code 8 = .ok (.goto 6, 3) := by decide +kernel
theorem d_jdk_2450m8_14 : decode jdk_2450_method_8_code 14 = .ok (.astore 8, 2) := by decide +kernel
theorem d_jdk_2450m8_16 : decode jdk_2450_method_8_code 16 = .ok (.iload_n 2, 1) := by decide +kernel
theorem d_jdk_2450m8_17 : decode jdk_2450_method_8_code 17 = .ok (.iload_n 3, 1) := by decide +kernel
theorem d_jdk_2450m8_18 : decode jdk_2450_method_8_code 18 = .ok (.iload_n 2, 1) := by decide +kernel
theorem d_jdk_2450m8_19 : decode jdk_2450_method_8_code 19 = .ok (.isub, 1) := by decide +kernel
theorem d_jdk_2450m8_20 : decode jdk_2450_method_8_code 20 = .ok (.bipush (-4), 2) := by decide +kernel
theorem d_jdk_2450m8_22 : decode jdk_2450_method_8_code 22 = .ok (.iand, 1) := by decide +kernel
theorem d_jdk_2450m8_23 : decode jdk_2450_method_8_code 23 = .ok (.iadd, 1) := by decide +kernel
theorem d_jdk_2450m8_24 : decode jdk_2450_method_8_code 24 = .ok (.istore 9, 2) := by decide +kernel
theorem d_jdk_2450m8_26 : decode jdk_2450_method_8_code 26 = .ok (.iload 5, 2) := by decide +kernel
theorem d_jdk_2450m8_28 : decode jdk_2450_method_8_code 28 = .ok (.istore 10, 2) := by decide +kernel
theorem d_jdk_2450m8_30 : decode jdk_2450_method_8_code 30 = .ok (.iload_n 2, 1) := by decide +kernel
theorem d_jdk_2450m8_31 : decode jdk_2450_method_8_code 31 = .ok (.iload 9, 2) := by decide +kernel
theorem d_jdk_2450m8_33 : decode jdk_2450_method_8_code 33 = .ok (.if_icmp .ge 147, 3) := by decide +kernel
theorem d_jdk_2450m8_36 : decode jdk_2450_method_8_code 36 = .ok (.aload 8, 2) := by decide +kernel
theorem d_jdk_2450m8_38 : decode jdk_2450_method_8_code 38 = .ok (.aload_n 1, 1) := by decide +kernel
theorem d_jdk_2450m8_39 : decode jdk_2450_method_8_code 39 = .ok (.iload_n 2, 1) := by decide +kernel
theorem d_jdk_2450m8_40 : decode jdk_2450_method_8_code 40 = .ok (.iinc 2 1, 3) := by decide +kernel
theorem d_jdk_2450m8_43 : decode jdk_2450_method_8_code 43 = .ok (.baload, 1) := by decide +kernel
theorem d_jdk_2450m8_44 : decode jdk_2450_method_8_code 44 = .ok (.sipush 255, 3) := by decide +kernel
theorem d_jdk_2450m8_47 : decode jdk_2450_method_8_code 47 = .ok (.iand, 1) := by decide +kernel
theorem d_jdk_2450m8_48 : decode jdk_2450_method_8_code 48 = .ok (.iaload, 1) := by decide +kernel
theorem d_jdk_2450m8_49 : decode jdk_2450_method_8_code 49 = .ok (.istore 11, 2) := by decide +kernel
theorem d_jdk_2450m8_51 : decode jdk_2450_method_8_code 51 = .ok (.aload 8, 2) := by decide +kernel
theorem d_jdk_2450m8_53 : decode jdk_2450_method_8_code 53 = .ok (.aload_n 1, 1) := by decide +kernel
theorem d_jdk_2450m8_54 : decode jdk_2450_method_8_code 54 = .ok (.iload_n 2, 1) := by decide +kernel
theorem d_jdk_2450m8_55 : decode jdk_2450_method_8_code 55 = .ok (.iinc 2 1, 3) := by decide +kernel
theorem d_jdk_2450m8_58 : decode jdk_2450_method_8_code 58 = .ok (.baload, 1) := by decide +kernel
theorem d_jdk_2450m8_59 : decode jdk_2450_method_8_code 59 = .ok (.sipush 255, 3) := by decide +kernel
theorem d_jdk_2450m8_62 : decode jdk_2450_method_8_code 62 = .ok (.iand, 1) := by decide +kernel
theorem d_jdk_2450m8_63 : decode jdk_2450_method_8_code 63 = .ok (.iaload, 1) := by decide +kernel
theorem d_jdk_2450m8_64 : decode jdk_2450_method_8_code 64 = .ok (.istore 12, 2) := by decide +kernel
theorem d_jdk_2450m8_66 : decode jdk_2450_method_8_code 66 = .ok (.aload 8, 2) := by decide +kernel
theorem d_jdk_2450m8_68 : decode jdk_2450_method_8_code 68 = .ok (.aload_n 1, 1) := by decide +kernel
theorem d_jdk_2450m8_69 : decode jdk_2450_method_8_code 69 = .ok (.iload_n 2, 1) := by decide +kernel
theorem d_jdk_2450m8_70 : decode jdk_2450_method_8_code 70 = .ok (.iinc 2 1, 3) := by decide +kernel
theorem d_jdk_2450m8_73 : decode jdk_2450_method_8_code 73 = .ok (.baload, 1) := by decide +kernel
theorem d_jdk_2450m8_74 : decode jdk_2450_method_8_code 74 = .ok (.sipush 255, 3) := by decide +kernel
theorem d_jdk_2450m8_77 : decode jdk_2450_method_8_code 77 = .ok (.iand, 1) := by decide +kernel
theorem d_jdk_2450m8_78 : decode jdk_2450_method_8_code 78 = .ok (.iaload, 1) := by decide +kernel
theorem d_jdk_2450m8_79 : decode jdk_2450_method_8_code 79 = .ok (.istore 13, 2) := by decide +kernel
theorem d_jdk_2450m8_81 : decode jdk_2450_method_8_code 81 = .ok (.aload 8, 2) := by decide +kernel
theorem d_jdk_2450m8_83 : decode jdk_2450_method_8_code 83 = .ok (.aload_n 1, 1) := by decide +kernel
theorem d_jdk_2450m8_84 : decode jdk_2450_method_8_code 84 = .ok (.iload_n 2, 1) := by decide +kernel
theorem d_jdk_2450m8_85 : decode jdk_2450_method_8_code 85 = .ok (.iinc 2 1, 3) := by decide +kernel
theorem d_jdk_2450m8_88 : decode jdk_2450_method_8_code 88 = .ok (.baload, 1) := by decide +kernel
theorem d_jdk_2450m8_89 : decode jdk_2450_method_8_code 89 = .ok (.sipush 255, 3) := by decide +kernel
theorem d_jdk_2450m8_92 : decode jdk_2450_method_8_code 92 = .ok (.iand, 1) := by decide +kernel
theorem d_jdk_2450m8_93 : decode jdk_2450_method_8_code 93 = .ok (.iaload, 1) := by decide +kernel
theorem d_jdk_2450m8_94 : decode jdk_2450_method_8_code 94 = .ok (.istore 14, 2) := by decide +kernel
theorem d_jdk_2450m8_96 : decode jdk_2450_method_8_code 96 = .ok (.iload 11, 2) := by decide +kernel
theorem d_jdk_2450m8_98 : decode jdk_2450_method_8_code 98 = .ok (.iload 12, 2) := by decide +kernel
theorem d_jdk_2450m8_100 : decode jdk_2450_method_8_code 100 = .ok (.ior, 1) := by decide +kernel
theorem d_jdk_2450m8_101 : decode jdk_2450_method_8_code 101 = .ok (.iload 13, 2) := by decide +kernel
theorem d_jdk_2450m8_103 : decode jdk_2450_method_8_code 103 = .ok (.ior, 1) := by decide +kernel
theorem d_jdk_2450m8_104 : decode jdk_2450_method_8_code 104 = .ok (.iload 14, 2) := by decide +kernel
theorem d_jdk_2450m8_106 : decode jdk_2450_method_8_code 106 = .ok (.ior, 1) := by decide +kernel
theorem d_jdk_2450m8_107 : decode jdk_2450_method_8_code 107 = .ok (.ifCond .ge 9, 3) := by decide +kernel
theorem d_jdk_2450m8_116 : decode jdk_2450_method_8_code 116 = .ok (.iload 11, 2) := by decide +kernel
theorem d_jdk_2450m8_118 : decode jdk_2450_method_8_code 118 = .ok (.bipush 18, 2) := by decide +kernel
theorem d_jdk_2450m8_120 : decode jdk_2450_method_8_code 120 = .ok (.ishl, 1) := by decide +kernel
theorem d_jdk_2450m8_121 : decode jdk_2450_method_8_code 121 = .ok (.iload 12, 2) := by decide +kernel
theorem d_jdk_2450m8_123 : decode jdk_2450_method_8_code 123 = .ok (.bipush 12, 2) := by decide +kernel
theorem d_jdk_2450m8_125 : decode jdk_2450_method_8_code 125 = .ok (.ishl, 1) := by decide +kernel
theorem d_jdk_2450m8_126 : decode jdk_2450_method_8_code 126 = .ok (.ior, 1) := by decide +kernel
theorem d_jdk_2450m8_127 : decode jdk_2450_method_8_code 127 = .ok (.iload 13, 2) := by decide +kernel
theorem d_jdk_2450m8_129 : decode jdk_2450_method_8_code 129 = .ok (.bipush 6, 2) := by decide +kernel
theorem d_jdk_2450m8_131 : decode jdk_2450_method_8_code 131 = .ok (.ishl, 1) := by decide +kernel
theorem d_jdk_2450m8_132 : decode jdk_2450_method_8_code 132 = .ok (.ior, 1) := by decide +kernel
theorem d_jdk_2450m8_133 : decode jdk_2450_method_8_code 133 = .ok (.iload 14, 2) := by decide +kernel
theorem d_jdk_2450m8_135 : decode jdk_2450_method_8_code 135 = .ok (.ior, 1) := by decide +kernel
theorem d_jdk_2450m8_136 : decode jdk_2450_method_8_code 136 = .ok (.istore 15, 2) := by decide +kernel
theorem d_jdk_2450m8_138 : decode jdk_2450_method_8_code 138 = .ok (.aload 4, 2) := by decide +kernel
theorem d_jdk_2450m8_140 : decode jdk_2450_method_8_code 140 = .ok (.iload 10, 2) := by decide +kernel
theorem d_jdk_2450m8_142 : decode jdk_2450_method_8_code 142 = .ok (.iinc 10 1, 3) := by decide +kernel
theorem d_jdk_2450m8_145 : decode jdk_2450_method_8_code 145 = .ok (.iload 15, 2) := by decide +kernel
theorem d_jdk_2450m8_147 : decode jdk_2450_method_8_code 147 = .ok (.bipush 16, 2) := by decide +kernel
theorem d_jdk_2450m8_149 : decode jdk_2450_method_8_code 149 = .ok (.ishr, 1) := by decide +kernel
theorem d_jdk_2450m8_150 : decode jdk_2450_method_8_code 150 = .ok (.i2b, 1) := by decide +kernel
theorem d_jdk_2450m8_151 : decode jdk_2450_method_8_code 151 = .ok (.bastore, 1) := by decide +kernel
theorem d_jdk_2450m8_152 : decode jdk_2450_method_8_code 152 = .ok (.aload 4, 2) := by decide +kernel
theorem d_jdk_2450m8_154 : decode jdk_2450_method_8_code 154 = .ok (.iload 10, 2) := by decide +kernel
theorem d_jdk_2450m8_156 : decode jdk_2450_method_8_code 156 = .ok (.iinc 10 1, 3) := by decide +kernel
theorem d_jdk_2450m8_159 : decode jdk_2450_method_8_code 159 = .ok (.iload 15, 2) := by decide +kernel
theorem d_jdk_2450m8_161 : decode jdk_2450_method_8_code 161 = .ok (.bipush 8, 2) := by decide +kernel
theorem d_jdk_2450m8_163 : decode jdk_2450_method_8_code 163 = .ok (.ishr, 1) := by decide +kernel
theorem d_jdk_2450m8_164 : decode jdk_2450_method_8_code 164 = .ok (.i2b, 1) := by decide +kernel
theorem d_jdk_2450m8_165 : decode jdk_2450_method_8_code 165 = .ok (.bastore, 1) := by decide +kernel
theorem d_jdk_2450m8_166 : decode jdk_2450_method_8_code 166 = .ok (.aload 4, 2) := by decide +kernel
theorem d_jdk_2450m8_168 : decode jdk_2450_method_8_code 168 = .ok (.iload 10, 2) := by decide +kernel
theorem d_jdk_2450m8_170 : decode jdk_2450_method_8_code 170 = .ok (.iinc 10 1, 3) := by decide +kernel
theorem d_jdk_2450m8_173 : decode jdk_2450_method_8_code 173 = .ok (.iload 15, 2) := by decide +kernel
theorem d_jdk_2450m8_175 : decode jdk_2450_method_8_code 175 = .ok (.i2b, 1) := by decide +kernel
theorem d_jdk_2450m8_176 : decode jdk_2450_method_8_code 176 = .ok (.bastore, 1) := by decide +kernel
theorem d_jdk_2450m8_177 : decode jdk_2450_method_8_code 177 = .ok (.goto (-147), 3) := by decide +kernel
theorem d_jdk_2450m8_180 : decode jdk_2450_method_8_code 180 = .ok (.iload 10, 2) := by decide +kernel
theorem d_jdk_2450m8_182 : decode jdk_2450_method_8_code 182 = .ok (.iload 5, 2) := by decide +kernel
theorem d_jdk_2450m8_184 : decode jdk_2450_method_8_code 184 = .ok (.isub, 1) := by decide +kernel
theorem d_jdk_2450m8_185 : decode jdk_2450_method_8_code 185 = .ok (.ireturn, 1) := by decide +kernel
theorem d_jdk_2450m9_0 : decode jdk_2450_method_9_code 0 = .ok (.aload_n 0, 1) := by decide +kernel
theorem d_jdk_2450m9_1 : decode jdk_2450_method_9_code 1 = .ok (.getfield 7, 3) := by decide +kernel
theorem d_jdk_2450m9_4 : decode jdk_2450_method_9_code 4 = .ok (.ifCond .eq 9, 3) := by decide +kernel
theorem d_jdk_2450m9_7 : decode jdk_2450_method_9_code 7 = .ok (.getstatic 95, 3) := by decide +kernel
theorem d_jdk_2450m9_10 : decode jdk_2450_method_9_code 10 = .ok (.goto 6, 3) := by decide +kernel
theorem d_jdk_2450m9_16 : decode jdk_2450_method_9_code 16 = .ok (.astore 5, 2) := by decide +kernel
theorem d_jdk_2450m9_18 : decode jdk_2450_method_9_code 18 = .ok (.iconst 0, 1) := by decide +kernel
theorem d_jdk_2450m9_19 : decode jdk_2450_method_9_code 19 = .ok (.istore 6, 2) := by decide +kernel
theorem d_jdk_2450m9_21 : decode jdk_2450_method_9_code 21 = .ok (.iconst 0, 1) := by decide +kernel
theorem d_jdk_2450m9_22 : decode jdk_2450_method_9_code 22 = .ok (.istore 7, 2) := by decide +kernel
theorem d_jdk_2450m9_24 : decode jdk_2450_method_9_code 24 = .ok (.bipush 18, 2) := by decide +kernel
theorem d_jdk_2450m9_26 : decode jdk_2450_method_9_code 26 = .ok (.istore 8, 2) := by decide +kernel
theorem d_jdk_2450m9_28 : decode jdk_2450_method_9_code 28 = .ok (.iload_n 2, 1) := by decide +kernel
theorem d_jdk_2450m9_29 : decode jdk_2450_method_9_code 29 = .ok (.iload_n 3, 1) := by decide +kernel
theorem d_jdk_2450m9_30 : decode jdk_2450_method_9_code 30 = .ok (.if_icmp .ge 251, 3) := by decide +kernel
theorem d_jdk_2450m9_281 : decode jdk_2450_method_9_code 281 = .ok (.iload 8, 2) := by decide +kernel
theorem d_jdk_2450m9_283 : decode jdk_2450_method_9_code 283 = .ok (.bipush 6, 2) := by decide +kernel
theorem d_jdk_2450m9_285 : decode jdk_2450_method_9_code 285 = .ok (.if_icmp .ne 20, 3) := by decide +kernel
theorem d_jdk_2450m9_305 : decode jdk_2450_method_9_code 305 = .ok (.iload 8, 2) := by decide +kernel
theorem d_jdk_2450m9_307 : decode jdk_2450_method_9_code 307 = .ok (.ifCond .ne 34, 3) := by decide +kernel
theorem d_jdk_2450m9_341 : decode jdk_2450_method_9_code 341 = .ok (.iload 8, 2) := by decide +kernel
theorem d_jdk_2450m9_343 : decode jdk_2450_method_9_code 343 = .ok (.bipush 12, 2) := by decide +kernel
theorem d_jdk_2450m9_345 : decode jdk_2450_method_9_code 345 = .ok (.if_icmp .ne 13, 3) := by decide +kernel
theorem d_jdk_2450m9_358 : decode jdk_2450_method_9_code 358 = .ok (.iload_n 2, 1) := by decide +kernel
theorem d_jdk_2450m9_359 : decode jdk_2450_method_9_code 359 = .ok (.iload_n 3, 1) := by decide +kernel
theorem d_jdk_2450m9_360 : decode jdk_2450_method_9_code 360 = .ok (.if_icmp .ge 56, 3) := by decide +kernel
theorem d_jdk_2450m9_416 : decode jdk_2450_method_9_code 416 = .ok (.iload 6, 2) := by decide +kernel
theorem d_jdk_2450m9_418 : decode jdk_2450_method_9_code 418 = .ok (.ireturn, 1) := by decide +kernel
theorem d_jdk_2450m9_33 : decode jdk_2450_method_9_code 33 = .ok (.iload 8, 2) := by decide +kernel
theorem d_jdk_2450m9_35 : decode jdk_2450_method_9_code 35 = .ok (.bipush 18, 2) := by decide +kernel
theorem d_jdk_2450m9_37 : decode jdk_2450_method_9_code 37 = .ok (.if_icmp .ne 53, 3) := by decide +kernel
theorem d_jdk_2450m9_40 : decode jdk_2450_method_9_code 40 = .ok (.iload_n 2, 1) := by decide +kernel
theorem d_jdk_2450m9_41 : decode jdk_2450_method_9_code 41 = .ok (.iload_n 3, 1) := by decide +kernel
theorem d_jdk_2450m9_42 : decode jdk_2450_method_9_code 42 = .ok (.iconst 4, 1) := by decide +kernel
theorem d_jdk_2450m9_43 : decode jdk_2450_method_9_code 43 = .ok (.isub, 1) := by decide +kernel
theorem d_jdk_2450m9_44 : decode jdk_2450_method_9_code 44 = .ok (.if_icmp .ge 46, 3) := by decide +kernel
theorem d_jdk_2450m9_90 : decode jdk_2450_method_9_code 90 = .ok (.iload_n 2, 1) := by decide +kernel
theorem d_jdk_2450m9_91 : decode jdk_2450_method_9_code 91 = .ok (.iload_n 3, 1) := by decide +kernel
theorem d_jdk_2450m9_92 : decode jdk_2450_method_9_code 92 = .ok (.if_icmp .lt 6, 3) := by decide +kernel
theorem d_jdk_2450m9_98 : decode jdk_2450_method_9_code 98 = .ok (.aload_n 1, 1) := by decide +kernel
theorem d_jdk_2450m9_99 : decode jdk_2450_method_9_code 99 = .ok (.iload_n 2, 1) := by decide +kernel
theorem d_jdk_2450m9_100 : decode jdk_2450_method_9_code 100 = .ok (.iinc 2 1, 3) := by decide +kernel
theorem d_jdk_2450m9_103 : decode jdk_2450_method_9_code 103 = .ok (.baload, 1) := by decide +kernel
theorem d_jdk_2450m9_104 : decode jdk_2450_method_9_code 104 = .ok (.sipush 255, 3) := by decide +kernel
theorem d_jdk_2450m9_107 : decode jdk_2450_method_9_code 107 = .ok (.iand, 1) := by decide +kernel
theorem d_jdk_2450m9_108 : decode jdk_2450_method_9_code 108 = .ok (.istore 9, 2) := by decide +kernel
theorem d_jdk_2450m9_110 : decode jdk_2450_method_9_code 110 = .ok (.aload 5, 2) := by decide +kernel
theorem d_jdk_2450m9_112 : decode jdk_2450_method_9_code 112 = .ok (.iload 9, 2) := by decide +kernel
theorem d_jdk_2450m9_114 : decode jdk_2450_method_9_code 114 = .ok (.iaload, 1) := by decide +kernel
theorem d_jdk_2450m9_115 : decode jdk_2450_method_9_code 115 = .ok (.dup, 1) := by decide +kernel
theorem d_jdk_2450m9_116 : decode jdk_2450_method_9_code 116 = .ok (.istore 9, 2) := by decide +kernel
theorem d_jdk_2450m9_118 : decode jdk_2450_method_9_code 118 = .ok (.ifCond .ge 96, 3) := by decide +kernel
theorem d_jdk_2450m9_214 : decode jdk_2450_method_9_code 214 = .ok (.iload 7, 2) := by decide +kernel
theorem d_jdk_2450m9_216 : decode jdk_2450_method_9_code 216 = .ok (.iload 9, 2) := by decide +kernel
theorem d_jdk_2450m9_218 : decode jdk_2450_method_9_code 218 = .ok (.iload 8, 2) := by decide +kernel
theorem d_jdk_2450m9_220 : decode jdk_2450_method_9_code 220 = .ok (.ishl, 1) := by decide +kernel
theorem d_jdk_2450m9_221 : decode jdk_2450_method_9_code 221 = .ok (.ior, 1) := by decide +kernel
theorem d_jdk_2450m9_222 : decode jdk_2450_method_9_code 222 = .ok (.istore 7, 2) := by decide +kernel
theorem d_jdk_2450m9_224 : decode jdk_2450_method_9_code 224 = .ok (.iinc 8 (-6), 3) := by decide +kernel
theorem d_jdk_2450m9_227 : decode jdk_2450_method_9_code 227 = .ok (.iload 8, 2) := by decide +kernel
theorem d_jdk_2450m9_229 : decode jdk_2450_method_9_code 229 = .ok (.ifCond .ge 49, 3) := by decide +kernel
theorem d_jdk_2450m9_278 : decode jdk_2450_method_9_code 278 = .ok (.goto (-250), 3) := by decide +kernel
theorem d_jdk_2450m9_288 : decode jdk_2450_method_9_code 288 = .ok (.aload 4, 2) := by decide +kernel
theorem d_jdk_2450m9_290 : decode jdk_2450_method_9_code 290 = .ok (.iload 6, 2) := by decide +kernel
theorem d_jdk_2450m9_292 : decode jdk_2450_method_9_code 292 = .ok (.iinc 6 1, 3) := by decide +kernel
theorem d_jdk_2450m9_295 : decode jdk_2450_method_9_code 295 = .ok (.iload 7, 2) := by decide +kernel
theorem d_jdk_2450m9_297 : decode jdk_2450_method_9_code 297 = .ok (.bipush 16, 2) := by decide +kernel
theorem d_jdk_2450m9_299 : decode jdk_2450_method_9_code 299 = .ok (.ishr, 1) := by decide +kernel
theorem d_jdk_2450m9_300 : decode jdk_2450_method_9_code 300 = .ok (.i2b, 1) := by decide +kernel
theorem d_jdk_2450m9_301 : decode jdk_2450_method_9_code 301 = .ok (.bastore, 1) := by decide +kernel
theorem d_jdk_2450m9_302 : decode jdk_2450_method_9_code 302 = .ok (.goto 56, 3) := by decide +kernel
theorem d_jdk_2450m9_310 : decode jdk_2450_method_9_code 310 = .ok (.aload 4, 2) := by decide +kernel
theorem d_jdk_2450m9_312 : decode jdk_2450_method_9_code 312 = .ok (.iload 6, 2) := by decide +kernel
theorem d_jdk_2450m9_314 : decode jdk_2450_method_9_code 314 = .ok (.iinc 6 1, 3) := by decide +kernel
theorem d_jdk_2450m9_317 : decode jdk_2450_method_9_code 317 = .ok (.iload 7, 2) := by decide +kernel
theorem d_jdk_2450m9_319 : decode jdk_2450_method_9_code 319 = .ok (.bipush 16, 2) := by decide +kernel
theorem d_jdk_2450m9_321 : decode jdk_2450_method_9_code 321 = .ok (.ishr, 1) := by decide +kernel
theorem d_jdk_2450m9_322 : decode jdk_2450_method_9_code 322 = .ok (.i2b, 1) := by decide +kernel
theorem d_jdk_2450m9_323 : decode jdk_2450_method_9_code 323 = .ok (.bastore, 1) := by decide +kernel
theorem d_jdk_2450m9_324 : decode jdk_2450_method_9_code 324 = .ok (.aload 4, 2) := by decide +kernel
theorem d_jdk_2450m9_326 : decode jdk_2450_method_9_code 326 = .ok (.iload 6, 2) := by decide +kernel
theorem d_jdk_2450m9_328 : decode jdk_2450_method_9_code 328 = .ok (.iinc 6 1, 3) := by decide +kernel
theorem d_jdk_2450m9_331 : decode jdk_2450_method_9_code 331 = .ok (.iload 7, 2) := by decide +kernel
theorem d_jdk_2450m9_333 : decode jdk_2450_method_9_code 333 = .ok (.bipush 8, 2) := by decide +kernel
theorem d_jdk_2450m9_335 : decode jdk_2450_method_9_code 335 = .ok (.ishr, 1) := by decide +kernel
theorem d_jdk_2450m9_336 : decode jdk_2450_method_9_code 336 = .ok (.i2b, 1) := by decide +kernel
theorem d_jdk_2450m9_337 : decode jdk_2450_method_9_code 337 = .ok (.bastore, 1) := by decide +kernel
theorem d_jdk_2450m9_338 : decode jdk_2450_method_9_code 338 = .ok (.goto 20, 3) := by decide +kernel
theorem d_jdk_2450m9_232 : decode jdk_2450_method_9_code 232 = .ok (.aload 4, 2) := by decide +kernel
theorem d_jdk_2450m9_234 : decode jdk_2450_method_9_code 234 = .ok (.iload 6, 2) := by decide +kernel
theorem d_jdk_2450m9_236 : decode jdk_2450_method_9_code 236 = .ok (.iinc 6 1, 3) := by decide +kernel
theorem d_jdk_2450m9_239 : decode jdk_2450_method_9_code 239 = .ok (.iload 7, 2) := by decide +kernel
theorem d_jdk_2450m9_241 : decode jdk_2450_method_9_code 241 = .ok (.bipush 16, 2) := by decide +kernel
theorem d_jdk_2450m9_243 : decode jdk_2450_method_9_code 243 = .ok (.ishr, 1) := by decide +kernel
theorem d_jdk_2450m9_244 : decode jdk_2450_method_9_code 244 = .ok (.i2b, 1) := by decide +kernel
theorem d_jdk_2450m9_245 : decode jdk_2450_method_9_code 245 = .ok (.bastore, 1) := by decide +kernel
theorem d_jdk_2450m9_246 : decode jdk_2450_method_9_code 246 = .ok (.aload 4, 2) := by decide +kernel
theorem d_jdk_2450m9_248 : decode jdk_2450_method_9_code 248 = .ok (.iload 6, 2) := by decide +kernel
theorem d_jdk_2450m9_250 : decode jdk_2450_method_9_code 250 = .ok (.iinc 6 1, 3) := by decide +kernel
theorem d_jdk_2450m9_253 : decode jdk_2450_method_9_code 253 = .ok (.iload 7, 2) := by decide +kernel
theorem d_jdk_2450m9_255 : decode jdk_2450_method_9_code 255 = .ok (.bipush 8, 2) := by decide +kernel
theorem d_jdk_2450m9_257 : decode jdk_2450_method_9_code 257 = .ok (.ishr, 1) := by decide +kernel
theorem d_jdk_2450m9_258 : decode jdk_2450_method_9_code 258 = .ok (.i2b, 1) := by decide +kernel
theorem d_jdk_2450m9_259 : decode jdk_2450_method_9_code 259 = .ok (.bastore, 1) := by decide +kernel
theorem d_jdk_2450m9_260 : decode jdk_2450_method_9_code 260 = .ok (.aload 4, 2) := by decide +kernel
theorem d_jdk_2450m9_262 : decode jdk_2450_method_9_code 262 = .ok (.iload 6, 2) := by decide +kernel
theorem d_jdk_2450m9_264 : decode jdk_2450_method_9_code 264 = .ok (.iinc 6 1, 3) := by decide +kernel
theorem d_jdk_2450m9_267 : decode jdk_2450_method_9_code 267 = .ok (.iload 7, 2) := by decide +kernel
theorem d_jdk_2450m9_269 : decode jdk_2450_method_9_code 269 = .ok (.i2b, 1) := by decide +kernel
theorem d_jdk_2450m9_270 : decode jdk_2450_method_9_code 270 = .ok (.bastore, 1) := by decide +kernel
theorem d_jdk_2450m9_271 : decode jdk_2450_method_9_code 271 = .ok (.bipush 18, 2) := by decide +kernel
theorem d_jdk_2450m9_273 : decode jdk_2450_method_9_code 273 = .ok (.istore 8, 2) := by decide +kernel
theorem d_jdk_2450m9_275 : decode jdk_2450_method_9_code 275 = .ok (.iconst 0, 1) := by decide +kernel
theorem d_jdk_2450m9_276 : decode jdk_2450_method_9_code 276 = .ok (.istore 7, 2) := by decide +kernel
theorem d_jdk_2450m9_47 : decode jdk_2450_method_9_code 47 = .ok (.aload_n 0, 1) := by decide +kernel
theorem d_jdk_2450m9_48 : decode jdk_2450_method_9_code 48 = .ok (.aload_n 1, 1) := by decide +kernel
theorem d_jdk_2450m9_49 : decode jdk_2450_method_9_code 49 = .ok (.iload_n 2, 1) := by decide +kernel
theorem d_jdk_2450m9_50 : decode jdk_2450_method_9_code 50 = .ok (.iload_n 3, 1) := by decide +kernel
theorem d_jdk_2450m9_51 : decode jdk_2450_method_9_code 51 = .ok (.aload 4, 2) := by decide +kernel
theorem d_jdk_2450m9_53 : decode jdk_2450_method_9_code 53 = .ok (.iload 6, 2) := by decide +kernel
theorem d_jdk_2450m9_55 : decode jdk_2450_method_9_code 55 = .ok (.aload_n 0, 1) := by decide +kernel
theorem d_jdk_2450m9_56 : decode jdk_2450_method_9_code 56 = .ok (.getfield 7, 3) := by decide +kernel
theorem d_jdk_2450m9_59 : decode jdk_2450_method_9_code 59 = .ok (.aload_n 0, 1) := by decide +kernel
theorem d_jdk_2450m9_60 : decode jdk_2450_method_9_code 60 = .ok (.getfield 13, 3) := by decide +kernel
theorem d_jdk_2450m9_63 : decode jdk_2450_method_9_code 63 = .ok (.invokevirtual 111, 3) := by decide +kernel
theorem d_jdk_2450m9_66 : decode jdk_2450_method_9_code 66 = .ok (.istore 9, 2) := by decide +kernel
theorem d_jdk_2450m9_68 : decode jdk_2450_method_9_code 68 = .ok (.iload 9, 2) := by decide +kernel
theorem d_jdk_2450m9_70 : decode jdk_2450_method_9_code 70 = .ok (.iconst 2, 1) := by decide +kernel
theorem d_jdk_2450m9_71 : decode jdk_2450_method_9_code 71 = .ok (.iadd, 1) := by decide +kernel
theorem d_jdk_2450m9_72 : decode jdk_2450_method_9_code 72 = .ok (.iconst 3, 1) := by decide +kernel
theorem d_jdk_2450m9_73 : decode jdk_2450_method_9_code 73 = .ok (.idiv, 1) := by decide +kernel
theorem d_jdk_2450m9_74 : decode jdk_2450_method_9_code 74 = .ok (.iconst 4, 1) := by decide +kernel
theorem d_jdk_2450m9_75 : decode jdk_2450_method_9_code 75 = .ok (.imul, 1) := by decide +kernel
theorem d_jdk_2450m9_76 : decode jdk_2450_method_9_code 76 = .ok (.istore 10, 2) := by decide +kernel
theorem d_jdk_2450m9_78 : decode jdk_2450_method_9_code 78 = .ok (.iload_n 2, 1) := by decide +kernel
theorem d_jdk_2450m9_79 : decode jdk_2450_method_9_code 79 = .ok (.iload 10, 2) := by decide +kernel
theorem d_jdk_2450m9_81 : decode jdk_2450_method_9_code 81 = .ok (.iadd, 1) := by decide +kernel
theorem d_jdk_2450m9_82 : decode jdk_2450_method_9_code 82 = .ok (.istore_n 2, 1) := by decide +kernel
theorem d_jdk_2450m9_83 : decode jdk_2450_method_9_code 83 = .ok (.iload 6, 2) := by decide +kernel
theorem d_jdk_2450m9_85 : decode jdk_2450_method_9_code 85 = .ok (.iload 9, 2) := by decide +kernel
theorem d_jdk_2450m9_87 : decode jdk_2450_method_9_code 87 = .ok (.iadd, 1) := by decide +kernel
theorem d_jdk_2450m9_88 : decode jdk_2450_method_9_code 88 = .ok (.istore 6, 2) := by decide +kernel
theorem d_jdk_2450m9_95 : decode jdk_2450_method_9_code 95 = .ok (.goto 186, 3) := by decide +kernel
theorem d_jdk_2450m2_0 : decode jdk_2450_method_2_code 0 = .ok (.aload_n 0, 1) := by decide +kernel
theorem d_jdk_2450m2_1 : decode jdk_2450_method_2_code 1 = .ok (.aload_n 1, 1) := by decide +kernel
theorem d_jdk_2450m2_2 : decode jdk_2450_method_2_code 2 = .ok (.iconst 0, 1) := by decide +kernel
theorem d_jdk_2450m2_3 : decode jdk_2450_method_2_code 3 = .ok (.aload_n 1, 1) := by decide +kernel
theorem d_jdk_2450m2_4 : decode jdk_2450_method_2_code 4 = .ok (.arraylength, 1) := by decide +kernel
theorem d_jdk_2450m2_5 : decode jdk_2450_method_2_code 5 = .ok (.invokevirtual 16, 3) := by decide +kernel
theorem d_jdk_2450m2_8 : decode jdk_2450_method_2_code 8 = .ok (.newarray .byte, 2) := by decide +kernel
theorem d_jdk_2450m2_10 : decode jdk_2450_method_2_code 10 = .ok (.astore_n 2, 1) := by decide +kernel
theorem d_jdk_2450m2_11 : decode jdk_2450_method_2_code 11 = .ok (.aload_n 0, 1) := by decide +kernel
theorem d_jdk_2450m2_12 : decode jdk_2450_method_2_code 12 = .ok (.aload_n 1, 1) := by decide +kernel
theorem d_jdk_2450m2_13 : decode jdk_2450_method_2_code 13 = .ok (.iconst 0, 1) := by decide +kernel
theorem d_jdk_2450m2_14 : decode jdk_2450_method_2_code 14 = .ok (.aload_n 1, 1) := by decide +kernel
theorem d_jdk_2450m2_15 : decode jdk_2450_method_2_code 15 = .ok (.arraylength, 1) := by decide +kernel
theorem d_jdk_2450m2_16 : decode jdk_2450_method_2_code 16 = .ok (.aload_n 2, 1) := by decide +kernel
theorem d_jdk_2450m2_17 : decode jdk_2450_method_2_code 17 = .ok (.invokevirtual 20, 3) := by decide +kernel
theorem d_jdk_2450m2_20 : decode jdk_2450_method_2_code 20 = .ok (.istore_n 3, 1) := by decide +kernel
theorem d_jdk_2450m2_21 : decode jdk_2450_method_2_code 21 = .ok (.iload_n 3, 1) := by decide +kernel
theorem d_jdk_2450m2_22 : decode jdk_2450_method_2_code 22 = .ok (.aload_n 2, 1) := by decide +kernel
theorem d_jdk_2450m2_23 : decode jdk_2450_method_2_code 23 = .ok (.arraylength, 1) := by decide +kernel
theorem d_jdk_2450m2_24 : decode jdk_2450_method_2_code 24 = .ok (.if_icmp .eq 9, 3) := by decide +kernel
theorem d_jdk_2450m2_33 : decode jdk_2450_method_2_code 33 = .ok (.aload_n 2, 1) := by decide +kernel
theorem d_jdk_2450m2_34 : decode jdk_2450_method_2_code 34 = .ok (.areturn, 1) := by decide +kernel
theorem d_jdk_2450m3_0 : decode jdk_2450_method_3_code 0 = .ok (.aload_n 0, 1) := by decide +kernel
theorem d_jdk_2450m3_1 : decode jdk_2450_method_3_code 1 = .ok (.aload_n 1, 1) := by decide +kernel
theorem d_jdk_2450m3_2 : decode jdk_2450_method_3_code 2 = .ok (.getstatic 30, 3) := by decide +kernel
theorem d_jdk_2450m3_5 : decode jdk_2450_method_3_code 5 = .ok (.invokevirtual 36, 3) := by decide +kernel
theorem d_jdk_2450m3_8 : decode jdk_2450_method_3_code 8 = .ok (.invokevirtual 42, 3) := by decide +kernel
theorem d_jdk_2450m3_11 : decode jdk_2450_method_3_code 11 = .ok (.areturn, 1) := by decide +kernel
theorem d_jdk_42m54_0 : decode jdk_42_method_54_code 0 = .ok (.aload_n 0, 1) := by decide +kernel
theorem d_jdk_42m54_1 : decode jdk_42_method_54_code 1 = .ok (.getfield 9, 3) := by decide +kernel
theorem d_jdk_42m54_4 : decode jdk_42_method_54_code 4 = .ok (.arraylength, 1) := by decide +kernel
theorem d_jdk_42m54_5 : decode jdk_42_method_54_code 5 = .ok (.aload_n 0, 1) := by decide +kernel
theorem d_jdk_42m54_6 : decode jdk_42_method_54_code 6 = .ok (.invokevirtual 335, 3) := by decide +kernel
theorem d_jdk_42m54_9 : decode jdk_42_method_54_code 9 = .ok (.ishr, 1) := by decide +kernel
theorem d_jdk_42m54_10 : decode jdk_42_method_54_code 10 = .ok (.ireturn, 1) := by decide +kernel
theorem d_jdk_65m131_0 : decode jdk_65_method_131_code 0 = .ok (.iload_n 1, 1) := by decide +kernel
theorem d_jdk_65m131_1 : decode jdk_65_method_131_code 1 = .ok (.iload_n 0, 1) := by decide +kernel
theorem d_jdk_65m131_2 : decode jdk_65_method_131_code 2 = .ok (.if_icmp .ge 35, 3) := by decide +kernel
theorem d_jdk_65m131_37 : decode jdk_65_method_131_code 37 = .ok (.return_, 1) := by decide +kernel
theorem d_jdk_29m69_0 : decode jdk_29_method_69_code 0 = .ok (.iload_n 0, 1) := by decide +kernel
theorem d_jdk_29m69_1 : decode jdk_29_method_69_code 1 = .ok (.iload_n 1, 1) := by decide +kernel
theorem d_jdk_29m69_2 : decode jdk_29_method_69_code 2 = .ok (.if_icmp .gt 7, 3) := by decide +kernel
theorem d_jdk_29m69_9 : decode jdk_29_method_69_code 9 = .ok (.iload_n 1, 1) := by decide +kernel
theorem d_jdk_29m69_10 : decode jdk_29_method_69_code 10 = .ok (.ireturn, 1) := by decide +kernel
theorem d_jdk_29m69_5 : decode jdk_29_method_69_code 5 = .ok (.iload_n 0, 1) := by decide +kernel
theorem d_jdk_29m69_6 : decode jdk_29_method_69_code 6 = .ok (.goto 4, 3) := by decide +kernel
theorem d_jdk_65m133_0 : decode jdk_65_method_133_code 0 = .ok (.iload_n 1, 1) := by decide +kernel
theorem d_jdk_65m133_1 : decode jdk_65_method_133_code 1 = .ok (.iload_n 2, 1) := by decide +kernel
theorem d_jdk_65m133_2 : decode jdk_65_method_133_code 2 = .ok (.invokestatic 343, 3) := by decide +kernel
theorem d_jdk_65m133_5 : decode jdk_65_method_133_code 5 = .ok (.iload_n 2, 1) := by decide +kernel
theorem d_jdk_65m133_6 : decode jdk_65_method_133_code 6 = .ok (.iload_n 1, 1) := by decide +kernel
theorem d_jdk_65m133_7 : decode jdk_65_method_133_code 7 = .ok (.isub, 1) := by decide +kernel
theorem d_jdk_65m133_8 : decode jdk_65_method_133_code 8 = .ok (.istore_n 3, 1) := by decide +kernel
theorem d_jdk_65m133_9 : decode jdk_65_method_133_code 9 = .ok (.iload_n 3, 1) := by decide +kernel
theorem d_jdk_65m133_10 : decode jdk_65_method_133_code 10 = .ok (.newarray .byte, 2) := by decide +kernel
theorem d_jdk_65m133_12 : decode jdk_65_method_133_code 12 = .ok (.astore 4, 2) := by decide +kernel
theorem d_jdk_65m133_14 : decode jdk_65_method_133_code 14 = .ok (.aload_n 0, 1) := by decide +kernel
theorem d_jdk_65m133_15 : decode jdk_65_method_133_code 15 = .ok (.iload_n 1, 1) := by decide +kernel
theorem d_jdk_65m133_16 : decode jdk_65_method_133_code 16 = .ok (.aload 4, 2) := by decide +kernel
theorem d_jdk_65m133_18 : decode jdk_65_method_133_code 18 = .ok (.iconst 0, 1) := by decide +kernel
theorem d_jdk_65m133_19 : decode jdk_65_method_133_code 19 = .ok (.aload_n 0, 1) := by decide +kernel
theorem d_jdk_65m133_20 : decode jdk_65_method_133_code 20 = .ok (.arraylength, 1) := by decide +kernel
theorem d_jdk_65m133_21 : decode jdk_65_method_133_code 21 = .ok (.iload_n 1, 1) := by decide +kernel
theorem d_jdk_65m133_22 : decode jdk_65_method_133_code 22 = .ok (.isub, 1) := by decide +kernel
theorem d_jdk_65m133_23 : decode jdk_65_method_133_code 23 = .ok (.iload_n 3, 1) := by decide +kernel
theorem d_jdk_65m133_24 : decode jdk_65_method_133_code 24 = .ok (.invokestatic 304, 3) := by decide +kernel
theorem d_jdk_65m133_27 : decode jdk_65_method_133_code 27 = .ok (.invokestatic 150, 3) := by decide +kernel
theorem d_jdk_65m133_30 : decode jdk_65_method_133_code 30 = .ok (.aload 4, 2) := by decide +kernel
theorem d_jdk_65m133_32 : decode jdk_65_method_133_code 32 = .ok (.areturn, 1) := by decide +kernel
theorem d_jdk_65m132_0 : decode jdk_65_method_132_code 0 = .ok (.iload_n 1, 1) := by decide +kernel
theorem d_jdk_65m132_1 : decode jdk_65_method_132_code 1 = .ok (.ifCond .ne 9, 3) := by decide +kernel
theorem d_jdk_65m132_10 : decode jdk_65_method_132_code 10 = .ok (.aload_n 0, 1) := by decide +kernel
theorem d_jdk_65m132_11 : decode jdk_65_method_132_code 11 = .ok (.iload_n 1, 1) := by decide +kernel
theorem d_jdk_65m132_12 : decode jdk_65_method_132_code 12 = .ok (.iload_n 2, 1) := by decide +kernel
theorem d_jdk_65m132_13 : decode jdk_65_method_132_code 13 = .ok (.invokestatic 339, 3) := by decide +kernel
theorem d_jdk_65m132_16 : decode jdk_65_method_132_code 16 = .ok (.areturn, 1) := by decide +kernel
theorem d_jdk_65m132_4 : decode jdk_65_method_132_code 4 = .ok (.iload_n 2, 1) := by decide +kernel
theorem d_jdk_65m132_5 : decode jdk_65_method_132_code 5 = .ok (.aload_n 0, 1) := by decide +kernel
theorem d_jdk_65m132_6 : decode jdk_65_method_132_code 6 = .ok (.arraylength, 1) := by decide +kernel
theorem d_jdk_65m132_7 : decode jdk_65_method_132_code 7 = .ok (.if_icmp .eq 10, 3) := by decide +kernel
theorem d_jdk_42m151_0 : decode jdk_42_method_151_code 0 = .ok (.aload_n 0, 1) := by decide +kernel
theorem d_jdk_42m151_1 : decode jdk_42_method_151_code 1 = .ok (.invokespecial 1, 3) := by decide +kernel
theorem d_jdk_42m151_4 : decode jdk_42_method_151_code 4 = .ok (.aload_n 0, 1) := by decide +kernel
theorem d_jdk_42m151_5 : decode jdk_42_method_151_code 5 = .ok (.aload_n 1, 1) := by decide +kernel
theorem d_jdk_42m151_6 : decode jdk_42_method_151_code 6 = .ok (.putfield 9, 3) := by decide +kernel
theorem d_jdk_42m151_9 : decode jdk_42_method_151_code 9 = .ok (.aload_n 0, 1) := by decide +kernel
theorem d_jdk_42m151_10 : decode jdk_42_method_151_code 10 = .ok (.iload_n 2, 1) := by decide +kernel
theorem d_jdk_42m151_11 : decode jdk_42_method_151_code 11 = .ok (.putfield 15, 3) := by decide +kernel
theorem d_jdk_42m151_14 : decode jdk_42_method_151_code 14 = .ok (.return_, 1) := by decide +kernel
theorem d_jdk_42m154_0 : decode jdk_42_method_154_code 0 = .ok (.getstatic 38, 3) := by decide +kernel
theorem d_jdk_42m154_3 : decode jdk_42_method_154_code 3 = .ok (.ifCond .eq 14, 3) := by decide +kernel
theorem d_jdk_42m154_6 : decode jdk_42_method_154_code 6 = .ok (.aload_n 0, 1) := by decide +kernel
theorem d_jdk_42m154_7 : decode jdk_42_method_154_code 7 = .ok (.getfield 15, 3) := by decide +kernel
theorem d_jdk_42m154_10 : decode jdk_42_method_154_code 10 = .ok (.ifCond .ne 7, 3) := by decide +kernel
theorem d_jdk_42m154_13 : decode jdk_42_method_154_code 13 = .ok (.iconst 1, 1) := by decide +kernel
theorem d_jdk_42m154_14 : decode jdk_42_method_154_code 14 = .ok (.goto 4, 3) := by decide +kernel
theorem d_jdk_42m154_18 : decode jdk_42_method_154_code 18 = .ok (.ireturn, 1) := by decide +kernel
theorem d_jdk_41m12_0 : decode jdk_41_method_12_code 0 = .ok (.iload_n 0, 1) := by decide +kernel
theorem d_jdk_41m12_1 : decode jdk_41_method_12_code 1 = .ok (.ifCond .lt 13, 3) := by decide +kernel
theorem d_jdk_41m12_4 : decode jdk_41_method_12_code 4 = .ok (.iload_n 0, 1) := by decide +kernel
theorem d_jdk_41m12_5 : decode jdk_41_method_12_code 5 = .ok (.iload_n 1, 1) := by decide +kernel
theorem d_jdk_41m12_6 : decode jdk_41_method_12_code 6 = .ok (.if_icmp .gt 8, 3) := by decide +kernel
theorem d_jdk_41m12_9 : decode jdk_41_method_12_code 9 = .ok (.iload_n 1, 1) := by decide +kernel
theorem d_jdk_41m12_10 : decode jdk_41_method_12_code 10 = .ok (.iload_n 2, 1) := by decide +kernel
theorem d_jdk_41m12_11 : decode jdk_41_method_12_code 11 = .ok (.if_icmp .le 11, 3) := by decide +kernel
theorem d_jdk_41m12_22 : decode jdk_41_method_12_code 22 = .ok (.iload_n 0, 1) := by decide +kernel
theorem d_jdk_41m12_23 : decode jdk_41_method_12_code 23 = .ok (.ireturn, 1) := by decide +kernel
theorem d_jdk_42m158_0 : decode jdk_42_method_158_code 0 = .ok (.iload_n 0, 1) := by decide +kernel
theorem d_jdk_42m158_1 : decode jdk_42_method_158_code 1 = .ok (.iload_n 1, 1) := by decide +kernel
theorem d_jdk_42m158_2 : decode jdk_42_method_158_code 2 = .ok (.iload_n 2, 1) := by decide +kernel
theorem d_jdk_42m158_3 : decode jdk_42_method_158_code 3 = .ok (.getstatic 1053, 3) := by decide +kernel
theorem d_jdk_42m158_6 : decode jdk_42_method_158_code 6 = .ok (.invokestatic 1062, 3) := by decide +kernel
theorem d_jdk_42m158_9 : decode jdk_42_method_158_code 9 = .ok (.pop, 1) := by decide +kernel
theorem d_jdk_42m158_10 : decode jdk_42_method_158_code 10 = .ok (.return_, 1) := by decide +kernel
theorem d_jdk_43m47_0 : decode jdk_43_method_47_code 0 = .ok (.iload_n 2, 1) := by decide +kernel
theorem d_jdk_43m47_1 : decode jdk_43_method_47_code 1 = .ok (.ifCond .ne 6, 3) := by decide +kernel
theorem d_jdk_43m47_7 : decode jdk_43_method_47_code 7 = .ok (.new 1, 3) := by decide +kernel
theorem d_jdk_43m47_10 : decode jdk_43_method_47_code 10 = .ok (.dup, 1) := by decide +kernel
theorem d_jdk_43m47_11 : decode jdk_43_method_47_code 11 = .ok (.aload_n 0, 1) := by decide +kernel
theorem d_jdk_43m47_12 : decode jdk_43_method_47_code 12 = .ok (.iload_n 1, 1) := by decide +kernel
theorem d_jdk_43m47_13 : decode jdk_43_method_47_code 13 = .ok (.iload_n 1, 1) := by decide +kernel
theorem d_jdk_43m47_14 : decode jdk_43_method_47_code 14 = .ok (.iload_n 2, 1) := by decide +kernel
theorem d_jdk_43m47_15 : decode jdk_43_method_47_code 15 = .ok (.iadd, 1) := by decide +kernel
theorem d_jdk_43m47_16 : decode jdk_43_method_47_code 16 = .ok (.invokestatic 232, 3) := by decide +kernel
theorem d_jdk_43m47_19 : decode jdk_43_method_47_code 19 = .ok (.iconst 0, 1) := by decide +kernel
theorem d_jdk_43m47_20 : decode jdk_43_method_47_code 20 = .ok (.invokespecial 112, 3) := by decide +kernel
theorem d_jdk_43m47_23 : decode jdk_43_method_47_code 23 = .ok (.areturn, 1) := by decide +kernel
theorem d_jdk_43m47_4 : decode jdk_43_method_47_code 4 = .ok (.ldc 151, 2) := by decide +kernel
theorem d_jdk_43m47_6 : decode jdk_43_method_47_code 6 = .ok (.areturn, 1) := by decide +kernel
theorem d_jdk_42m92_0 : decode jdk_42_method_92_code 0 = .ok (.aload_n 0, 1) := by decide +kernel
theorem d_jdk_42m92_1 : decode jdk_42_method_92_code 1 = .ok (.invokevirtual 505, 3) := by decide +kernel
theorem d_jdk_42m92_4 : decode jdk_42_method_92_code 4 = .ok (.istore_n 3, 1) := by decide +kernel
theorem d_jdk_42m92_5 : decode jdk_42_method_92_code 5 = .ok (.iload_n 1, 1) := by decide +kernel
theorem d_jdk_42m92_6 : decode jdk_42_method_92_code 6 = .ok (.iload_n 2, 1) := by decide +kernel
theorem d_jdk_42m92_7 : decode jdk_42_method_92_code 7 = .ok (.iload_n 3, 1) := by decide +kernel
theorem d_jdk_42m92_8 : decode jdk_42_method_92_code 8 = .ok (.invokestatic 521, 3) := by decide +kernel
theorem d_jdk_42m92_11 : decode jdk_42_method_92_code 11 = .ok (.iload_n 1, 1) := by decide +kernel
theorem d_jdk_42m92_12 : decode jdk_42_method_92_code 12 = .ok (.ifCond .ne 10, 3) := by decide +kernel
theorem d_jdk_42m92_22 : decode jdk_42_method_92_code 22 = .ok (.iload_n 2, 1) := by decide +kernel
theorem d_jdk_42m92_23 : decode jdk_42_method_92_code 23 = .ok (.iload_n 1, 1) := by decide +kernel
theorem d_jdk_42m92_24 : decode jdk_42_method_92_code 24 = .ok (.isub, 1) := by decide +kernel
theorem d_jdk_42m92_25 : decode jdk_42_method_92_code 25 = .ok (.istore 4, 2) := by decide +kernel
theorem d_jdk_42m92_27 : decode jdk_42_method_92_code 27 = .ok (.aload_n 0, 1) := by decide +kernel
theorem d_jdk_42m92_28 : decode jdk_42_method_92_code 28 = .ok (.invokevirtual 492, 3) := by decide +kernel
theorem d_jdk_42m92_31 : decode jdk_42_method_92_code 31 = .ok (.ifCond .eq 16, 3) := by decide +kernel
theorem d_jdk_42m92_34 : decode jdk_42_method_92_code 34 = .ok (.aload_n 0, 1) := by decide +kernel
theorem d_jdk_42m92_35 : decode jdk_42_method_92_code 35 = .ok (.getfield 9, 3) := by decide +kernel
theorem d_jdk_42m92_38 : decode jdk_42_method_92_code 38 = .ok (.iload_n 1, 1) := by decide +kernel
theorem d_jdk_42m92_39 : decode jdk_42_method_92_code 39 = .ok (.iload 4, 2) := by decide +kernel
theorem d_jdk_42m92_41 : decode jdk_42_method_92_code 41 = .ok (.invokestatic 685, 3) := by decide +kernel
theorem d_jdk_42m92_44 : decode jdk_42_method_92_code 44 = .ok (.goto 13, 3) := by decide +kernel
theorem d_jdk_42m92_57 : decode jdk_42_method_92_code 57 = .ok (.areturn, 1) := by decide +kernel
theorem d_jdk_42m92_15 : decode jdk_42_method_92_code 15 = .ok (.iload_n 2, 1) := by decide +kernel
theorem d_jdk_42m92_16 : decode jdk_42_method_92_code 16 = .ok (.iload_n 3, 1) := by decide +kernel
theorem d_jdk_42m92_17 : decode jdk_42_method_92_code 17 = .ok (.if_icmp .ne 5, 3) := by decide +kernel
theorem d_prog_15m4_0 : decode prog_15_method_4_code 0 = .ok (.getstatic 27, 3) := by decide +kernel
theorem d_prog_15m4_3 : decode prog_15_method_4_code 3 = .ok (.aload_n 0, 1) := by decide +kernel
theorem d_prog_15m4_4 : decode prog_15_method_4_code 4 = .ok (.iload_n 1, 1) := by decide +kernel
theorem d_prog_15m4_5 : decode prog_15_method_4_code 5 = .ok (.iload_n 2, 1) := by decide +kernel
theorem d_prog_15m4_6 : decode prog_15_method_4_code 6 = .ok (.invokevirtual 31, 3) := by decide +kernel
theorem d_prog_15m4_9 : decode prog_15_method_4_code 9 = .ok (.invokevirtual 35, 3) := by decide +kernel
theorem d_prog_15m4_12 : decode prog_15_method_4_code 12 = .ok (.areturn, 1) := by decide +kernel
theorem d_method_4_0 : decode method_4_code 0 = .ok (.iload_n 0, 1) := by decide +kernel
theorem d_method_4_1 : decode method_4_code 1 = .ok (.bipush 26, 2) := by decide +kernel
theorem d_method_4_3 : decode method_4_code 3 = .ok (.if_icmp .ge 9, 3) := by decide +kernel
theorem d_method_4_12 : decode method_4_code 12 = .ok (.iload_n 0, 1) := by decide +kernel
theorem d_method_4_13 : decode method_4_code 13 = .ok (.bipush 52, 2) := by decide +kernel
theorem d_method_4_15 : decode method_4_code 15 = .ok (.if_icmp .ge 12, 3) := by decide +kernel
theorem d_method_4_27 : decode method_4_code 27 = .ok (.iload_n 0, 1) := by decide +kernel
theorem d_method_4_28 : decode method_4_code 28 = .ok (.bipush 62, 2) := by decide +kernel
theorem d_method_4_30 : decode method_4_code 30 = .ok (.if_icmp .ge 12, 3) := by decide +kernel
theorem d_method_4_42 : decode method_4_code 42 = .ok (.iload_n 0, 1) := by decide +kernel
theorem d_method_4_43 : decode method_4_code 43 = .ok (.bipush 62, 2) := by decide +kernel
theorem d_method_4_45 : decode method_4_code 45 = .ok (.if_icmp .ne 6, 3) := by decide +kernel
theorem d_method_4_51 : decode method_4_code 51 = .ok (.bipush 95, 2) := by decide +kernel
theorem d_method_4_53 : decode method_4_code 53 = .ok (.ireturn, 1) := by decide +kernel
theorem d_method_4_48 : decode method_4_code 48 = .ok (.bipush 45, 2) := by decide +kernel
theorem d_method_4_50 : decode method_4_code 50 = .ok (.ireturn, 1) := by decide +kernel
theorem d_method_4_33 : decode method_4_code 33 = .ok (.bipush 48, 2) := by decide +kernel
theorem d_method_4_35 : decode method_4_code 35 = .ok (.iload_n 0, 1) := by decide +kernel
theorem d_method_4_36 : decode method_4_code 36 = .ok (.bipush 52, 2) := by decide +kernel
theorem d_method_4_38 : decode method_4_code 38 = .ok (.isub, 1) := by decide +kernel
theorem d_method_4_39 : decode method_4_code 39 = .ok (.iadd, 1) := by decide +kernel
theorem d_method_4_40 : decode method_4_code 40 = .ok (.i2c, 1) := by decide +kernel
theorem d_method_4_41 : decode method_4_code 41 = .ok (.ireturn, 1) := by decide +kernel
theorem d_method_4_18 : decode method_4_code 18 = .ok (.bipush 97, 2) := by decide +kernel
theorem d_method_4_20 : decode method_4_code 20 = .ok (.iload_n 0, 1) := by decide +kernel
theorem d_method_4_21 : decode method_4_code 21 = .ok (.bipush 26, 2) := by decide +kernel
theorem d_method_4_23 : decode method_4_code 23 = .ok (.isub, 1) := by decide +kernel
theorem d_method_4_24 : decode method_4_code 24 = .ok (.iadd, 1) := by decide +kernel
theorem d_method_4_25 : decode method_4_code 25 = .ok (.i2c, 1) := by decide +kernel
theorem d_method_4_26 : decode method_4_code 26 = .ok (.ireturn, 1) := by decide +kernel
theorem d_method_4_6 : decode method_4_code 6 = .ok (.bipush 65, 2) := by decide +kernel
theorem d_method_4_8 : decode method_4_code 8 = .ok (.iload_n 0, 1) := by decide +kernel
theorem d_method_4_9 : decode method_4_code 9 = .ok (.iadd, 1) := by decide +kernel
theorem d_method_4_10 : decode method_4_code 10 = .ok (.i2c, 1) := by decide +kernel
theorem d_method_4_11 : decode method_4_code 11 = .ok (.ireturn, 1) := by decide +kernel
theorem d_method_3_0 : decode method_3_code 0 = .ok (.iload_n 0, 1) := by decide +kernel
theorem d_method_3_1 : decode method_3_code 1 = .ok (.iload_n 1, 1) := by decide +kernel
theorem d_method_3_2 : decode method_3_code 2 = .ok (.if_icmp .lt 30, 3) := by decide +kernel
theorem d_method_3_32 : decode method_3_code 32 = .ok (.lload 5, 2) := by decide +kernel
theorem d_method_3_34 : decode method_3_code 34 = .ok (.iconst 4, 1) := by decide +kernel
theorem d_method_3_35 : decode method_3_code 35 = .ok (.iload_n 0, 1) := by decide +kernel
theorem d_method_3_36 : decode method_3_code 36 = .ok (.imul, 1) := by decide +kernel
theorem d_method_3_37 : decode method_3_code 37 = .ok (.lushr, 1) := by decide +kernel
theorem d_method_3_38 : decode method_3_code 38 = .ok (.ldc2_w 37, 3) := by decide +kernel
theorem d_method_3_41 : decode method_3_code 41 = .ok (.land, 1) := by decide +kernel
theorem d_method_3_42 : decode method_3_code 42 = .ok (.l2i, 1) := by decide +kernel
theorem d_method_3_43 : decode method_3_code 43 = .ok (.i2c, 1) := by decide +kernel
theorem d_method_3_44 : decode method_3_code 44 = .ok (.ireturn, 1) := by decide +kernel
theorem d_method_3_5 : decode method_3_code 5 = .ok (.iload_n 0, 1) := by decide +kernel
theorem d_method_3_6 : decode method_3_code 6 = .ok (.iload_n 1, 1) := by decide +kernel
theorem d_method_3_7 : decode method_3_code 7 = .ok (.iload_n 2, 1) := by decide +kernel
theorem d_method_3_8 : decode method_3_code 8 = .ok (.iadd, 1) := by decide +kernel
theorem d_method_3_9 : decode method_3_code 9 = .ok (.if_icmp .ge 23, 3) := by decide +kernel
theorem d_method_3_12 : decode method_3_code 12 = .ok (.lload_n 3, 1) := by decide +kernel
theorem d_method_3_13 : decode method_3_code 13 = .ok (.bipush 42, 2) := by decide +kernel
theorem d_method_3_15 : decode method_3_code 15 = .ok (.bipush 6, 2) := by decide +kernel
theorem d_method_3_17 : decode method_3_code 17 = .ok (.iload_n 0, 1) := by decide +kernel
theorem d_method_3_18 : decode method_3_code 18 = .ok (.iload_n 1, 1) := by decide +kernel
theorem d_method_3_19 : decode method_3_code 19 = .ok (.isub, 1) := by decide +kernel
theorem d_method_3_20 : decode method_3_code 20 = .ok (.imul, 1) := by decide +kernel
theorem d_method_3_21 : decode method_3_code 21 = .ok (.isub, 1) := by decide +kernel
theorem d_method_3_22 : decode method_3_code 22 = .ok (.lushr, 1) := by decide +kernel
theorem d_method_3_23 : decode method_3_code 23 = .ok (.ldc2_w 31, 3) := by decide +kernel
theorem d_method_3_26 : decode method_3_code 26 = .ok (.land, 1) := by decide +kernel
theorem d_method_3_27 : decode method_3_code 27 = .ok (.l2i, 1) := by decide +kernel
theorem d_method_3_28 : decode method_3_code 28 = .ok (.invokestatic 33, 3) := by decide +kernel
theorem d_method_3_31 : decode method_3_code 31 = .ok (.ireturn, 1) := by decide +kernel
theorem d_method_5_0 : decode method_5_code 0 = .ok (.iload_n 1, 1) := by decide +kernel
theorem d_method_5_1 : decode method_5_code 1 = .ok (.iload_n 2, 1) := by decide +kernel
theorem d_method_5_2 : decode method_5_code 2 = .ok (.if_icmp .ge 24, 3) := by decide +kernel
theorem d_method_5_26 : decode method_5_code 26 = .ok (.iconst 1, 1) := by decide +kernel
theorem d_method_5_27 : decode method_5_code 27 = .ok (.goto 4, 3) := by decide +kernel
theorem d_method_5_31 : decode method_5_code 31 = .ok (.ireturn, 1) := by decide +kernel
theorem d_method_5_5 : decode method_5_code 5 = .ok (.aload_n 0, 1) := by decide +kernel
theorem d_method_5_6 : decode method_5_code 6 = .ok (.iload_n 1, 1) := by decide +kernel
theorem d_method_5_7 : decode method_5_code 7 = .ok (.baload, 1) := by decide +kernel
theorem d_method_5_8 : decode method_5_code 8 = .ok (.lload_n 3, 1) := by decide +kernel
theorem d_method_5_9 : decode method_5_code 9 = .ok (.bipush 40, 2) := by decide +kernel
theorem d_method_5_11 : decode method_5_code 11 = .ok (.bipush 8, 2) := by decide +kernel
theorem d_method_5_13 : decode method_5_code 13 = .ok (.iload_n 1, 1) := by decide +kernel
theorem d_method_5_14 : decode method_5_code 14 = .ok (.imul, 1) := by decide +kernel
theorem d_method_5_15 : decode method_5_code 15 = .ok (.isub, 1) := by decide +kernel
theorem d_method_5_16 : decode method_5_code 16 = .ok (.lushr, 1) := by decide +kernel
theorem d_method_5_17 : decode method_5_code 17 = .ok (.ldc2_w 37, 3) := by decide +kernel
theorem d_method_5_20 : decode method_5_code 20 = .ok (.land, 1) := by decide +kernel
theorem d_method_5_21 : decode method_5_code 21 = .ok (.l2i, 1) := by decide +kernel
theorem d_method_5_22 : decode method_5_code 22 = .ok (.i2b, 1) := by decide +kernel
theorem d_method_5_23 : decode method_5_code 23 = .ok (.if_icmp .ne 7, 3) := by decide +kernel
theorem pd0 : parseMethodDescriptor "(B[BZ)[B" = some ⟨[.byte, (.array .byte), .boolean], some (.array .byte)⟩ := by decide +kernel
theorem pd1 : parseMethodDescriptor "(B[B)[B" = some ⟨[.byte, (.array .byte)], some (.array .byte)⟩ := by decide +kernel
theorem pd2 : parseMethodDescriptor "()B" = some ⟨[], some .byte⟩ := by decide +kernel
theorem pd3 : parseMethodDescriptor "(Ljava/nio/charset/Charset;B[B)[B" = some ⟨[(.object "java/nio/charset/Charset"), .byte, (.array .byte)], some (.array .byte)⟩ := by decide +kernel
theorem pd4 : parseMethodDescriptor "([BII[BIZZ)I" = some ⟨[(.array .byte), .int, .int, (.array .byte), .int, .boolean, .boolean], some .int⟩ := by decide +kernel
theorem pd5 : parseMethodDescriptor "([BII)I" = some ⟨[(.array .byte), .int, .int], some .int⟩ := by decide +kernel
theorem pd6 : parseMethodDescriptor "([BII[B)I" = some ⟨[(.array .byte), .int, .int, (.array .byte)], some .int⟩ := by decide +kernel
theorem pd7 : parseMethodDescriptor "(Ljava/nio/charset/Charset;)[B" = some ⟨[(.object "java/nio/charset/Charset")], some (.array .byte)⟩ := by decide +kernel
theorem pd8 : parseMethodDescriptor "([B)[B" = some ⟨[(.array .byte)], some (.array .byte)⟩ := by decide +kernel
theorem pd9 : parseMethodDescriptor "(II)V" = some ⟨[.int, .int], none⟩ := by decide +kernel
theorem pd10 : parseMethodDescriptor "(II)I" = some ⟨[.int, .int], some .int⟩ := by decide +kernel
theorem pd11 : parseMethodDescriptor "([BII)[B" = some ⟨[(.array .byte), .int, .int], some (.array .byte)⟩ := by decide +kernel
theorem pd12 : parseMethodDescriptor "(IIILjava/util/function/BiFunction;)I" = some ⟨[.int, .int, .int, (.object "java/util/function/BiFunction")], some .int⟩ := by decide +kernel
theorem pd13 : parseMethodDescriptor "([BB)V" = some ⟨[(.array .byte), .byte], none⟩ := by decide +kernel
theorem pd14 : parseMethodDescriptor "()I" = some ⟨[], some .int⟩ := by decide +kernel
theorem pd15 : parseMethodDescriptor "(III)V" = some ⟨[.int, .int, .int], none⟩ := by decide +kernel
theorem pd16 : parseMethodDescriptor "()Z" = some ⟨[], some .boolean⟩ := by decide +kernel
theorem pd17 : parseMethodDescriptor "([BII)Ljava/lang/String;" = some ⟨[(.array .byte), .int, .int], some (.object "java/lang/String")⟩ := by decide +kernel
theorem pd18 : parseMethodDescriptor "(II)Ljava/lang/String;" = some ⟨[.int, .int], some (.object "java/lang/String")⟩ := by decide +kernel
theorem pd19 : parseMethodDescriptor "(Ljava/lang/String;)[B" = some ⟨[(.object "java/lang/String")], some (.array .byte)⟩ := by decide +kernel
theorem pd20 : parseMethodDescriptor "(I)C" = some ⟨[.int], some .char⟩ := by decide +kernel
theorem pd21 : parseMethodDescriptor "(IIIJJ)C" = some ⟨[.int, .int, .int, .long, .long], some .char⟩ := by decide +kernel
theorem pd22 : parseMethodDescriptor "([C)V" = some ⟨[(.array .char)], none⟩ := by decide +kernel
theorem pd23 : parseMethodDescriptor "(Ljava/lang/String;II)[B" = some ⟨[(.object "java/lang/String"), .int, .int], some (.array .byte)⟩ := by decide +kernel
theorem pd24 : parseMethodDescriptor "([BIIJ)Z" = some ⟨[(.array .byte), .int, .int, .long], some .boolean⟩ := by decide +kernel
theorem pn0 : plainName "java/lang/String" = true := by first | (simp [plainName, overriddenIn]; done) | decide +kernel
theorem pn1 : plainName "java/util/Base64$Decoder" = true := by first | (simp [plainName, overriddenIn]; done) | decide +kernel
theorem pn2 : plainName "java/util/Arrays" = true := by first | (simp [plainName, overriddenIn]; done) | decide +kernel
theorem pn3 : plainName "jdk/internal/util/Preconditions" = true := by first | (simp [plainName, overriddenIn]; done) | decide +kernel
theorem pn4 : plainName "java/lang/StringLatin1" = true := by first | (simp [plainName, overriddenIn]; done) | decide +kernel
theorem pn5 : plainName "com/example/scopegate/scopegate/token/Base64Url" = true := by first | (simp [plainName, overriddenIn]; done) | decide +kernel
theorem pn6 : plainName "com/example/scopegate/scopegate/token/Base64UrlDecodePinLaw" = true := by first | (simp [plainName, overriddenIn]; done) | decide +kernel
theorem ef0 (m : MethodId) (x1 : Addr) : entryFrame m #[(.int (0 : Int32)), (.ref x1), (.int (1 : Int32))] 10 = mkF m 0 #[.val (.int (0 : Int32)), .val (.ref x1), .val (.int (1 : Int32)), .unset, .unset, .unset, .unset, .unset, .unset, .unset] [] := by (first | (simp [entryFrame, mkF, argsToLocals, Value.category]; done) | rfl)
theorem ef1 (m : MethodId) (x1 : Addr) : entryFrame m #[(.int (0 : Int32)), (.ref x1)] 2 = mkF m 0 #[.val (.int (0 : Int32)), .val (.ref x1)] [] := by (first | (simp [entryFrame, mkF, argsToLocals, Value.category]; done) | rfl)
theorem ef2 (m : MethodId) (x0 : Addr) (x2 : Addr) : entryFrame m #[(.ref x0), (.int (0 : Int32)), (.ref x2)] 3 = mkF m 0 #[.val (.ref x0), .val (.int (0 : Int32)), .val (.ref x2)] [] := by (first | (simp [entryFrame, mkF, argsToLocals, Value.category]; done) | rfl)
theorem ef3 (m : MethodId) (x0 : Addr) : entryFrame m #[(.ref x0)] 1 = mkF m 0 #[.val (.ref x0)] [] := by (first | (simp [entryFrame, mkF, argsToLocals, Value.category]; done) | rfl)
theorem ef4 (m : MethodId) (x0 : Addr) (x1 : Addr) : entryFrame m #[(.ref x0), (.ref x1)] 2 = mkF m 0 #[.val (.ref x0), .val (.ref x1)] [] := by (first | (simp [entryFrame, mkF, argsToLocals, Value.category]; done) | rfl)
theorem ef5 (m : MethodId) (x0 : Addr) (x1 : Addr) : entryFrame m #[(.ref x0), (.ref x1), (.int (0 : Int32)), (.int (0 : Int32))] 9 = mkF m 0 #[.val (.ref x0), .val (.ref x1), .val (.int (0 : Int32)), .val (.int (0 : Int32)), .unset, .unset, .unset, .unset, .unset] [] := by (first | (simp [entryFrame, mkF, argsToLocals, Value.category]; done) | rfl)
theorem ef6 (m : MethodId) (x0 : Addr) (x1 : Addr) : entryFrame m #[(.ref x0), (.ref x1), (.int (0 : Int32)), (.int (2 : Int32))] 9 = mkF m 0 #[.val (.ref x0), .val (.ref x1), .val (.int (0 : Int32)), .val (.int (2 : Int32)), .unset, .unset, .unset, .unset, .unset] [] := by (first | (simp [entryFrame, mkF, argsToLocals, Value.category]; done) | rfl)
theorem ef7 (m : MethodId) (x0 : Addr) (x1 : Addr) : entryFrame m #[(.ref x0), (.ref x1), (.int (0 : Int32)), (.int (3 : Int32))] 9 = mkF m 0 #[.val (.ref x0), .val (.ref x1), .val (.int (0 : Int32)), .val (.int (3 : Int32)), .unset, .unset, .unset, .unset, .unset] [] := by (first | (simp [entryFrame, mkF, argsToLocals, Value.category]; done) | rfl)
theorem ef8 (m : MethodId) (x0 : Addr) (x1 : Addr) : entryFrame m #[(.ref x0), (.ref x1), (.int (0 : Int32)), (.int (4 : Int32))] 9 = mkF m 0 #[.val (.ref x0), .val (.ref x1), .val (.int (0 : Int32)), .val (.int (4 : Int32)), .unset, .unset, .unset, .unset, .unset] [] := by (first | (simp [entryFrame, mkF, argsToLocals, Value.category]; done) | rfl)
theorem ef9 (m : MethodId) (x0 : Addr) (x1 : Addr) : entryFrame m #[(.ref x0), (.ref x1), (.int (0 : Int32)), (.int (6 : Int32))] 9 = mkF m 0 #[.val (.ref x0), .val (.ref x1), .val (.int (0 : Int32)), .val (.int (6 : Int32)), .unset, .unset, .unset, .unset, .unset] [] := by (first | (simp [entryFrame, mkF, argsToLocals, Value.category]; done) | rfl)
theorem ef10 (m : MethodId) (x0 : Addr) (x1 : Addr) : entryFrame m #[(.ref x0), (.ref x1), (.int (0 : Int32)), (.int (7 : Int32))] 9 = mkF m 0 #[.val (.ref x0), .val (.ref x1), .val (.int (0 : Int32)), .val (.int (7 : Int32)), .unset, .unset, .unset, .unset, .unset] [] := by (first | (simp [entryFrame, mkF, argsToLocals, Value.category]; done) | rfl)
theorem ef11 (m : MethodId) (x0 : Addr) (x1 : Addr) : entryFrame m #[(.ref x0), (.ref x1), (.int (0 : Int32)), (.int (8 : Int32))] 9 = mkF m 0 #[.val (.ref x0), .val (.ref x1), .val (.int (0 : Int32)), .val (.int (8 : Int32)), .unset, .unset, .unset, .unset, .unset] [] := by (first | (simp [entryFrame, mkF, argsToLocals, Value.category]; done) | rfl)
theorem ef12 (m : MethodId) (x0 : Addr) (x1 : Addr) (x4 : Addr) : entryFrame m #[(.ref x0), (.ref x1), (.int (0 : Int32)), (.int (6 : Int32)), (.ref x4), (.int (0 : Int32)), (.int (1 : Int32)), (.int (0 : Int32))] 16 = mkF m 0 #[.val (.ref x0), .val (.ref x1), .val (.int (0 : Int32)), .val (.int (6 : Int32)), .val (.ref x4), .val (.int (0 : Int32)), .val (.int (1 : Int32)), .val (.int (0 : Int32)), .unset, .unset, .unset, .unset, .unset, .unset, .unset, .unset] [] := by (first | (simp [entryFrame, mkF, argsToLocals, Value.category]; done) | rfl)
theorem ef13 (m : MethodId) (x0 : Addr) (x1 : Addr) (x4 : Addr) : entryFrame m #[(.ref x0), (.ref x1), (.int (0 : Int32)), (.int (7 : Int32)), (.ref x4), (.int (0 : Int32)), (.int (1 : Int32)), (.int (0 : Int32))] 16 = mkF m 0 #[.val (.ref x0), .val (.ref x1), .val (.int (0 : Int32)), .val (.int (7 : Int32)), .val (.ref x4), .val (.int (0 : Int32)), .val (.int (1 : Int32)), .val (.int (0 : Int32)), .unset, .unset, .unset, .unset, .unset, .unset, .unset, .unset] [] := by (first | (simp [entryFrame, mkF, argsToLocals, Value.category]; done) | rfl)
theorem ef14 (m : MethodId) (x0 : Addr) (x1 : Addr) (x4 : Addr) : entryFrame m #[(.ref x0), (.ref x1), (.int (0 : Int32)), (.int (8 : Int32)), (.ref x4), (.int (0 : Int32)), (.int (1 : Int32)), (.int (0 : Int32))] 16 = mkF m 0 #[.val (.ref x0), .val (.ref x1), .val (.int (0 : Int32)), .val (.int (8 : Int32)), .val (.ref x4), .val (.int (0 : Int32)), .val (.int (1 : Int32)), .val (.int (0 : Int32)), .unset, .unset, .unset, .unset, .unset, .unset, .unset, .unset] [] := by (first | (simp [entryFrame, mkF, argsToLocals, Value.category]; done) | rfl)
theorem ef15 (m : MethodId) (x0 : Addr) (x1 : Addr) (x4 : Addr) : entryFrame m #[(.ref x0), (.ref x1), (.int (0 : Int32)), (.int (0 : Int32)), (.ref x4)] 11 = mkF m 0 #[.val (.ref x0), .val (.ref x1), .val (.int (0 : Int32)), .val (.int (0 : Int32)), .val (.ref x4), .unset, .unset, .unset, .unset, .unset, .unset] [] := by (first | (simp [entryFrame, mkF, argsToLocals, Value.category]; done) | rfl)
theorem ef16 (m : MethodId) (x0 : Addr) (x1 : Addr) (x4 : Addr) : entryFrame m #[(.ref x0), (.ref x1), (.int (0 : Int32)), (.int (2 : Int32)), (.ref x4)] 11 = mkF m 0 #[.val (.ref x0), .val (.ref x1), .val (.int (0 : Int32)), .val (.int (2 : Int32)), .val (.ref x4), .unset, .unset, .unset, .unset, .unset, .unset] [] := by (first | (simp [entryFrame, mkF, argsToLocals, Value.category]; done) | rfl)
theorem ef17 (m : MethodId) (x0 : Addr) (x1 : Addr) (x4 : Addr) : entryFrame m #[(.ref x0), (.ref x1), (.int (0 : Int32)), (.int (3 : Int32)), (.ref x4)] 11 = mkF m 0 #[.val (.ref x0), .val (.ref x1), .val (.int (0 : Int32)), .val (.int (3 : Int32)), .val (.ref x4), .unset, .unset, .unset, .unset, .unset, .unset] [] := by (first | (simp [entryFrame, mkF, argsToLocals, Value.category]; done) | rfl)
theorem ef18 (m : MethodId) (x0 : Addr) (x1 : Addr) (x4 : Addr) : entryFrame m #[(.ref x0), (.ref x1), (.int (0 : Int32)), (.int (4 : Int32)), (.ref x4)] 11 = mkF m 0 #[.val (.ref x0), .val (.ref x1), .val (.int (0 : Int32)), .val (.int (4 : Int32)), .val (.ref x4), .unset, .unset, .unset, .unset, .unset, .unset] [] := by (first | (simp [entryFrame, mkF, argsToLocals, Value.category]; done) | rfl)
theorem ef19 (m : MethodId) (x0 : Addr) (x1 : Addr) (x4 : Addr) : entryFrame m #[(.ref x0), (.ref x1), (.int (0 : Int32)), (.int (6 : Int32)), (.ref x4)] 11 = mkF m 0 #[.val (.ref x0), .val (.ref x1), .val (.int (0 : Int32)), .val (.int (6 : Int32)), .val (.ref x4), .unset, .unset, .unset, .unset, .unset, .unset] [] := by (first | (simp [entryFrame, mkF, argsToLocals, Value.category]; done) | rfl)
theorem ef20 (m : MethodId) (x0 : Addr) (x1 : Addr) (x4 : Addr) : entryFrame m #[(.ref x0), (.ref x1), (.int (0 : Int32)), (.int (7 : Int32)), (.ref x4)] 11 = mkF m 0 #[.val (.ref x0), .val (.ref x1), .val (.int (0 : Int32)), .val (.int (7 : Int32)), .val (.ref x4), .unset, .unset, .unset, .unset, .unset, .unset] [] := by (first | (simp [entryFrame, mkF, argsToLocals, Value.category]; done) | rfl)
theorem ef21 (m : MethodId) (x0 : Addr) (x1 : Addr) (x4 : Addr) : entryFrame m #[(.ref x0), (.ref x1), (.int (0 : Int32)), (.int (8 : Int32)), (.ref x4)] 11 = mkF m 0 #[.val (.ref x0), .val (.ref x1), .val (.int (0 : Int32)), .val (.int (8 : Int32)), .val (.ref x4), .unset, .unset, .unset, .unset, .unset, .unset] [] := by (first | (simp [entryFrame, mkF, argsToLocals, Value.category]; done) | rfl)
theorem ef22 (m : MethodId) (x0 : Addr) (x1 : Addr) : entryFrame m #[(.ref x0), (.ref x1)] 4 = mkF m 0 #[.val (.ref x0), .val (.ref x1), .unset, .unset] [] := by (first | (simp [entryFrame, mkF, argsToLocals, Value.category]; done) | rfl)
theorem ef23 (m : MethodId) (x0 : Addr) (x1 : Addr) : entryFrame m #[(.ref x0), (.ref x1)] 4 = mkF m 0 #[.val (.ref x0), .val (.ref x1), .unset, .unset] [] := by (first | (simp [entryFrame, mkF, argsToLocals, Value.category]; done) | rfl)
theorem ef24 (m : MethodId) (x0 : Addr) (x1 : Addr) : entryFrame m #[(.ref x0), (.ref x1)] 4 = mkF m 0 #[.val (.ref x0), .val (.ref x1), .unset, .unset] [] := by (first | (simp [entryFrame, mkF, argsToLocals, Value.category]; done) | rfl)
theorem ef25 (m : MethodId) (x0 : Addr) (x1 : Addr) : entryFrame m #[(.ref x0), (.ref x1)] 4 = mkF m 0 #[.val (.ref x0), .val (.ref x1), .unset, .unset] [] := by (first | (simp [entryFrame, mkF, argsToLocals, Value.category]; done) | rfl)
theorem ef26 (m : MethodId) (x0 : Addr) (x1 : Addr) : entryFrame m #[(.ref x0), (.ref x1)] 4 = mkF m 0 #[.val (.ref x0), .val (.ref x1), .unset, .unset] [] := by (first | (simp [entryFrame, mkF, argsToLocals, Value.category]; done) | rfl)
theorem ef27 (m : MethodId) (x0 : Addr) (x1 : Addr) : entryFrame m #[(.ref x0), (.ref x1)] 4 = mkF m 0 #[.val (.ref x0), .val (.ref x1), .unset, .unset] [] := by (first | (simp [entryFrame, mkF, argsToLocals, Value.category]; done) | rfl)
theorem ef28 (m : MethodId) (x0 : Addr) (x1 : Addr) : entryFrame m #[(.ref x0), (.ref x1)] 4 = mkF m 0 #[.val (.ref x0), .val (.ref x1), .unset, .unset] [] := by (first | (simp [entryFrame, mkF, argsToLocals, Value.category]; done) | rfl)
theorem ef29 (m : MethodId) (x0 : Addr) (x1 : Addr) : entryFrame m #[(.ref x0), (.ref x1)] 2 = mkF m 0 #[.val (.ref x0), .val (.ref x1)] [] := by (first | (simp [entryFrame, mkF, argsToLocals, Value.category]; done) | rfl)
theorem ef30 (m : MethodId) (x0 : Addr) (x1 : Addr) : entryFrame m #[(.ref x0), (.ref x1)] 2 = mkF m 0 #[.val (.ref x0), .val (.ref x1)] [] := by (first | (simp [entryFrame, mkF, argsToLocals, Value.category]; done) | rfl)
theorem ef31 (m : MethodId) (x0 : Addr) (x1 : Addr) : entryFrame m #[(.ref x0), (.ref x1)] 2 = mkF m 0 #[.val (.ref x0), .val (.ref x1)] [] := by (first | (simp [entryFrame, mkF, argsToLocals, Value.category]; done) | rfl)
theorem ef32 (m : MethodId) (x0 : Addr) (x1 : Addr) : entryFrame m #[(.ref x0), (.ref x1)] 2 = mkF m 0 #[.val (.ref x0), .val (.ref x1)] [] := by (first | (simp [entryFrame, mkF, argsToLocals, Value.category]; done) | rfl)
theorem ef33 (m : MethodId) (x0 : Addr) (x1 : Addr) : entryFrame m #[(.ref x0), (.ref x1)] 2 = mkF m 0 #[.val (.ref x0), .val (.ref x1)] [] := by (first | (simp [entryFrame, mkF, argsToLocals, Value.category]; done) | rfl)
theorem ef34 (m : MethodId) (x0 : Addr) (x1 : Addr) : entryFrame m #[(.ref x0), (.ref x1)] 2 = mkF m 0 #[.val (.ref x0), .val (.ref x1)] [] := by (first | (simp [entryFrame, mkF, argsToLocals, Value.category]; done) | rfl)
theorem ef35 (m : MethodId) (x0 : Addr) (x1 : Addr) : entryFrame m #[(.ref x0), (.ref x1)] 2 = mkF m 0 #[.val (.ref x0), .val (.ref x1)] [] := by (first | (simp [entryFrame, mkF, argsToLocals, Value.category]; done) | rfl)
theorem ef36 (m : MethodId) (x0 : Addr) : entryFrame m #[(.ref x0)] 1 = mkF m 0 #[.val (.ref x0)] [] := by (first | (simp [entryFrame, mkF, argsToLocals, Value.category]; done) | rfl)
theorem ef37 (m : MethodId) (x0 : Int32) (x1 : Int32) : entryFrame m #[(.int x0), (.int x1)] 2 = mkF m 0 #[.val (.int x0), .val (.int x1)] [] := by (first | (simp [entryFrame, mkF, argsToLocals, Value.category]; done) | rfl)
theorem ef38 (m : MethodId) (x0 : Int32) (x1 : Int32) : entryFrame m #[(.int x0), (.int x1)] 2 = mkF m 0 #[.val (.int x0), .val (.int x1)] [] := by (first | (simp [entryFrame, mkF, argsToLocals, Value.category]; done) | rfl)
theorem ef39 (m : MethodId) (x0 : Addr) (x1 : Int32) (x2 : Int32) : entryFrame m #[(.ref x0), (.int x1), (.int x2)] 5 = mkF m 0 #[.val (.ref x0), .val (.int x1), .val (.int x2), .unset, .unset] [] := by (first | (simp [entryFrame, mkF, argsToLocals, Value.category]; done) | rfl)
theorem ef40 (m : MethodId) (x0 : Addr) (x1 : Int32) (x2 : Int32) : entryFrame m #[(.ref x0), (.int x1), (.int x2)] 3 = mkF m 0 #[.val (.ref x0), .val (.int x1), .val (.int x2)] [] := by (first | (simp [entryFrame, mkF, argsToLocals, Value.category]; done) | rfl)
theorem ef41 (m : MethodId) (x0 : Addr) (x1 : Addr) : entryFrame m #[(.ref x0), (.ref x1), (.int (0 : Int32))] 3 = mkF m 0 #[.val (.ref x0), .val (.ref x1), .val (.int (0 : Int32))] [] := by (first | (simp [entryFrame, mkF, argsToLocals, Value.category]; done) | rfl)
theorem ef42 (m : MethodId) (x0 : Addr) : entryFrame m #[(.ref x0)] 1 = mkF m 0 #[.val (.ref x0)] [] := by (first | (simp [entryFrame, mkF, argsToLocals, Value.category]; done) | rfl)
theorem ef43 (m : MethodId) (x0 : Int32) (x1 : Int32) (x2 : Int32) (x3 : Value) (hx3 : x3.isRef = true) : entryFrame m #[(.int x0), (.int x1), (.int x2), x3] 4 = mkF m 0 #[.val (.int x0), .val (.int x1), .val (.int x2), .val x3] [] := by rcases ref_cases hx3 with rfl | ⟨_, rfl⟩ <;> (first | (simp [entryFrame, mkF, argsToLocals, Value.category]; done) | rfl)
theorem ef44 (m : MethodId) (x0 : Int32) (x1 : Int32) (x2 : Int32) : entryFrame m #[(.int x0), (.int x1), (.int x2)] 3 = mkF m 0 #[.val (.int x0), .val (.int x1), .val (.int x2)] [] := by (first | (simp [entryFrame, mkF, argsToLocals, Value.category]; done) | rfl)
theorem ef45 (m : MethodId) (x0 : Addr) (x1 : Int32) (x2 : Int32) : entryFrame m #[(.ref x0), (.int x1), (.int x2)] 3 = mkF m 0 #[.val (.ref x0), .val (.int x1), .val (.int x2)] [] := by (first | (simp [entryFrame, mkF, argsToLocals, Value.category]; done) | rfl)
theorem ef46 (m : MethodId) (x0 : Addr) (x1 : Int32) (x2 : Int32) : entryFrame m #[(.ref x0), (.int x1), (.int x2)] 5 = mkF m 0 #[.val (.ref x0), .val (.int x1), .val (.int x2), .unset, .unset] [] := by (first | (simp [entryFrame, mkF, argsToLocals, Value.category]; done) | rfl)
theorem ef47 (m : MethodId) (x0 : Addr) (x1 : Int32) (x2 : Int32) : entryFrame m #[(.ref x0), (.int x1), (.int x2)] 3 = mkF m 0 #[.val (.ref x0), .val (.int x1), .val (.int x2)] [] := by (first | (simp [entryFrame, mkF, argsToLocals, Value.category]; done) | rfl)
theorem ef48 (m : MethodId) (x0 : Addr) (x1 : Int32) (x2 : Int32) : entryFrame m #[(.ref x0), (.int x1), (.int x2)] 3 = mkF m 0 #[.val (.ref x0), .val (.int x1), .val (.int x2)] [] := by (first | (simp [entryFrame, mkF, argsToLocals, Value.category]; done) | rfl)
theorem ef49 (m : MethodId) (x0 : Addr) (x1 : Int32) (x2 : Int32) : entryFrame m #[(.ref x0), (.int x1), (.int x2)] 3 = mkF m 0 #[.val (.ref x0), .val (.int x1), .val (.int x2)] [] := by (first | (simp [entryFrame, mkF, argsToLocals, Value.category]; done) | rfl)
theorem ef50 (m : MethodId) (x0 : Addr) (x1 : Int32) (x2 : Int32) : entryFrame m #[(.ref x0), (.int x1), (.int x2)] 3 = mkF m 0 #[.val (.ref x0), .val (.int x1), .val (.int x2)] [] := by (first | (simp [entryFrame, mkF, argsToLocals, Value.category]; done) | rfl)
theorem ef51 (m : MethodId) (x0 : Addr) (x1 : Int32) (x2 : Int32) : entryFrame m #[(.ref x0), (.int x1), (.int x2)] 3 = mkF m 0 #[.val (.ref x0), .val (.int x1), .val (.int x2)] [] := by (first | (simp [entryFrame, mkF, argsToLocals, Value.category]; done) | rfl)
theorem ef52 (m : MethodId) (x0 : Addr) (x1 : Int32) (x2 : Int32) : entryFrame m #[(.ref x0), (.int x1), (.int x2)] 3 = mkF m 0 #[.val (.ref x0), .val (.int x1), .val (.int x2)] [] := by (first | (simp [entryFrame, mkF, argsToLocals, Value.category]; done) | rfl)
theorem ef53 (m : MethodId) (x0 : Addr) (x1 : Int32) (x2 : Int32) : entryFrame m #[(.ref x0), (.int x1), (.int x2)] 3 = mkF m 0 #[.val (.ref x0), .val (.int x1), .val (.int x2)] [] := by (first | (simp [entryFrame, mkF, argsToLocals, Value.category]; done) | rfl)
theorem ef54 (m : MethodId) (x0 : Int32) : entryFrame m #[(.int x0)] 1 = mkF m 0 #[.val (.int x0)] [] := by (first | (simp [entryFrame, mkF, argsToLocals, Value.category]; done) | rfl)
theorem ef55 (m : MethodId) (x0 : Int32) (x1 : Int32) (x2 : Int32) (x3 : Int64) (x4 : Int64) : entryFrame m #[(.int x0), (.int x1), (.int x2), (.long x3), (.long x4)] 7 = mkF m 0 #[.val (.int x0), .val (.int x1), .val (.int x2), .val (.long x3), .second, .val (.long x4), .second] [] := by (first | (simp [entryFrame, mkF, argsToLocals, Value.category]; done) | rfl)
theorem ef56 (m : MethodId) (x0 : Addr) (x1 : Int32) (x2 : Int32) (x3 : Int64) : entryFrame m #[(.ref x0), (.int x1), (.int x2), (.long x3)] 5 = mkF m 0 #[.val (.ref x0), .val (.int x1), .val (.int x2), .val (.long x3), .second] [] := by (first | (simp [entryFrame, mkF, argsToLocals, Value.category]; done) | rfl)
theorem ef57 (m : MethodId) (x0 : Addr) (x1 : Int32) (x2 : Int32) (x3 : Int64) : entryFrame m #[(.ref x0), (.int x1), (.int x2), (.long x3)] 5 = mkF m 0 #[.val (.ref x0), .val (.int x1), .val (.int x2), .val (.long x3), .second] [] := by (first | (simp [entryFrame, mkF, argsToLocals, Value.category]; done) | rfl)
theorem ef58 (m : MethodId) (x0 : Int64) (x1 : Int64) (x2 : Int32) (x3 : Int32) : entryFrame m #[(.long x0), (.long x1), (.int x2), (.int x3)] maxLocals = mkF m 0 #[.val (.long x0), .second, .val (.long x1), .second, .val (.int x2), .val (.int x3), .unset, .unset, .unset, .unset, .unset, .unset, .unset, .unset, .unset, .unset, .unset] [] := by (first | (simp [entryFrame, mkF, argsToLocals, Value.category, maxLocals]; done) | rfl)
/-- the String at x spells cs (Latin-1, at most 4,000 signs) -/
def Str (Z : State) (h : Heap) (x : Addr) (cs : List Int32) : Prop := Exa Z h x StN ∧ Fld Z h x StN "coder" "B" (.int 0) ∧ (∃ t, Fld Z h x StN "value" "[B" (.ref t) ∧ Wk.Ary Z h t .byte ((cs.map fun c => c.toInt8.toInt32).map Value.int)) ∧ (∀ c ∈ cs, ¬ c < 0 ∧ ¬ (255 : Int32) < c) ∧ cs.length ≤ 4000
theorem Str.ext {Z : State} {h h' : Heap} {x : Addr} {cs : List Int32} (F : Str Z h x cs) (E : Ext h h') : Str Z h' x cs := by
  obtain ⟨a, b, ⟨t, c, d⟩, r⟩ := F
  exact ⟨a.ext E, b.ext E, ⟨t, c.ext E, d.ext E⟩, r⟩
theorem Str.exa {Z : State} {h : Heap} {x : Addr} {cs : List Int32} (F : Str Z h x cs) : Exa Z h x StN := F.1
theorem Str.lt {Z : State} {h : Heap} {x : Addr} {cs : List Int32} (F : Str Z h x cs) : x < h.size := F.1.lt
theorem strNew {l : Launch} {R : Room} {Z : State} {W : Wk.Wd} {a0 : Array Value} {own nm : String} {code : ByteArray} {maxL : Nat} {ret : Option FieldType} (C : Wk.Cx Z W own nm code maxL ret) (hw : Ws a0 Z) (hs : Sets Z) {h : Heap} (O : Ext Z.heap h) {x b : Addr} {cs : List Int32} {n Wn : Nat} {v0 c0 : Value}
    (hx0 : Z.heap.size ≤ x) (E : Exa Z h x StN) (V : Fld Z h x StN "value" "[B" v0) (Cd : Fld Z h x StN "coder" "B" c0) (K : Wk.Ary Z h b .char (cs.map Value.int)) (hn : cs.length = n) (l0 : 0 < n) (l2 : n ≤ 4000) (hp : ∀ c ∈ cs, ¬ c < 0 ∧ ¬ (255 : Int32) < c) (hfr : 4 ≤ R.frames) (hlo : Wn + 65 ≤ R.locals) :
    Wk.Pays l R W (⟨"java/lang/String", "<init>", "([C)V"⟩ : MethodName) 3 Wn #[.ref x, .ref b] h 1 n (StrChars.Road.QV Z x (Int32.ofNat n) (cs.map fun c => c.toInt8.toInt32) h Z.heap.size) := by
  obtain ⟨z, fm, S1, hz, -, -⟩ := hs
  obtain ⟨kc, A⟩ := K.arv (d := .int 0)
  rw [List.length_map, hn] at A
  have hws : ∀ d ∈ StrChars.Road.words, d.before a0 Z = true := fun d hd => hw d ((by decide +kernel : ∀ d ∈ StrChars.Road.words, d ∈ tables_1) d hd)
  exact StrChars.Road.backV (W := Wn) C.hZ hws (kI := 4) (w10 hw) (cs := cs) hx0 O.1 E V Cd A (S1.ext O) hz hn rfl l0 l2 hp rfl hfr hlo
theorem strNewC {Z : State} {h : Heap} {x : Addr} {cs : List Int32} {n : Nat} (O : Ext Z.heap h) (hx0 : Z.heap.size ≤ x) (hn : cs.length = n) (l2 : n ≤ 4000) (hp : ∀ c ∈ cs, ¬ c < 0 ∧ ¬ (255 : Int32) < c) :
    Wk.Clean Z (fun v h' => v = none ∧ Keep h h' [x] ∧ Str Z h' x cs) (StrChars.Road.QV Z x (Int32.ofNat n) (cs.map fun c => c.toInt8.toInt32) h Z.heap.size) := by
  rintro v h' L ⟨rfl, N, K, E, Cd, t, kb, -, -, -, V, A⟩
  refine ⟨⟨rfl, K, E, Cd, ⟨t, V, Wk.Ary.of_arv A ?_⟩, hp, by omega⟩, Wk.Ext.keep1 (Z := Z) O K hx0, N⟩
  rw [Int32.toNatClampNeg_ofNat_of_lt (by omega)]; simp [hn]
namespace Ww
open Jvm Jvm.ClassFile Sem Op Lib Jvm.Free Jvm.Stand Jvm.LawKit Jvm.RoadKit Wk
def Go (R : Room) (Z : State) (EL : List (String × Nat)) (W : Wd) (Q : Post) (A : State) : Prop :=
  ∃ s₂ o, Steps W.p.tables W.e W.b A s₂ ∧ s₂.status = .running ∧ Ended s₂ W.b o ∧ ∃ v L, o = .returned v ∧ (Q v s₂.heap ∧ Ext Z.heap s₂.heap ∧ Fr Z.heap.size L) ∧ CHr Z EL W.s.vm W.s.heap s₂.vm s₂.heap ∧ ReturnedEndW W.s o s₂ L R.cells R.slots
abbrev At (W : Wd) (vm0 : Vm) : Wd := (W.p, W.e, W.s.setVm vm0, W.m, W.a, W.b, W.t, W.c)
abbrev Std (l : Launch) (R : Room) (W : Wd) (vm0 : Vm) (T : State) (locs : List Loc) (k n : Nat) : Prop := Stand W.p l W.e R (W.s.setVm vm0) W.m W.a W.b W.t W.c T locs k n
def Inv (Z : State) (EL : List (String × Nat)) (W : Wd) (S : List Addr) (vm0 : Vm) (h : Heap) : Prop :=
  (∃ k0, W.s.Since vm0 k0 ∧ k0 ≤ h.size) ∧ Z.Warmed39 vm0 ∧ CHr Z EL W.s.vm W.s.heap vm0 h ∧ ∀ x ∈ S, x < h.size ∧ Safe Z EL vm0 h x
def Run (l : Launch) (R : Room) (Z : State) (EL : List (String × Nat)) (W : Wd) (Q : Post) (S : List Addr) (h : Heap) (k n : Nat) (f : JFrame) : Prop :=
  ∀ vm0 T locs, Std l R W vm0 T locs k n → T.heap = h → Fr Z.heap.size locs → Ext Z.heap h → Inv Z EL W S vm0 h → Go R Z EL W Q (T.setTop f)
section Kit
variable {l : Launch} {R : Room} {Z : State} {EL : List (String × Nat)} {W : Wd} {Q : Post} {S : List Addr} {h : Heap} {k n : Nat} {own nm : String} {code : ByteArray} {maxL : Nat} {ret : Option FieldType} {a0 : Array Value} {pc pc' : Nat} {Ls : Array Slot} {st : List Value}
theorem Inv.hZ {vm0 : Vm} (I : Inv Z EL W S vm0 h) : Z.Warmed39 (W.s.setVm vm0).vm := I.2.1
theorem Inv.ow {vm0 : Vm} (I : Inv Z EL W S vm0 h) (C : Cx Z W own nm code maxL ret) : (W.s.setVm vm0).vm.findClass own = some W.m.cls := by
  obtain ⟨k0, hS, -⟩ := I.1
  show vm0.findClass own = _
  rw [hS.1.alike.findClass]; exact C.ow
theorem Inv.cx {vm0 : Vm} (I : Inv Z EL W S vm0 h) (C : Cx Z W own nm code maxL ret) : Cx Z (At W vm0) own nm code maxL ret :=
  ⟨C.1, C.2.1, C.2.2.1, I.ow C, I.hZ, C.2.2.2.2.2.1, C.2.2.2.2.2.2.1, C.2.2.2.2.2.2.2⟩
theorem Inv.ch {vm0 : Vm} (I : Inv Z EL W S vm0 h) : CHv Z EL vm0 h := I.2.2.1.1
theorem Inv.ext {vm0 : Vm} {h' : Heap} (I : Inv Z EL W S vm0 h) (E : Ext h h') : Inv Z EL W S vm0 h' := by
  obtain ⟨⟨k0, hS, hk⟩, hZ, hr, hs⟩ := I
  exact ⟨⟨k0, hS, Nat.le_trans hk E.1⟩, hZ, hr.trans (CHr.ext E hr.1), fun x hx => ⟨Nat.lt_of_lt_of_le (hs x hx).1 E.1, (hs x hx).2.ext E hr.1⟩⟩
theorem Inv.keep {vm0 : Vm} {h' : Heap} {ws : List Addr} (I : Inv Z EL W S vm0 h) (K : Keep h h' ws) (q : ∀ x ∈ ws, x ∈ S) : Inv Z EL W S vm0 h' := by
  obtain ⟨⟨k0, hS, hk⟩, hZ, hr, hs⟩ := I
  have hq : ∀ x ∈ ws, Safe Z EL vm0 h x := fun x hx => (hs x (q x hx)).2
  exact ⟨⟨k0, hS, Nat.le_trans hk K.1⟩, hZ, hr.trans (CHr.keep K hq hr.1), fun x hx => ⟨Nat.lt_of_lt_of_le (hs x hx).1 K.1, (hs x hx).2.keep K hq hr.1⟩⟩
theorem Inv.add {vm0 : Vm} {x : Addr} (I : Inv Z EL W S vm0 h) (hx : x < h.size) (sf : Safe Z EL vm0 h x) : Inv Z EL W (x :: S) vm0 h :=
  ⟨I.1, I.2.1, I.2.2.1, fun y hy => (List.mem_cons.mp hy).elim (fun e => e ▸ ⟨hx, sf⟩) (I.2.2.2 y)⟩
theorem Inv.fresh {vm0 : Vm} {h' : Heap} (I : Inv Z EL W S vm0 h) (E : Ext h h') (hx : h.size < h'.size) : Inv Z EL W (h.size :: S) vm0 h' :=
  (I.ext E).add hx ((Safe.new (Nat.le_refl _)).ext E I.ch)
theorem Go.step {A B : State} (f : ∀ t, Steps W.p.tables W.e W.b B t → Steps W.p.tables W.e W.b A t) (g : Go R Z EL W Q B) : Go R Z EL W Q A := by
  obtain ⟨t, o, h1, r⟩ := g
  exact ⟨t, o, f t h1, r⟩
theorem Run.one {g g' : JFrame} (f : ∀ vm0 T locs, Std l R W vm0 T locs k n → T.heap = h → Inv Z EL W S vm0 h → ∀ t, Steps W.p.tables W.e W.b (T.setTop g') t → Steps W.p.tables W.e W.b (T.setTop g) t) (r : Run l R Z EL W Q S h k n g') : Run l R Z EL W Q S h k n g :=
  fun vm0 T locs X eT N O I => Go.step (f vm0 T locs X eT I) (r vm0 T locs X eT N O I)
theorem Run.old {f : JFrame} (r : Ext Z.heap h → Run l R Z EL W Q S h k n f) : Run l R Z EL W Q S h k n f := fun vm0 T locs X eT N O I => r O vm0 T locs X eT N O I
/-- what is no constant of EL's, by what it holds -/
def SafeAt (Z : State) (EL : List (String × Nat)) (h : Heap) (x : Addr) : Prop := ∀ vm, Z.vm.Alike vm → CHv Z EL vm h → Safe Z EL vm h x
theorem Run.safe {f : JFrame} {x : Addr} (hx : x < h.size) (sf : SafeAt Z EL h x) (r : Run l R Z EL W Q (x :: S) h k n f) : Run l R Z EL W Q S h k n f :=
  fun vm0 T locs X eT N O I => r vm0 T locs X eT N O (I.add hx (sf vm0 I.2.1.alike I.ch))
theorem SafeAt.exa {x : Addr} {C : String} (E : Exa Z h x C) (h1 : C ≠ "java/lang/String") (h2 : C ≠ "[B") : SafeAt Z EL h x := fun vm al _ => Safe.exa al E h1 h2
theorem iloadN (C : Cx Z W own nm code maxL ret) {i : Fin 4} {v : Int32} (hd : decode code pc = .ok (.iload_n i, 1)) (hl : Ls[i.val]? = some (.val (.int v))) (hp : pc + 1 = pc')
    (r : Run l R Z EL W Q S h k n (mkF W.m pc' Ls (.int v :: st))) : Run l R Z EL W Q S h k n (mkF W.m pc Ls (st)) := by
  subst hp
  exact Run.one (fun vm0 T locs X _ I t g => XS.iloadN X.here C.hx rfl (C.hb hd) hl g) r
theorem iload (C : Cx Z W own nm code maxL ret) {i : Nat} {v : Int32} (hd : decode code pc = .ok (.iload i, 2)) (hl : Ls[i]? = some (.val (.int v))) (hp : pc + 2 = pc')
    (r : Run l R Z EL W Q S h k n (mkF W.m pc' Ls (.int v :: st))) : Run l R Z EL W Q S h k n (mkF W.m pc Ls (st)) := by
  subst hp
  exact Run.one (fun vm0 T locs X _ I t g => XS.iload X.here C.hx rfl (C.hb hd) hl g) r
theorem lloadN (C : Cx Z W own nm code maxL ret) {i : Fin 4} {v : Int64} (hd : decode code pc = .ok (.lload_n i, 1)) (hl : Ls[i.val]? = some (.val (.long v))) (hp : pc + 1 = pc')
    (r : Run l R Z EL W Q S h k n (mkF W.m pc' Ls (.long v :: st))) : Run l R Z EL W Q S h k n (mkF W.m pc Ls (st)) := by
  subst hp
  exact Run.one (fun vm0 T locs X _ I t g => XS.lloadN X.here C.hx rfl (C.hb hd) hl g) r
theorem lload (C : Cx Z W own nm code maxL ret) {i : Nat} {v : Int64} (hd : decode code pc = .ok (.lload i, 2)) (hl : Ls[i]? = some (.val (.long v))) (hp : pc + 2 = pc')
    (r : Run l R Z EL W Q S h k n (mkF W.m pc' Ls (.long v :: st))) : Run l R Z EL W Q S h k n (mkF W.m pc Ls (st)) := by
  subst hp
  exact Run.one (fun vm0 T locs X _ I t g => XS.lload X.here C.hx rfl (C.hb hd) hl g) r
theorem aloadN (C : Cx Z W own nm code maxL ret) {i : Fin 4} {v : Value} (hd : decode code pc = .ok (.aload_n i, 1)) (hl : Ls[i.val]? = some (.val v)) (hv : v.isRef = true) (hp : pc + 1 = pc')
    (r : Run l R Z EL W Q S h k n (mkF W.m pc' Ls (v :: st))) : Run l R Z EL W Q S h k n (mkF W.m pc Ls (st)) := by
  subst hp
  exact Run.one (fun vm0 T locs X _ I t g => XS.aloadN X.here C.hx rfl (C.hb hd) hl hv g) r
theorem aload (C : Cx Z W own nm code maxL ret) {i : Nat} {v : Value} (hd : decode code pc = .ok (.aload i, 2)) (hl : Ls[i]? = some (.val v)) (hv : v.isRef = true) (hp : pc + 2 = pc')
    (r : Run l R Z EL W Q S h k n (mkF W.m pc' Ls (v :: st))) : Run l R Z EL W Q S h k n (mkF W.m pc Ls (st)) := by
  subst hp
  exact Run.one (fun vm0 T locs X _ I t g => XS.aload X.here C.hx rfl (C.hb hd) hl hv g) r
theorem istoreN (C : Cx Z W own nm code maxL ret) {i : Fin 4} {v : Int32} {Ls' : Array Slot} (hd : decode code pc = .ok (.istore_n i, 1)) (hl : storeLocals Ls i.val (.int v) = some Ls') (hp : pc + 1 = pc')
    (r : Run l R Z EL W Q S h k n (mkF W.m pc' Ls' (st))) : Run l R Z EL W Q S h k n (mkF W.m pc Ls (.int v :: st)) := by
  subst hp
  exact Run.one (fun vm0 T locs X _ I t g => XS.istoreN X.here C.hx rfl (C.hb hd) rfl hl g) r
theorem istore (C : Cx Z W own nm code maxL ret) {i : Nat} {v : Int32} {Ls' : Array Slot} (hd : decode code pc = .ok (.istore i, 2)) (hl : storeLocals Ls i (.int v) = some Ls') (hp : pc + 2 = pc')
    (r : Run l R Z EL W Q S h k n (mkF W.m pc' Ls' (st))) : Run l R Z EL W Q S h k n (mkF W.m pc Ls (.int v :: st)) := by
  subst hp
  exact Run.one (fun vm0 T locs X _ I t g => XS.istore X.here C.hx rfl (C.hb hd) rfl hl g) r
theorem lstore (C : Cx Z W own nm code maxL ret) {i : Nat} {v : Int64} {Ls' : Array Slot} (hd : decode code pc = .ok (.lstore i, 2)) (hl : storeLocals Ls i (.long v) = some Ls') (hp : pc + 2 = pc')
    (r : Run l R Z EL W Q S h k n (mkF W.m pc' Ls' (st))) : Run l R Z EL W Q S h k n (mkF W.m pc Ls (.long v :: st)) := by
  subst hp
  exact Run.one (fun vm0 T locs X _ I t g => XS.lstore X.here C.hx rfl (C.hb hd) rfl hl g) r
theorem astoreN (C : Cx Z W own nm code maxL ret) {i : Fin 4} {v : Value} {Ls' : Array Slot} (hd : decode code pc = .ok (.astore_n i, 1)) (hv : v.isRef = true) (hl : storeLocals Ls i.val v = some Ls') (hp : pc + 1 = pc')
    (r : Run l R Z EL W Q S h k n (mkF W.m pc' Ls' (st))) : Run l R Z EL W Q S h k n (mkF W.m pc Ls (v :: st)) := by
  subst hp
  exact Run.one (fun vm0 T locs X _ I t g => XS.astoreN X.here C.hx rfl (C.hb hd) rfl hv hl g) r
theorem astore (C : Cx Z W own nm code maxL ret) {i : Nat} {v : Value} {Ls' : Array Slot} (hd : decode code pc = .ok (.astore i, 2)) (hv : v.isRef = true) (hl : storeLocals Ls i v = some Ls') (hp : pc + 2 = pc')
    (r : Run l R Z EL W Q S h k n (mkF W.m pc' Ls' (st))) : Run l R Z EL W Q S h k n (mkF W.m pc Ls (v :: st)) := by
  subst hp
  exact Run.one (fun vm0 T locs X _ I t g => XS.astore X.here C.hx rfl (C.hb hd) rfl hv hl g) r
theorem iconst (C : Cx Z W own nm code maxL ret) {i : Int} {v : Int32} (hd : decode code pc = .ok (.iconst i, 1)) (hv : Int32.ofInt i = v) (hp : pc + 1 = pc')
    (r : Run l R Z EL W Q S h k n (mkF W.m pc' Ls (.int v :: st))) : Run l R Z EL W Q S h k n (mkF W.m pc Ls (st)) := by
  subst hp
  exact Run.one (fun vm0 T locs X _ I t g => XS.iconst X.here C.hx rfl (C.hb hd) (hv ▸ g)) r
theorem bipush (C : Cx Z W own nm code maxL ret) {i : Int} {v : Int32} (hd : decode code pc = .ok (.bipush i, 2)) (hv : (Int8.ofInt i).toInt32 = v) (hp : pc + 2 = pc')
    (r : Run l R Z EL W Q S h k n (mkF W.m pc' Ls (.int v :: st))) : Run l R Z EL W Q S h k n (mkF W.m pc Ls (st)) := by
  subst hp
  exact Run.one (fun vm0 T locs X _ I t g => XS.bipush X.here C.hx rfl (C.hb hd) (hv ▸ g)) r
theorem sipush (C : Cx Z W own nm code maxL ret) {i : Int} {v : Int32} (hd : decode code pc = .ok (.sipush i, 3)) (hv : (Int16.ofInt i).toInt32 = v) (hp : pc + 3 = pc')
    (r : Run l R Z EL W Q S h k n (mkF W.m pc' Ls (.int v :: st))) : Run l R Z EL W Q S h k n (mkF W.m pc Ls (st)) := by
  subst hp
  exact Run.one (fun vm0 T locs X _ I t g => XS.sipush X.here C.hx rfl (C.hb hd) (hv ▸ g)) r
theorem aconstNull (C : Cx Z W own nm code maxL ret)  (hd : decode code pc = .ok (.aconst_null, 1)) (hp : pc + 1 = pc')
    (r : Run l R Z EL W Q S h k n (mkF W.m pc' Ls (.null :: st))) : Run l R Z EL W Q S h k n (mkF W.m pc Ls (st)) := by
  subst hp
  exact Run.one (fun vm0 T locs X _ I t g => XS.aconstNull X.here C.hx rfl (C.hb hd) g) r
theorem iadd (C : Cx Z W own nm code maxL ret) {x y v : Int32} (hd : decode code pc = .ok (.iadd, 1)) (hv : x + y = v) (hp : pc + 1 = pc')
    (r : Run l R Z EL W Q S h k n (mkF W.m pc' Ls (.int v :: st))) : Run l R Z EL W Q S h k n (mkF W.m pc Ls (.int y :: .int x :: st)) := by
  subst hp
  exact Run.one (fun vm0 T locs X _ I t g => XS.iadd X.here C.hx rfl (C.hb hd) rfl (hv ▸ g)) r
theorem isub (C : Cx Z W own nm code maxL ret) {x y v : Int32} (hd : decode code pc = .ok (.isub, 1)) (hv : x - y = v) (hp : pc + 1 = pc')
    (r : Run l R Z EL W Q S h k n (mkF W.m pc' Ls (.int v :: st))) : Run l R Z EL W Q S h k n (mkF W.m pc Ls (.int y :: .int x :: st)) := by
  subst hp
  exact Run.one (fun vm0 T locs X _ I t g => XS.isub X.here C.hx rfl (C.hb hd) rfl (hv ▸ g)) r
theorem imul (C : Cx Z W own nm code maxL ret) {x y v : Int32} (hd : decode code pc = .ok (.imul, 1)) (hv : x * y = v) (hp : pc + 1 = pc')
    (r : Run l R Z EL W Q S h k n (mkF W.m pc' Ls (.int v :: st))) : Run l R Z EL W Q S h k n (mkF W.m pc Ls (.int y :: .int x :: st)) := by
  subst hp
  exact Run.one (fun vm0 T locs X _ I t g => XS.imul X.here C.hx rfl (C.hb hd) rfl (hv ▸ g)) r
theorem iand (C : Cx Z W own nm code maxL ret) {x y v : Int32} (hd : decode code pc = .ok (.iand, 1)) (hv : x &&& y = v) (hp : pc + 1 = pc')
    (r : Run l R Z EL W Q S h k n (mkF W.m pc' Ls (.int v :: st))) : Run l R Z EL W Q S h k n (mkF W.m pc Ls (.int y :: .int x :: st)) := by
  subst hp
  exact Run.one (fun vm0 T locs X _ I t g => XS.iand X.here C.hx rfl (C.hb hd) rfl (hv ▸ g)) r
theorem ior (C : Cx Z W own nm code maxL ret) {x y v : Int32} (hd : decode code pc = .ok (.ior, 1)) (hv : x ||| y = v) (hp : pc + 1 = pc')
    (r : Run l R Z EL W Q S h k n (mkF W.m pc' Ls (.int v :: st))) : Run l R Z EL W Q S h k n (mkF W.m pc Ls (.int y :: .int x :: st)) := by
  subst hp
  exact Run.one (fun vm0 T locs X _ I t g => XS.ior X.here C.hx rfl (C.hb hd) rfl (hv ▸ g)) r
theorem ladd (C : Cx Z W own nm code maxL ret) {x y v : Int64} (hd : decode code pc = .ok (.ladd, 1)) (hv : x + y = v) (hp : pc + 1 = pc')
    (r : Run l R Z EL W Q S h k n (mkF W.m pc' Ls (.long v :: st))) : Run l R Z EL W Q S h k n (mkF W.m pc Ls (.long y :: .long x :: st)) := by
  subst hp
  exact Run.one (fun vm0 T locs X _ I t g => XS.ladd X.here C.hx rfl (C.hb hd) rfl (hv ▸ g)) r
theorem land (C : Cx Z W own nm code maxL ret) {x y v : Int64} (hd : decode code pc = .ok (.land, 1)) (hv : x &&& y = v) (hp : pc + 1 = pc')
    (r : Run l R Z EL W Q S h k n (mkF W.m pc' Ls (.long v :: st))) : Run l R Z EL W Q S h k n (mkF W.m pc Ls (.long y :: .long x :: st)) := by
  subst hp
  exact Run.one (fun vm0 T locs X _ I t g => XS.land X.here C.hx rfl (C.hb hd) rfl (hv ▸ g)) r
theorem idiv (C : Cx Z W own nm code maxL ret) {x y v : Int32} (hd : decode code pc = .ok (.idiv, 1)) (hy : ¬ y = 0) (hv : x / y = v) (hp : pc + 1 = pc')
    (r : Run l R Z EL W Q S h k n (mkF W.m pc' Ls (.int v :: st))) : Run l R Z EL W Q S h k n (mkF W.m pc Ls (.int y :: .int x :: st)) := by
  subst hp
  exact Run.one (fun vm0 T locs X _ I t g => XS.idiv X.here C.hx rfl (C.hb hd) rfl hy (hv ▸ g)) r
theorem irem (C : Cx Z W own nm code maxL ret) {x y v : Int32} (hd : decode code pc = .ok (.irem, 1)) (hy : ¬ y = 0) (hv : x % y = v) (hp : pc + 1 = pc')
    (r : Run l R Z EL W Q S h k n (mkF W.m pc' Ls (.int v :: st))) : Run l R Z EL W Q S h k n (mkF W.m pc Ls (.int y :: .int x :: st)) := by
  subst hp
  exact Run.one (fun vm0 T locs X _ I t g => iremM X C.hx rfl (C.hb hd) rfl hy (hv ▸ g)) r
theorem ldiv (C : Cx Z W own nm code maxL ret) {x y v : Int64} (hd : decode code pc = .ok (.ldiv, 1)) (hy : ¬ y = 0) (hv : x / y = v) (hp : pc + 1 = pc')
    (r : Run l R Z EL W Q S h k n (mkF W.m pc' Ls (.long v :: st))) : Run l R Z EL W Q S h k n (mkF W.m pc Ls (.long y :: .long x :: st)) := by
  subst hp
  exact Run.one (fun vm0 T locs X _ I t g => XT.ldiv X.here C.hx rfl (C.hb hd) rfl hy (hv ▸ g)) r
theorem ishl (C : Cx Z W own nm code maxL ret) {x y v : Int32} (hd : decode code pc = .ok (.ishl, 1)) (hv : x <<< (y &&& 31) = v) (hp : pc + 1 = pc')
    (r : Run l R Z EL W Q S h k n (mkF W.m pc' Ls (.int v :: st))) : Run l R Z EL W Q S h k n (mkF W.m pc Ls (.int y :: .int x :: st)) := by
  subst hp
  exact Run.one (fun vm0 T locs X _ I t g => XS.ishl X.here C.hx rfl (C.hb hd) rfl (hv ▸ g)) r
theorem ishr (C : Cx Z W own nm code maxL ret) {x y v : Int32} (hd : decode code pc = .ok (.ishr, 1)) (hv : x >>> (y &&& 31) = v) (hp : pc + 1 = pc')
    (r : Run l R Z EL W Q S h k n (mkF W.m pc' Ls (.int v :: st))) : Run l R Z EL W Q S h k n (mkF W.m pc Ls (.int y :: .int x :: st)) := by
  subst hp
  exact Run.one (fun vm0 T locs X _ I t g => XS.ishr X.here C.hx rfl (C.hb hd) rfl (hv ▸ g)) r
theorem iushr (C : Cx Z W own nm code maxL ret) {x y v : Int32} (hd : decode code pc = .ok (.iushr, 1)) (hv : (x.toUInt32 >>> (y &&& 31).toUInt32).toInt32 = v) (hp : pc + 1 = pc')
    (r : Run l R Z EL W Q S h k n (mkF W.m pc' Ls (.int v :: st))) : Run l R Z EL W Q S h k n (mkF W.m pc Ls (.int y :: .int x :: st)) := by
  subst hp
  exact Run.one (fun vm0 T locs X _ I t g => XS.iushr X.here C.hx rfl (C.hb hd) rfl (hv ▸ g)) r
theorem lshl (C : Cx Z W own nm code maxL ret) {x : Int64} {y : Int32} {v : Int64} (hd : decode code pc = .ok (.lshl, 1)) (hv : x <<< (y &&& 0x3f).toInt64 = v) (hp : pc + 1 = pc')
    (r : Run l R Z EL W Q S h k n (mkF W.m pc' Ls (.long v :: st))) : Run l R Z EL W Q S h k n (mkF W.m pc Ls (.int y :: .long x :: st)) := by
  subst hp
  exact Run.one (fun vm0 T locs X _ I t g => XS.lshl X.here C.hx rfl (C.hb hd) rfl (hv ▸ g)) r
theorem lushr (C : Cx Z W own nm code maxL ret) {x : Int64} {y : Int32} {v : Int64} (hd : decode code pc = .ok (.lushr, 1)) (hv : (x.toUInt64 >>> (y &&& 0x3f).toInt64.toUInt64).toInt64 = v) (hp : pc + 1 = pc')
    (r : Run l R Z EL W Q S h k n (mkF W.m pc' Ls (.long v :: st))) : Run l R Z EL W Q S h k n (mkF W.m pc Ls (.int y :: .long x :: st)) := by
  subst hp
  exact Run.one (fun vm0 T locs X _ I t g => XS.lushr X.here C.hx rfl (C.hb hd) rfl (hv ▸ g)) r
theorem i2l (C : Cx Z W own nm code maxL ret) {x : Int32} {v : Int64} (hd : decode code pc = .ok (.i2l, 1)) (hv : x.toInt64 = v) (hp : pc + 1 = pc')
    (r : Run l R Z EL W Q S h k n (mkF W.m pc' Ls (.long v :: st))) : Run l R Z EL W Q S h k n (mkF W.m pc Ls (.int x :: st)) := by
  subst hp
  exact Run.one (fun vm0 T locs X _ I t g => XS.i2l X.here C.hx rfl (C.hb hd) rfl (hv ▸ g)) r
theorem l2i (C : Cx Z W own nm code maxL ret) {x : Int64} {v : Int32} (hd : decode code pc = .ok (.l2i, 1)) (hv : x.toInt32 = v) (hp : pc + 1 = pc')
    (r : Run l R Z EL W Q S h k n (mkF W.m pc' Ls (.int v :: st))) : Run l R Z EL W Q S h k n (mkF W.m pc Ls (.long x :: st)) := by
  subst hp
  exact Run.one (fun vm0 T locs X _ I t g => XS.l2i X.here C.hx rfl (C.hb hd) rfl (hv ▸ g)) r
theorem i2b (C : Cx Z W own nm code maxL ret) {x : Int32} {v : Int32} (hd : decode code pc = .ok (.i2b, 1)) (hv : x.toInt8.toInt32 = v) (hp : pc + 1 = pc')
    (r : Run l R Z EL W Q S h k n (mkF W.m pc' Ls (.int v :: st))) : Run l R Z EL W Q S h k n (mkF W.m pc Ls (.int x :: st)) := by
  subst hp
  exact Run.one (fun vm0 T locs X _ I t g => XS.i2b X.here C.hx rfl (C.hb hd) rfl (hv ▸ g)) r
theorem i2c (C : Cx Z W own nm code maxL ret) {x : Int32} {v : Int32} (hd : decode code pc = .ok (.i2c, 1)) (hv : x.toUInt32.toUInt16.toUInt32.toInt32 = v) (hp : pc + 1 = pc')
    (r : Run l R Z EL W Q S h k n (mkF W.m pc' Ls (.int v :: st))) : Run l R Z EL W Q S h k n (mkF W.m pc Ls (.int x :: st)) := by
  subst hp
  exact Run.one (fun vm0 T locs X _ I t g => XS.i2c X.here C.hx rfl (C.hb hd) rfl (hv ▸ g)) r
theorem dup (C : Cx Z W own nm code maxL ret) {v : Value} (hd : decode code pc = .ok (.dup, 1)) (hc : v.category = 1) (hp : pc + 1 = pc')
    (r : Run l R Z EL W Q S h k n (mkF W.m pc' Ls (v :: v :: st))) : Run l R Z EL W Q S h k n (mkF W.m pc Ls (v :: st)) := by
  subst hp
  exact Run.one (fun vm0 T locs X _ I t g => XS.dup X.here C.hx rfl (C.hb hd) rfl hc g) r
theorem pop (C : Cx Z W own nm code maxL ret) {v : Value} (hd : decode code pc = .ok (.pop, 1)) (hc : v.category = 1) (hp : pc + 1 = pc')
    (r : Run l R Z EL W Q S h k n (mkF W.m pc' Ls (st))) : Run l R Z EL W Q S h k n (mkF W.m pc Ls (v :: st)) := by
  subst hp
  exact Run.one (fun vm0 T locs X _ I t g => XS.pop X.here C.hx rfl (C.hb hd) rfl hc g) r
theorem iinc (C : Cx Z W own nm code maxL ret) {i : Nat} {d : Int} {x v : Int32} {Ls' : Array Slot} (hd : decode code pc = .ok (.iinc i d, 3)) (hl : Ls[i]? = some (.val (.int x))) (hv : x + Int32.ofInt d = v) (hl' : storeLocals Ls i (.int v) = some Ls') (hp : pc + 3 = pc')
    (r : Run l R Z EL W Q S h k n (mkF W.m pc' Ls' st)) : Run l R Z EL W Q S h k n (mkF W.m pc Ls st) := by
  subst hp hv
  exact Run.one (fun vm0 T locs X _ I t g => XS.iinc X.here C.hx rfl (C.hb hd) hl hl' g) r
theorem goto (C : Cx Z W own nm code maxL ret) {o : Int} (hd : decode code pc = .ok (.goto o, 3)) (ho : 0 ≤ (pc : Int) + o) (hp : ((pc : Int) + o).toNat = pc')
    (r : Run l R Z EL W Q S h k n (mkF W.m pc' Ls st)) : Run l R Z EL W Q S h k n (mkF W.m pc Ls st) :=
  Run.one (fun vm0 T locs X _ I t g => XS.goto X.here C.hx rfl rfl (C.hb hd) ho hp g) r
theorem icmp_eq (C : Cx Z W own nm code maxL ret) {x y : Int32} {o : Int} {pcT : Nat} (hd : decode code pc = .ok (.if_icmp .eq o, 3)) (ho : 0 ≤ (pc : Int) + o) (hp : ((pc : Int) + o).toNat = pcT) (hp' : pc + 3 = pc')
    (rt : x = y → Run l R Z EL W Q S h k n (mkF W.m pcT Ls st)) (rf : ¬ x = y → Run l R Z EL W Q S h k n (mkF W.m pc' Ls st)) : Run l R Z EL W Q S h k n (mkF W.m pc Ls (.int y :: .int x :: st)) := by
  subst hp'
  by_cases q : x = y
  · exact Run.one (fun vm0 T locs X _ I t g => XS.icmpYes X.here C.hx rfl rfl (C.hb hd) rfl (teq q).1 ho hp g) (rt q)
  · exact Run.one (fun vm0 T locs X _ I t g => XS.icmpNo X.here C.hx rfl (C.hb hd) rfl (feq q).1 g) (rf q)
theorem if_eq (C : Cx Z W own nm code maxL ret) {x : Int32} {o : Int} {pcT : Nat} (hd : decode code pc = .ok (.ifCond .eq o, 3)) (ho : 0 ≤ (pc : Int) + o) (hp : ((pc : Int) + o).toNat = pcT) (hp' : pc + 3 = pc')
    (rt : x = (0 : Int32) → Run l R Z EL W Q S h k n (mkF W.m pcT Ls st)) (rf : ¬ x = (0 : Int32) → Run l R Z EL W Q S h k n (mkF W.m pc' Ls st)) : Run l R Z EL W Q S h k n (mkF W.m pc Ls (.int x :: st)) := by
  subst hp'
  by_cases q : x = (0 : Int32)
  · exact Run.one (fun vm0 T locs X _ I t g => XS.ifYes X.here C.hx rfl rfl (C.hb hd) rfl ((if0 _ _).trans (teq q).1) ho hp g) (rt q)
  · exact Run.one (fun vm0 T locs X _ I t g => XS.ifNo X.here C.hx rfl (C.hb hd) rfl ((if0 _ _).trans (feq q).1) g) (rf q)
theorem icmp_ne (C : Cx Z W own nm code maxL ret) {x y : Int32} {o : Int} {pcT : Nat} (hd : decode code pc = .ok (.if_icmp .ne o, 3)) (ho : 0 ≤ (pc : Int) + o) (hp : ((pc : Int) + o).toNat = pcT) (hp' : pc + 3 = pc')
    (rt : ¬ x = y → Run l R Z EL W Q S h k n (mkF W.m pcT Ls st)) (rf : x = y → Run l R Z EL W Q S h k n (mkF W.m pc' Ls st)) : Run l R Z EL W Q S h k n (mkF W.m pc Ls (.int y :: .int x :: st)) := by
  subst hp'
  by_cases q : x = y
  · exact Run.one (fun vm0 T locs X _ I t g => XS.icmpNo X.here C.hx rfl (C.hb hd) rfl (teq q).2 g) (rf q)
  · exact Run.one (fun vm0 T locs X _ I t g => XS.icmpYes X.here C.hx rfl rfl (C.hb hd) rfl (feq q).2 ho hp g) (rt q)
theorem if_ne (C : Cx Z W own nm code maxL ret) {x : Int32} {o : Int} {pcT : Nat} (hd : decode code pc = .ok (.ifCond .ne o, 3)) (ho : 0 ≤ (pc : Int) + o) (hp : ((pc : Int) + o).toNat = pcT) (hp' : pc + 3 = pc')
    (rt : ¬ x = (0 : Int32) → Run l R Z EL W Q S h k n (mkF W.m pcT Ls st)) (rf : x = (0 : Int32) → Run l R Z EL W Q S h k n (mkF W.m pc' Ls st)) : Run l R Z EL W Q S h k n (mkF W.m pc Ls (.int x :: st)) := by
  subst hp'
  by_cases q : x = (0 : Int32)
  · exact Run.one (fun vm0 T locs X _ I t g => XS.ifNo X.here C.hx rfl (C.hb hd) rfl ((if0 _ _).trans (teq q).2) g) (rf q)
  · exact Run.one (fun vm0 T locs X _ I t g => XS.ifYes X.here C.hx rfl rfl (C.hb hd) rfl ((if0 _ _).trans (feq q).2) ho hp g) (rt q)
theorem icmp_lt (C : Cx Z W own nm code maxL ret) {x y : Int32} {o : Int} {pcT : Nat} (hd : decode code pc = .ok (.if_icmp .lt o, 3)) (ho : 0 ≤ (pc : Int) + o) (hp : ((pc : Int) + o).toNat = pcT) (hp' : pc + 3 = pc')
    (rt : x < y → Run l R Z EL W Q S h k n (mkF W.m pcT Ls st)) (rf : ¬ x < y → Run l R Z EL W Q S h k n (mkF W.m pc' Ls st)) : Run l R Z EL W Q S h k n (mkF W.m pc Ls (.int y :: .int x :: st)) := by
  subst hp'
  by_cases q : x < y
  · exact Run.one (fun vm0 T locs X _ I t g => XS.icmpYes X.here C.hx rfl rfl (C.hb hd) rfl (tlt q).1 ho hp g) (rt q)
  · exact Run.one (fun vm0 T locs X _ I t g => XS.icmpNo X.here C.hx rfl (C.hb hd) rfl (flt q).1 g) (rf q)
theorem if_lt (C : Cx Z W own nm code maxL ret) {x : Int32} {o : Int} {pcT : Nat} (hd : decode code pc = .ok (.ifCond .lt o, 3)) (ho : 0 ≤ (pc : Int) + o) (hp : ((pc : Int) + o).toNat = pcT) (hp' : pc + 3 = pc')
    (rt : x < (0 : Int32) → Run l R Z EL W Q S h k n (mkF W.m pcT Ls st)) (rf : ¬ x < (0 : Int32) → Run l R Z EL W Q S h k n (mkF W.m pc' Ls st)) : Run l R Z EL W Q S h k n (mkF W.m pc Ls (.int x :: st)) := by
  subst hp'
  by_cases q : x < (0 : Int32)
  · exact Run.one (fun vm0 T locs X _ I t g => XS.ifYes X.here C.hx rfl rfl (C.hb hd) rfl ((if0 _ _).trans (tlt q).1) ho hp g) (rt q)
  · exact Run.one (fun vm0 T locs X _ I t g => XS.ifNo X.here C.hx rfl (C.hb hd) rfl ((if0 _ _).trans (flt q).1) g) (rf q)
theorem icmp_ge (C : Cx Z W own nm code maxL ret) {x y : Int32} {o : Int} {pcT : Nat} (hd : decode code pc = .ok (.if_icmp .ge o, 3)) (ho : 0 ≤ (pc : Int) + o) (hp : ((pc : Int) + o).toNat = pcT) (hp' : pc + 3 = pc')
    (rt : ¬ x < y → Run l R Z EL W Q S h k n (mkF W.m pcT Ls st)) (rf : x < y → Run l R Z EL W Q S h k n (mkF W.m pc' Ls st)) : Run l R Z EL W Q S h k n (mkF W.m pc Ls (.int y :: .int x :: st)) := by
  subst hp'
  by_cases q : x < y
  · exact Run.one (fun vm0 T locs X _ I t g => XS.icmpNo X.here C.hx rfl (C.hb hd) rfl (tlt q).2.1 g) (rf q)
  · exact Run.one (fun vm0 T locs X _ I t g => XS.icmpYes X.here C.hx rfl rfl (C.hb hd) rfl (flt q).2.1 ho hp g) (rt q)
theorem if_ge (C : Cx Z W own nm code maxL ret) {x : Int32} {o : Int} {pcT : Nat} (hd : decode code pc = .ok (.ifCond .ge o, 3)) (ho : 0 ≤ (pc : Int) + o) (hp : ((pc : Int) + o).toNat = pcT) (hp' : pc + 3 = pc')
    (rt : ¬ x < (0 : Int32) → Run l R Z EL W Q S h k n (mkF W.m pcT Ls st)) (rf : x < (0 : Int32) → Run l R Z EL W Q S h k n (mkF W.m pc' Ls st)) : Run l R Z EL W Q S h k n (mkF W.m pc Ls (.int x :: st)) := by
  subst hp'
  by_cases q : x < (0 : Int32)
  · exact Run.one (fun vm0 T locs X _ I t g => XS.ifNo X.here C.hx rfl (C.hb hd) rfl ((if0 _ _).trans (tlt q).2.1) g) (rf q)
  · exact Run.one (fun vm0 T locs X _ I t g => XS.ifYes X.here C.hx rfl rfl (C.hb hd) rfl ((if0 _ _).trans (flt q).2.1) ho hp g) (rt q)
theorem icmp_gt (C : Cx Z W own nm code maxL ret) {x y : Int32} {o : Int} {pcT : Nat} (hd : decode code pc = .ok (.if_icmp .gt o, 3)) (ho : 0 ≤ (pc : Int) + o) (hp : ((pc : Int) + o).toNat = pcT) (hp' : pc + 3 = pc')
    (rt : y < x → Run l R Z EL W Q S h k n (mkF W.m pcT Ls st)) (rf : ¬ y < x → Run l R Z EL W Q S h k n (mkF W.m pc' Ls st)) : Run l R Z EL W Q S h k n (mkF W.m pc Ls (.int y :: .int x :: st)) := by
  subst hp'
  by_cases q : y < x
  · exact Run.one (fun vm0 T locs X _ I t g => XS.icmpYes X.here C.hx rfl rfl (C.hb hd) rfl (tlt q).2.2.1 ho hp g) (rt q)
  · exact Run.one (fun vm0 T locs X _ I t g => XS.icmpNo X.here C.hx rfl (C.hb hd) rfl (flt q).2.2.1 g) (rf q)
theorem icmp_le (C : Cx Z W own nm code maxL ret) {x y : Int32} {o : Int} {pcT : Nat} (hd : decode code pc = .ok (.if_icmp .le o, 3)) (ho : 0 ≤ (pc : Int) + o) (hp : ((pc : Int) + o).toNat = pcT) (hp' : pc + 3 = pc')
    (rt : ¬ y < x → Run l R Z EL W Q S h k n (mkF W.m pcT Ls st)) (rf : y < x → Run l R Z EL W Q S h k n (mkF W.m pc' Ls st)) : Run l R Z EL W Q S h k n (mkF W.m pc Ls (.int y :: .int x :: st)) := by
  subst hp'
  by_cases q : y < x
  · exact Run.one (fun vm0 T locs X _ I t g => XS.icmpNo X.here C.hx rfl (C.hb hd) rfl (tlt q).2.2.2 g) (rf q)
  · exact Run.one (fun vm0 T locs X _ I t g => XS.icmpYes X.here C.hx rfl rfl (C.hb hd) rfl (flt q).2.2.2 ho hp g) (rt q)
theorem ifnonnullY (C : Cx Z W own nm code maxL ret) {o : Int} {b : Addr} (hd : decode code pc = .ok (.ifnonnull o, 3)) (ho : 0 ≤ (pc : Int) + o) (hp : ((pc : Int) + o).toNat = pc') (r : Run l R Z EL W Q S h k n (mkF W.m pc' Ls st)) : Run l R Z EL W Q S h k n (mkF W.m pc Ls (.ref b :: st)) :=
  Run.one (fun vm0 T locs X _ I t g => XS.ifnonnullYes X.here C.hx rfl rfl (C.hb hd) rfl ho hp g) r
theorem acmp_ne (C : Cx Z W own nm code maxL ret) {o : Int} {x y : Value} {pcT : Nat} (hd : decode code pc = .ok (.if_acmp .ne o, 3)) (hx' : x.isRef = true) (hy' : y.isRef = true) (ho : 0 ≤ (pc : Int) + o) (hp : ((pc : Int) + o).toNat = pcT) (hp' : pc + 3 = pc')
    (rt : ¬ x = y → Run l R Z EL W Q S h k n (mkF W.m pcT Ls st)) (rf : x = y → Run l R Z EL W Q S h k n (mkF W.m pc' Ls st)) : Run l R Z EL W Q S h k n (mkF W.m pc Ls (y :: x :: st)) := by
  subst hp'
  by_cases q : x = y
  · exact Run.one (fun vm0 T locs X _ I t g => XT.acmpNo X.here C.hx rfl (C.hb hd) rfl hx' hy' (XT.aa_ne_f q) g) (rf q)
  · exact Run.one (fun vm0 T locs X _ I t g => XT.acmpYes X.here C.hx rfl rfl (C.hb hd) rfl hx' hy' (XT.aa_ne_t q) ho hp g) (rt q)
theorem ldcI (C : Cx Z W own nm code maxL ret) {ix : Nat} {v : Int32} (hd : decode code pc = .ok (.ldc ix, 2)) (w : (Cond.constant own ix v).before a0 Z = true) (hp : pc + 2 = pc') (r : Run l R Z EL W Q S h k n (mkF W.m pc' Ls (.int v :: st))) : Run l R Z EL W Q S h k n (mkF W.m pc Ls st) := by
  subst hp
  exact Run.one (fun vm0 T locs X _ I t g => X.ldcInt C.hx (I.ow C) (mvT I.hZ w) (g := mkF W.m pc Ls st) rfl (C.hb hd) t g) r
theorem ldc2J (C : Cx Z W own nm code maxL ret) {ix : Nat} {v : Int64} (hd : decode code pc = .ok (.ldc2_w ix, 3)) (w : (Cond.constantLong own ix v).before a0 Z = true) (hp : pc + 3 = pc') (r : Run l R Z EL W Q S h k n (mkF W.m pc' Ls (.long v :: st))) : Run l R Z EL W Q S h k n (mkF W.m pc Ls st) := by
  subst hp
  exact Run.one (fun vm0 T locs X _ I t g => X.ldc2Long C.hx (I.ow C) (mvT I.hZ w) (g := mkF W.m pc Ls st) rfl (C.hb hd) t g) r
theorem Run.via {g g' : JFrame} (f : ∀ vm0 T locs, Std l R W vm0 T locs k n → T.heap = h → Inv Z EL W S vm0 h → ∃ T', Std l R W vm0 T' locs k n ∧ T'.heap = h ∧ ∀ t, Steps W.p.tables W.e W.b (T'.setTop g') t → Steps W.p.tables W.e W.b (T.setTop g) t) (r : Run l R Z EL W Q S h k n g') : Run l R Z EL W Q S h k n g :=
  fun vm0 T locs X eT N O I => by
    obtain ⟨T', X', e', s'⟩ := f vm0 T locs X eT I
    exact Go.step s' (r vm0 T' locs X' e' N O I)
theorem getF (C : Cx Z W own nm code maxL ret) {R0 O nmF d : String} {ix : Nat} (hd : decode code pc = .ok (.getfield ix, 3)) (w : (Cond.fieldLink own ix R0 nmF d).before a0 Z = true) (via : Via Z R0 O nmF d) {a : Addr} {v : Value} (F : Fld Z h a O nmF d v) (hp : pc + 3 = pc')
    (r : Run l R Z EL W Q S h k n (mkF W.m pc' Ls (v :: st))) : Run l R Z EL W Q S h k n (mkF W.m pc Ls (.ref a :: st)) := by
  subst hp
  exact Run.via (fun vm0 T locs X eT I => RoadKit.getF X C.hx I.hZ (I.ow C) (host := "") (Or.inl w) via eT F (g := mkF W.m pc Ls (.ref a :: st)) rfl rfl (C.hb hd)) r
theorem getS (C : Cx Z W own nm code maxL ret) {R0 O nmF d : String} {ix : Nat} (hd : decode code pc = .ok (.getstatic ix, 3)) (w : (Cond.fieldLink own ix R0 nmF d).before a0 Z = true) (via : Via Z R0 O nmF d) {v : Value} (F : Sta Z h O nmF d v) (hp : pc + 3 = pc')
    (r : Run l R Z EL W Q S h k n (mkF W.m pc' Ls (v :: st))) : Run l R Z EL W Q S h k n (mkF W.m pc Ls st) := by
  subst hp
  exact Run.via (fun vm0 T locs X eT I => getS2 X C.hx I.hZ (I.ow C) (host := "") (Or.inl w) via eT F (g := mkF W.m pc Ls st) rfl (C.hb hd)) r
theorem castY (C : Cx Z W own nm code maxL ret) {K : String} {ix : Nat} (hd : decode code pc = .ok (.checkcast ix, 3)) (w : (Cond.classLink own ix K).before a0 Z = true) {a : Addr} (F : Ins Z h a K true) (hp : pc + 3 = pc')
    (r : Run l R Z EL W Q S h k n (mkF W.m pc' Ls (.ref a :: st))) : Run l R Z EL W Q S h k n (mkF W.m pc Ls (.ref a :: st)) := by
  subst hp
  exact Run.via (fun vm0 T locs X eT I => RoadKit.castY X C.hx I.hZ (I.ow C) w eT F (g := mkF W.m pc Ls (.ref a :: st)) rfl rfl (C.hb hd)) r
theorem alen (C : Cx Z W own nm code maxL ret) (hd : decode code pc = .ok (.arraylength, 1)) {a : Addr} {ty : FieldType} {vs : List Value} {z : Int32} (F : Ary Z h a ty vs) (hz : Int32.ofNat vs.length = z) (hp : pc + 1 = pc')
    (r : Run l R Z EL W Q S h k n (mkF W.m pc' Ls (.int z :: st))) : Run l R Z EL W Q S h k n (mkF W.m pc Ls (.ref a :: st)) := by
  subst hp hz
  obtain ⟨c, A, e, -⟩ := F
  have e2 : c.slots.size.toInt32 = Int32.ofNat vs.length := by rw [e]; simp
  exact Run.one (fun vm0 T locs X eT I t g => X.arraylength C.hx (by rw [eT]; exact A.1) (State.isArrayOf_alike I.hZ.alike A.2.1) (g := mkF W.m pc Ls (.ref a :: st)) rfl rfl (C.hb hd) t (by rw [e2]; exact g)) r
theorem caload (C : Cx Z W own nm code maxL ret) (hd : decode code pc = .ok (.caload, 1)) {a : Addr} {vs : List Value} {j : Int32} {v : Value} (F : Ary Z h a .char vs) (h0 : ¬ j < 0) (hv : vs[j.toNatClampNeg]? = some v) (hp : pc + 1 = pc')
    (r : Run l R Z EL W Q S h k n (mkF W.m pc' Ls (v :: st))) : Run l R Z EL W Q S h k n (mkF W.m pc Ls (.int j :: .ref a :: st)) := by
  subst hp
  obtain ⟨c, A, e, -⟩ := F
  have h1 : j.toNatClampNeg < vs.length := (List.getElem?_eq_some_iff.mp hv).1
  exact Run.one (fun vm0 T locs X eT I t g => X.caload C.hx (by rw [eT]; exact A.1) (State.isArrayOf_alike I.hZ.alike A.2.1) A.2.2 (Ary.inb (a := a) (ty := .char) e h0 h1) (by rw [e]; simpa using hv) (g := mkF W.m pc Ls (.int j :: .ref a :: st)) rfl rfl (C.hb hd) t g) r
theorem iaload (C : Cx Z W own nm code maxL ret) (hd : decode code pc = .ok (.iaload, 1)) {a : Addr} {vs : List Value} {j : Int32} {v : Value} (F : Ary Z h a .int vs) (h0 : ¬ j < 0) (hv : vs[j.toNatClampNeg]? = some v) (hp : pc + 1 = pc')
    (r : Run l R Z EL W Q S h k n (mkF W.m pc' Ls (v :: st))) : Run l R Z EL W Q S h k n (mkF W.m pc Ls (.int j :: .ref a :: st)) := by
  subst hp
  obtain ⟨c, A, e, -⟩ := F
  have h1 : j.toNatClampNeg < vs.length := (List.getElem?_eq_some_iff.mp hv).1
  exact Run.one (fun vm0 T locs X eT I t g => X.iaload C.hx (by rw [eT]; exact A.1) (State.isArrayOf_alike I.hZ.alike A.2.1) A.2.2 (Ary.inb (a := a) (ty := .int) e h0 h1) (by rw [e]; simpa using hv) (g := mkF W.m pc Ls (.int j :: .ref a :: st)) rfl rfl (C.hb hd) t g) r
theorem baload (C : Cx Z W own nm code maxL ret) (hd : decode code pc = .ok (.baload, 1)) {a : Addr} {vs : List Value} {j : Int32} {v : Value} (F : Ary Z h a .byte vs) (h0 : ¬ j < 0) (hv : vs[j.toNatClampNeg]? = some v) (hp : pc + 1 = pc')
    (r : Run l R Z EL W Q S h k n (mkF W.m pc' Ls (v :: st))) : Run l R Z EL W Q S h k n (mkF W.m pc Ls (.int j :: .ref a :: st)) := by
  subst hp
  obtain ⟨c, A, e, -⟩ := F
  have h1 : j.toNatClampNeg < vs.length := (List.getElem?_eq_some_iff.mp hv).1
  exact Run.one (fun vm0 T locs X eT I t g => X.baloadBytes C.hx (by rw [eT]; exact A.1) (State.isArrayOf_alike I.hZ.alike A.2.1) A.2.2 (Ary.inb (a := a) (ty := .byte) e h0 h1) (by rw [e]; simpa using hv) (g := mkF W.m pc Ls (.int j :: .ref a :: st)) rfl rfl (C.hb hd) t g) r
theorem Run.wrote {a : Addr} {sl : Nat} {v : Value} {g g' : JFrame} (ha : Z.heap.size ≤ a) (hs : a ∈ S) (f : ∀ vm0 T locs, Std l R W vm0 T locs k n → T.heap = h → Inv Z EL W S vm0 h → ∃ T' h', Std l R W vm0 T' (locs ++ [⟨a, sl⟩]) k n ∧ T'.heap = h' ∧ Wr h h' a sl v ∧ ∀ t, Steps W.p.tables W.e W.b (T'.setTop g') t → Steps W.p.tables W.e W.b (T.setTop g) t)
    (r : ∀ h', Wr h h' a sl v → Ext Z.heap h' → Run l R Z EL W Q S h' k n g') : Run l R Z EL W Q S h k n g := fun vm0 T locs X eT N O I => by
  obtain ⟨T', h', X', e', w', s'⟩ := f vm0 T locs X eT I
  have O' : Ext Z.heap h' := ((old_of O).wr w' ha).2
  exact Go.step s' (r h' w' O' vm0 T' _ X' e' (Fr.snoc X' N ha) O' (I.keep (Keep.of_wr w') fun x hx => by cases List.mem_singleton.mp hx; exact hs))
theorem putF (C : Cx Z W own nm code maxL ret) {R0 O nmF d K : String} {ix kk : Nat} {ty : FieldType} (hd : decode code pc = .ok (.putfield ix, 3)) (w : (Cond.fieldLink own ix R0 nmF d).before a0 Z = true) (via : Via Z R0 O nmF d) {a : Addr} {v old : Value} (F : Fld Z h a O nmF d old) (E : Exa Z h a K)
    (L : (Cond.lays K O nmF d).before a0 Z = true ∨ ((Cond.laysFinal K O nmF d).before a0 Z = true ∧ own = O ∧ nm = "<init>")) (wi : (Cond.instantiable K kk).before a0 Z = true) (hty : parseFieldDescriptor d = some ty) (hn : narrow ty v = v) (hf : fits ty v = true) (ha : Z.heap.size ≤ a) (hs' : a ∈ S) (hp : pc + 3 = pc')
    (r : ∀ h', Wr h h' a (RoadKit.slotOf Z O nmF d) v → Ext Z.heap h' → Run l R Z EL W Q S h' k n (mkF W.m pc' Ls st)) : Run l R Z EL W Q S h k n (mkF W.m pc Ls (v :: .ref a :: st)) := by
  subst hp
  exact Run.wrote ha hs' (fun vm0 T locs X eT I => RoadKit.putF X C.hx I.hZ (I.ow C) (host := "") (Or.inl w) via eT F E (L.imp id fun q => ⟨q.1, q.2.1, C.nme.trans q.2.2⟩) wi hty hn hf (g := mkF W.m pc Ls (v :: .ref a :: st)) rfl rfl (C.hb hd)) r
theorem castore (C : Cx Z W own nm code maxL ret) (hd : decode code pc = .ok (.castore, 1)) {a : Addr} {vs vs' : List Value} {j x : Int32} (F : Ary Z h a .char vs) (h0 : ¬ j < 0) (h1 : j.toNatClampNeg < vs.length) (hx : nar .char x = x) (hs : vs.set j.toNatClampNeg (.int x) = vs') (ha : Z.heap.size ≤ a) (hs' : a ∈ S) (hp : pc + 1 = pc')
    (r : ∀ h', Wr h h' a j.toNatClampNeg (.int x) → Ary Z h' a .char vs' → Ext Z.heap h' → Run l R Z EL W Q S h' k n (mkF W.m pc' Ls st)) : Run l R Z EL W Q S h k n (mkF W.m pc Ls (.int x :: .int j :: .ref a :: st)) := by
  subst hp hs
  have F' := F
  obtain ⟨c, A, e, -⟩ := F'
  exact Run.wrote ha hs' (fun vm0 T locs X eT I => by have w0 := RoadKit.stC X C.hx I.hZ eT A (Ary.inb (a := a) (ty := .char) e h0 h1) (g := mkF W.m pc Ls (.int x :: .int j :: .ref a :: st)) rfl rfl (C.hb hd); rw [hx] at w0; exact w0) (fun h' w' O' => r h' w' (F.set w' (hx ▸ fits_nar_char x)) O')
theorem bastore (C : Cx Z W own nm code maxL ret) (hd : decode code pc = .ok (.bastore, 1)) {a : Addr} {vs vs' : List Value} {j x : Int32} (F : Ary Z h a .byte vs) (h0 : ¬ j < 0) (h1 : j.toNatClampNeg < vs.length) (hs : vs.set j.toNatClampNeg (.int (nar .byte x)) = vs') (ha : Z.heap.size ≤ a) (hs' : a ∈ S) (hp : pc + 1 = pc')
    (r : ∀ h', Wr h h' a j.toNatClampNeg (.int (nar .byte x)) → Ary Z h' a .byte vs' → Ext Z.heap h' → Run l R Z EL W Q S h' k n (mkF W.m pc' Ls st)) : Run l R Z EL W Q S h k n (mkF W.m pc Ls (.int x :: .int j :: .ref a :: st)) := by
  subst hp hs
  have F' := F
  obtain ⟨c, A, e, -⟩ := F'
  exact Run.wrote ha hs' (fun vm0 T locs X eT I => by have w0 := RoadKit.stB X C.hx I.hZ eT A (Ary.inb (a := a) (ty := .byte) e h0 h1) (g := mkF W.m pc Ls (.int x :: .int j :: .ref a :: st)) rfl rfl (C.hb hd); exact w0) (fun h' w' O' => r h' w' (F.set w' (fits_nar_byte x)) O')
theorem iastore (C : Cx Z W own nm code maxL ret) (hd : decode code pc = .ok (.iastore, 1)) {a : Addr} {vs vs' : List Value} {j x : Int32} (F : Ary Z h a .int vs) (h0 : ¬ j < 0) (h1 : j.toNatClampNeg < vs.length) (hs : vs.set j.toNatClampNeg (.int x) = vs') (ha : Z.heap.size ≤ a) (hs' : a ∈ S) (hp : pc + 1 = pc')
    (r : ∀ h', Wr h h' a j.toNatClampNeg (.int x) → Ary Z h' a .int vs' → Ext Z.heap h' → Run l R Z EL W Q S h' k n (mkF W.m pc' Ls st)) : Run l R Z EL W Q S h k n (mkF W.m pc Ls (.int x :: .int j :: .ref a :: st)) := by
  subst hp hs
  have F' := F
  obtain ⟨c, A, e, -⟩ := F'
  exact Run.wrote ha hs' (fun vm0 T locs X eT I => by have w0 := RoadKit.stI X C.hx I.hZ eT A (Ary.inb (a := a) (ty := .int) e h0 h1) (g := mkF W.m pc Ls (.int x :: .int j :: .ref a :: st)) rfl rfl (C.hb hd); exact w0) (fun h' w' O' => r h' w' (F.set w' rfl) O')
theorem newO (C : Cx Z W own nm code maxL ret) {K : String} {ix sl k' n' : Nat} (hd : decode code pc = .ok (.new ix, 3)) (w : (Cond.classLink own ix K).before a0 Z = true) (wi : (Cond.instantiable K sl).before a0 Z = true) (wz : (Cond.initialized K).before a0 Z = true) (hc : k + 1 = k') (hl : n + sl = n') (hc' : k' ≤ R.cells) (hl' : n' ≤ R.slots) (hp : pc + 3 = pc')
    (r : ∀ a h', a = h.size → Z.heap.size ≤ a → Ext h h' → Exa Z h' a K → Fresh Z a0 h' a K → Unt h' a → Ext Z.heap h' → Run l R Z EL W Q (a :: S) h' k' n' (mkF W.m pc' Ls (.ref a :: st))) : Run l R Z EL W Q S h k n (mkF W.m pc Ls st) := by
  subst hp hc hl
  intro vm0 T locs X eT N O I
  obtain ⟨T', h', X', e', E', A', D', U', s'⟩ := RoadKit.newO X C.hx I.hZ (I.ow C) w wi wz eT (g := mkF W.m pc Ls st) rfl (C.hb hd) hc' hl'
  have O' : Ext Z.heap h' := ((old_of O).ext E').2
  exact Go.step s' (r h.size h' rfl O.1 E' A' D' U' O' vm0 T' locs X' e' N O' (I.fresh E' A'.lt))
theorem newA (C : Cx Z W own nm code maxL ret) {aty : ArrayType} {ty : FieldType} {z : Int32} {k' n' cap : Nat} (hd : decode code pc = .ok (.newarray aty, 2)) (ht : newarray.typeOf aty = ty) (w : (Cond.arrayClass ty).before a0 Z = true) (hz : ¬ z < 0) (hcap : z.toNatClampNeg ≤ cap) (hb : cap * 8 ≤ 536870912) (hc : k + 1 = k') (hl : n + cap = n') (hc' : k' ≤ R.cells) (hl' : n' ≤ R.slots) (hdf : fits ty (defaultValue ty) = true) (hp : pc + 2 = pc')
    (r : ∀ a h', a = h.size → Z.heap.size ≤ a → Ext h h' → Ary Z h' a ty (List.replicate z.toNatClampNeg (defaultValue ty)) → Ext Z.heap h' → Run l R Z EL W Q (a :: S) h' k' n' (mkF W.m pc' Ls (.ref a :: st))) : Run l R Z EL W Q S h k n (mkF W.m pc Ls (.int z :: st)) := by
  subst hp hc hl ht
  intro vm0 T locs X eT N O I
  obtain ⟨T', h', cA, X', e', E', A', s'⟩ := newP X C.hx I.hZ w eT (g := mkF W.m pc Ls (.int z :: st)) rfl (C.hb hd) rfl hz hcap hb hc' hl'
  have O' : Ext Z.heap h' := ((old_of O).ext E').2
  have hz2 : z.toNatClampNeg < 2 ^ 31 := (back32 hz).2
  refine Go.step s' (r h.size h' rfl O.1 E' ⟨_, A', ?_, by simpa using hz2, fun v hv => ?_⟩ O' vm0 T' locs X' e' N O' (I.fresh E' A'.lt))
  · show Array.replicate _ _ = _
    simp
  · rw [(List.mem_replicate.mp hv).2]; exact hdf
theorem initO (C : Cx Z W own nm code maxL ret) {ix Wn : Nat} (hd : decode code pc = .ok (.invokespecial ix, 3)) (w1 : (Cond.methodLink own ix Lib.objectInit).before a0 Z = true) (w2 : (Cond.instanceMethod Lib.objectInit).before a0 Z = true) (w3 : (Cond.code Lib.objectInit ⟨#[0xb1]⟩ 1 none).before a0 Z = true) {a : Addr} (hsz : Ls.size = maxL) (hf : 1 ≤ R.frames) (hW : (st.map fun v => v.category).sum ≤ Wn) (hl : Wn + 12 ≤ R.locals) (hp : pc + 3 = pc')
    (r : Run l R Z EL W Q S h k n (mkF W.m pc' Ls st)) : Run l R Z EL W Q S h k n (mkF W.m pc Ls (.ref a :: st)) := by
  subst hp
  exact Run.via (fun vm0 T locs X eT I => RoadKit.initO X C.hx I.hZ (I.ow C) w1 w2 w3 eT (g := mkF W.m pc Ls (.ref a :: st)) rfl (hsz.trans C.ml.symm) rfl (C.hb hd) hf (W := Wn) (by show 2 * 0 + _ ≤ _; omega) hl) r
/-- the same, with the class of the constant's array -/
theorem ldcSE (C : Cx Z W own nm code maxL ret) {ix k' n' nb : Nat} {text : String} {vs : List Value} {z : Int32} (hd : decode code pc = .ok (.ldc ix, 2)) (w : (Cond.stringLink own ix text).before a0 Z = true) (wS : ∀ a ∈ Bundle.stringAtoms, a.before a0 Z = true) (hE : EW Z a0 EL) (hm : (own, ix) ∈ EL) (ht : (∀ c ∈ text.toList, c.toNat < 256) ∧ text.toList.map (fun c => Value.int (Jvm.Lit.byteI c.toNat.toUInt16)) = vs) (hz : ¬ z < 0) (hl : z.toNatClampNeg = vs.length)
    (hn : 4 * text.toList.length ≤ nb) (hb : nb ≤ 536870912) (hk : k + 2 = k') (hn' : n + (nb + 4) = n') (hc : k' ≤ R.cells) (hl' : n' ≤ R.slots) (hp : pc + 2 = pc')
    (r : ∀ a b h', Ext h h' → Exa Z h' a "java/lang/String" → Fld Z h' a "java/lang/String" "coder" "B" (.int 0) → Fld Z h' a "java/lang/String" "value" "[B" (.ref b) → Ary Z h' b .byte vs → Exa Z h' b "[B" → (∀ x ∈ S, x ≠ a ∧ x ≠ b) → Ext Z.heap h' → Run l R Z EL W Q S h' k' n' (mkF W.m pc' Ls (.ref a :: st))) : Run l R Z EL W Q S h k n (mkF W.m pc Ls st) := by
  subst hp hk hn'
  intro vm0 T locs X eT N O I
  have I0 := I
  obtain ⟨⟨k0, hS, hk0⟩, hZ, hr, hs⟩ := I
  obtain ⟨a, T', h', k1, b, kc, X', e', E', hS', hk1, hZ', -, A', Cd', V', F', -, -, CH', -, ne', s'⟩ := ldcCH X C.hx hZ (I0.ow C) w wS eT hS hk0 hE hm hr.1 ht hz hl (g := mkF W.m pc Ls st) rfl (C.hb hd) hn hb hc hl'
  have O' : Ext Z.heap h' := ((old_of O).ext E').2
  have I' : Inv Z EL W S T'.vm h' := ⟨⟨k1, hS', hk1⟩, hZ', hr.trans CH', fun x hx => ⟨Nat.lt_of_lt_of_le (hs x hx).1 E'.1, CH'.safe (hs x hx).1 (hs x hx).2⟩⟩
  have al : Z.vm.Alike T'.vm := I'.2.1.alike
  have bk : Bk Z EL T'.vm h' b := Classical.byContradiction fun q => (ne' b q).2 rfl
  have Eb : Exa Z h' b "[B" := by
    obtain ⟨cl, ⟨A1, ⟨A2, kA, hkA, compA, hkindA⟩, A3⟩, -⟩ := (Ary.of_arv F' hl : Ary Z h' b .byte vs)
    obtain ⟨kA', hkA', ekA⟩ := al.2.2 _ _ hkA
    obtain ⟨p, -, u, a2, -, q, -, F, rfl | rfl⟩ := bk
    · cases (show h'[q.sa]? = some q.sC from F.ha).symm.trans A1
      obtain ⟨cS, ⟨-, -, e⟩, ⟨kS, g1, g2, -⟩, -⟩ := F
      subst e
      cases (show T'.vm.classes[q.sC.cls]? = some kS from g1).symm.trans hkA'
      rw [ekA] at g2
      exact absurd (hkindA.symm.trans g2) (by simp)
    · cases (show h'[q.sd]? = some q.SA from F.hd).symm.trans A1
      obtain ⟨cS, -, -, f, -⟩ := F
      refine ⟨q.SA, kA, A1, by rw [← al.findClass]; exact f, hkA, ?_, fun z => absurd (hkindA.symm.trans z) (by simp)⟩
      cases hv : q.SA.vm <;> first | rfl | exact absurd hv (A2 _)
  exact Go.step s' (r a b h' E' A' Cd' V' (Ary.of_arv F' hl) Eb (fun x hx => ne' x (I'.2.2.2 x hx).2) O' T'.vm T' locs X' e' N O' I')
/-! ## contracts and calls -/
def Con (l : Launch) (Z : State) (EL : List (String × Nat)) (y : MethodName) (bytes : ByteArray) (maxL : Nat) (ret : Option FieldType) (rm : Room) (as' : Array Value) (h0 : Heap) (Q : Post) : Prop :=
  ∀ ws, MetFree l y (head1 (Jvm.Cond.code y bytes maxL ret :: ws) rm) (fun a U => a = as' ∧ Z.Warmed39 U.vm ∧ U.heap = h0 ∧ CHv Z EL U.vm h0) (fun _ _ _ _ _ => True) (fun _ U o U' => ∃ v L, o = .returned v ∧ (Q v U'.heap ∧ Ext Z.heap U'.heap ∧ Fr Z.heap.size L) ∧ CHr Z EL U.vm U.heap U'.vm U'.heap ∧ ReturnedEndW U o U' L rm.cells rm.slots)
theorem Con.intro {y : MethodName} {bytes : ByteArray} {rm : Room} {as' : Array Value} {Ls0 : Array Slot} (hy : plainFor y = true) (O : Ext Z.heap h) (he : ∀ m, entryFrame m as' maxL = mkF m 0 Ls0 [])
    (body : ∀ W : Wd, Cx Z W y.cls y.name bytes maxL ret → Run l rm Z EL W Q [] h 0 0 (mkF W.m 0 Ls0 [])) : Con l Z EL y bytes maxL ret rm as' h Q := by
  intro ws
  refine MetFree.of_bodySF hy hisR ?_
  intro p e s m args below meth c s₁ Bd hml0 hP hK
  obtain ⟨rfl, hZ, hh, hCH⟩ := hP
  have e0 : s₁.heap = h := by rw [← hh, Bd.state]; rfl
  have X0 : Stand p l e rm s m args below meth c s₁ [] 0 0 := Stand.of_body Bd
  have I0 : Inv Z EL (p, e, s, m, args, below, meth, c) [] s.vm h := ⟨⟨h.size, (State.WarmedH.refl s).since _, Nat.le_refl _⟩, hZ, by rw [← hh] at hCH ⊢; exact CHr.refl hCH, fun _ q => nomatch q⟩
  have r := body (p, e, s, m, args, below, meth, c) ⟨Bd.exec, Bd.bytes, hml0, findClass_of_methodNamed Bd.named, hZ, Bd.returns, (name_of_methodNamed Bd.named Bd.method).1, Bd.notSynchronized⟩ s.vm s₁ [] X0 e0 (Fr.nil _) O I0
  rw [he m]
  exact r
section Calls
variable {y : MethodName} {bytes : ByteArray} {mxL : Nat} {rt : Option FieldType} {rm : Room} {Qc : Post} {argsL : List Value} {as' : Array Value} {ix Wn k' n' kc nc : Nat} {st' : List Value}
/-- how a narrow callee leaves the heap -/
def Car (S : List Addr) (h h' : Heap) : Prop := h' = h ∨ Ext h h' ∨ ∃ ws : List Addr, (∀ x ∈ ws, x ∈ S) ∧ Keep h h' ws
theorem Inv.car {vm0 : Vm} {h' : Heap} (I : Inv Z EL W S vm0 h) (c : Car S h h') : Inv Z EL W S vm0 h' := by
  rcases c with rfl | E | ⟨ws, ha, K⟩
  · exact I
  · exact I.ext E
  · exact I.keep K ha
abbrev PaysS (l : Launch) (R : Room) (Z : State) (EL : List (String × Nat)) (W : Wd) (vm0 : Vm) (y : MethodName) (ln Wn : Nat) (as' : Array Value) (h : Heap) (kc nc : Nat) (Qv : Option Value → Heap → List Loc → Prop) : Prop :=
  BackS l R W.p W.e W.b (W.s.setVm vm0) W.a y ln Wn (fun P a => a = as' ∧ P.U.heap = h ∧ P.cells + kc ≤ R.cells ∧ P.slots + nc ≤ R.slots) (fun P _ v B => ∃ L, Qv v B.U.heap L ∧ B.locs = P.locs ++ L ∧ B.cells = P.cells + kc ∧ B.slots = P.slots + nc ∧ CHr Z EL vm0 h B.U.vm B.U.heap)
theorem Con.pays {ln : Nat} (hE : EW Z a0 EL) (K : Con l Z EL y bytes mxL rt rm as' h Qc) (w4 : (Cond.code y bytes mxL rt).before a0 Z = true) (wz : (Cond.initialized y.cls).before a0 Z = true) (hf : rm.frames + 1 ≤ R.frames) (hl : Wn + (mxL + 11) + rm.locals ≤ R.locals) : ∀ vm0, Inv Z EL W S vm0 h →
    PaysS l R Z EL W vm0 y ln Wn as' h rm.cells rm.slots (fun v h' L => Qc v h' ∧ Ext Z.heap h' ∧ Fr Z.heap.size L) := fun vm0 I => backOfSH (W := Wn) (Q := fun v h' L => Qc v h' ∧ Ext Z.heap h' ∧ Fr Z.heap.size L) (K []) I.2.1 w4 wz hf hl hE I.ch
theorem Inv.back {vm0 vm1 : Vm} {h1 : Heap} (I : Inv Z EL W S vm0 h) (hS : (W.s.setVm vm0).Since vm1 h1.size) (hg : h.size ≤ h1.size) (hr : CHr Z EL vm0 h vm1 h1) : Inv Z EL W S vm1 h1 := by
  obtain ⟨⟨k0, hS0, hk⟩, hZ, hr0, hs⟩ := I
  exact ⟨⟨h1.size, hS0.trans hS (Nat.le_trans hk hg), Nat.le_refl _⟩, State.Warmed39.trans (t := W.s.setVm vm0) hZ hS.1, hr0.trans hr, fun x hx => ⟨Nat.lt_of_lt_of_le (hs x hx).1 hg, hr.safe (hs x hx).1 (hs x hx).2⟩⟩
theorem callS (C : Cx Z W own nm code maxL ret) (hd : decode code pc = .ok (.invokestatic ix, 3)) {Qv : Option Value → Heap → List Loc → Prop} (K : ∀ vm0, Cx Z (At W vm0) own nm code maxL ret → Wk.Pays l R (At W vm0) y 3 Wn as' h kc nc Qv) (hQ : Clean Z Qc Qv) (hcar : ∀ v h', Qc v h' → Car S h h') (w1 : (Cond.methodLink own ix y).before a0 Z = true) (w2 : (Cond.static y).before a0 Z = true) (w3 : (Cond.initialized y.cls).before a0 Z = true) (w4 : (Cond.code y bytes mxL rt).before a0 Z = true) (hy : y.cls ≠ "java/lang/invoke/MethodHandle" ∧ y.cls ≠ "java/lang/invoke/VarHandle")
    (has : argsL.toArray = as') (hst : argsL.reverse ++ st = st') (hlen : ∀ sig, parseMethodDescriptor y.desc = some sig → argsL.length = sig.parameters.length) (hsz : Ls.size = maxL) (hW : (st.map fun v => v.category).sum ≤ Wn) (hk : k + kc = k') (hn : n + nc = n') (hk' : k' ≤ R.cells) (hn' : n' ≤ R.slots) (hp : pc + 3 = pc')
    (r : ∀ v h', Qc v h' → Ext Z.heap h' → Run l R Z EL W Q S h' k' n' (mkF W.m pc' Ls (v.toList ++ st))) : Run l R Z EL W Q S h k n (mkF W.m pc Ls st') := by
  subst hp hk hn has hst
  intro vm0 T locs X eT N O I
  obtain ⟨v, vm₁, ⟨T', L', k', n'⟩, -, X', ⟨L, q0, l1, y1, z1⟩, s'⟩ := Jvm.LawKit.callS X C.hx (y := y) (I.ow C) (mvT I.hZ w1) (mvT I.hZ w2) (mvT I.hZ w3) (mvT I.hZ w4) hy (K vm0 (I.cx C)) (g := mkF W.m pc Ls (argsL.reverse ++ st)) rfl (hsz.trans C.ml.symm) (argsL := argsL) (rest := st) hlen rfl (by show 2 * 0 + _ ≤ _; omega) (C.hb hd) (fun _ _ => ⟨rfl, eT, hk', hn'⟩)
  dsimp only [Pt.U, Pt.locs, Pt.cells, Pt.slots] at X' l1 y1 z1 s' q0
  subst l1 y1 z1
  obtain ⟨q1, q2, q3⟩ := hQ _ _ _ q0
  exact Go.step s' (r v T'.heap q1 q2 vm0 T' _ X' rfl (N.app q3) q2 (I.car (hcar _ _ q1)))
theorem callSS (C : Cx Z W own nm code maxL ret) (hd : decode code pc = .ok (.invokestatic ix, 3)) {Qv : Option Value → Heap → List Loc → Prop} (K : ∀ vm0, Inv Z EL W S vm0 h → PaysS l R Z EL W vm0 y 3 Wn as' h kc nc Qv) (hQ : Clean Z Qc Qv) (w1 : (Cond.methodLink own ix y).before a0 Z = true) (w2 : (Cond.static y).before a0 Z = true) (w3 : (Cond.initialized y.cls).before a0 Z = true) (w4 : (Cond.code y bytes mxL rt).before a0 Z = true) (hy : y.cls ≠ "java/lang/invoke/MethodHandle" ∧ y.cls ≠ "java/lang/invoke/VarHandle")
    (has : argsL.toArray = as') (hst : argsL.reverse ++ st = st') (hlen : ∀ sig, parseMethodDescriptor y.desc = some sig → argsL.length = sig.parameters.length) (hsz : Ls.size = maxL) (hW : (st.map fun v => v.category).sum ≤ Wn) (hk : k + kc = k') (hn : n + nc = n') (hk' : k' ≤ R.cells) (hn' : n' ≤ R.slots) (hp : pc + 3 = pc')
    (r : ∀ v h', Qc v h' → Ext Z.heap h' → Run l R Z EL W Q S h' k' n' (mkF W.m pc' Ls (v.toList ++ st))) : Run l R Z EL W Q S h k n (mkF W.m pc Ls st') := by
  subst hp hk hn has hst
  intro vm0 T locs X eT N O I
  obtain ⟨v, vm₁, ⟨T', L', k', n'⟩, -, X', hS, hg, ⟨L, q0, l1, y1, z1, hr⟩, s'⟩ := callSS X C.hx (y := y) (I.ow C) (mvT I.hZ w1) (mvT I.hZ w2) (mvT I.hZ w3) (mvT I.hZ w4) hy (K vm0 I) (g := mkF W.m pc Ls (argsL.reverse ++ st)) rfl (hsz.trans C.ml.symm) (argsL := argsL) (rest := st) hlen rfl (by show 2 * 0 + _ ≤ _; omega) (C.hb hd) (fun _ _ => ⟨rfl, eT, hk', hn'⟩)
  dsimp only [Pt.U, Pt.locs, Pt.cells, Pt.slots] at X' l1 y1 z1 s' q0 hS hg hr
  subst l1 y1 z1
  obtain ⟨q1, q2, q3⟩ := hQ _ _ _ q0
  exact Go.step (fun t => s'.trans) (r v T'.heap q1 q2 T'.vm T' _ X' rfl (N.app q3) q2 (I.back hS (eT ▸ hg) hr))
theorem callI (C : Cx Z W own nm code maxL ret) (hd : decode code pc = .ok (.invokespecial ix, 3)) {a : Addr} {Qv : Option Value → Heap → List Loc → Prop} (K : ∀ vm0, Cx Z (At W vm0) own nm code maxL ret → Wk.Pays l R (At W vm0) y 3 Wn as' h kc nc Qv) (hQ : Clean Z Qc Qv) (hcar : ∀ v h', Qc v h' → Car S h h') (hi : y.name = "<init>") (w1 : (Cond.methodLink own ix y).before a0 Z = true) (w2 : (Cond.instanceMethod y).before a0 Z = true) (w4 : (Cond.code y bytes mxL none).before a0 Z = true) (hy : y.cls ≠ "java/lang/invoke/MethodHandle" ∧ y.cls ≠ "java/lang/invoke/VarHandle")
    (has : (Value.ref a :: argsL).toArray = as') (hst : argsL.reverse ++ .ref a :: st = st') (hlen : ∀ sig, parseMethodDescriptor y.desc = some sig → argsL.length = sig.parameters.length) (hsz : Ls.size = maxL) (hW : (st.map fun v => v.category).sum ≤ Wn) (hk : k + kc = k') (hn : n + nc = n') (hk' : k' ≤ R.cells) (hn' : n' ≤ R.slots) (hp : pc + 3 = pc')
    (r : ∀ v h', Qc v h' → Ext Z.heap h' → Run l R Z EL W Q S h' k' n' (mkF W.m pc' Ls (v.toList ++ st))) : Run l R Z EL W Q S h k n (mkF W.m pc Ls st') := by
  subst hp hk hn has hst
  intro vm0 T locs X eT N O I
  obtain ⟨v, vm₁, ⟨T', L', k', n'⟩, -, X', ⟨L, q0, l1, y1, z1⟩, s'⟩ := X.specialBack C.hx (y := y) hi (I.ow C) (mvT I.hZ w1) (mvT I.hZ w2) (mvT I.hZ w4) hy (K vm0 (I.cx C)) (g := mkF W.m pc Ls (argsL.reverse ++ .ref a :: st)) rfl (hsz.trans C.ml.symm) (Steps.refl _) (a := a) (argsL := argsL) (rest := st) hlen rfl (by show 2 * 0 + _ ≤ _; omega) (C.hb hd) (fun _ _ => ⟨rfl, eT, hk', hn'⟩)
  dsimp only [Pt.U, Pt.locs, Pt.cells, Pt.slots] at X' l1 y1 z1 s' q0
  subst l1 y1 z1
  obtain ⟨q1, q2, q3⟩ := hQ _ _ _ q0
  exact Go.step (fun t => s'.trans) (r v T'.heap q1 q2 vm0 T' _ X' rfl (N.app q3) q2 (I.car (hcar _ _ q1)))
theorem callV (C : Cx Z W own nm code maxL ret) (hd : decode code pc = .ok (.invokevirtual ix, 3)) {y0 : MethodName} {K0 : String} {a : Addr} {Qv : Option Value → Heap → List Loc → Prop} (K : ∀ vm0, Cx Z (At W vm0) own nm code maxL ret → Wk.Pays l R (At W vm0) y 3 Wn as' h kc nc Qv) (hQ : Clean Z Qc Qv) (hcar : ∀ v h', Qc v h' → Car S h h') (E : Exa Z h a K0) (w1 : (Cond.methodLink own ix y0).before a0 Z = true) (w2 : (Cond.declares y0).before a0 Z = true) (nf : ∀ vm0, Z.Warmed39 vm0 → NotFace (W.s.setVm vm0) y0) (w3 : (Cond.selects K0 y0 y).before a0 Z = true) (w5 : (Cond.instanceMethod y).before a0 Z = true) (hy : y0.cls ≠ "java/lang/invoke/MethodHandle" ∧ y0.cls ≠ "java/lang/invoke/VarHandle")
    (has : (Value.ref a :: argsL).toArray = as') (hst : argsL.reverse ++ .ref a :: st = st') (hlen : ∀ sig, parseMethodDescriptor y0.desc = some sig → argsL.length = sig.parameters.length) (hsz : Ls.size = maxL) (hW : (st.map fun v => v.category).sum ≤ Wn) (hk : k + kc = k') (hn : n + nc = n') (hk' : k' ≤ R.cells) (hn' : n' ≤ R.slots) (hp : pc + 3 = pc')
    (r : ∀ v h', Qc v h' → Ext Z.heap h' → Run l R Z EL W Q S h' k' n' (mkF W.m pc' Ls (v.toList ++ st))) : Run l R Z EL W Q S h k n (mkF W.m pc Ls st') := by
  subst hp hk hn has hst
  intro vm0 T locs X eT N O I
  obtain ⟨cq, kq, qa, qb, qc⟩ := isOf I.hZ eT E
  obtain ⟨v, vm₁, ⟨T', L', k', n'⟩, -, X', ⟨L, q0, l1, y1, z1⟩, s'⟩ := X.virtualBack C.hx (y := y0) (z := y) (I.ow C) (mvT I.hZ w1) (mvT I.hZ w2) (nf vm0 I.2.1) (mvT I.hZ w3) (mvT I.hZ w5) hy (K vm0 (I.cx C)) qa qc (g := mkF W.m pc Ls (argsL.reverse ++ .ref a :: st)) rfl (hsz.trans C.ml.symm) (Steps.refl _) (argsL := argsL) (rest := st) hlen rfl (by show 2 * 0 + _ ≤ _; omega) (C.hb hd) (fun _ _ => ⟨rfl, eT, hk', hn'⟩)
  dsimp only [Pt.U, Pt.locs, Pt.cells, Pt.slots] at X' l1 y1 z1 s' q0
  subst l1 y1 z1
  obtain ⟨q1, q2, q3⟩ := hQ _ _ _ q0
  exact Go.step (fun t => s'.trans) (r v T'.heap q1 q2 vm0 T' _ X' rfl (N.app q3) q2 (I.car (hcar _ _ q1)))
theorem callVS (C : Cx Z W own nm code maxL ret) (hd : decode code pc = .ok (.invokevirtual ix, 3)) {y0 : MethodName} {K0 : String} {a : Addr} {Qv : Option Value → Heap → List Loc → Prop} (K : ∀ vm0, Inv Z EL W S vm0 h → PaysS l R Z EL W vm0 y 3 Wn as' h kc nc Qv) (hQ : Clean Z Qc Qv) (E : Exa Z h a K0) (w1 : (Cond.methodLink own ix y0).before a0 Z = true) (w2 : (Cond.declares y0).before a0 Z = true) (nf : ∀ vm0, Z.Warmed39 vm0 → NotFace (W.s.setVm vm0) y0) (w3 : (Cond.selects K0 y0 y).before a0 Z = true) (w5 : (Cond.instanceMethod y).before a0 Z = true) (hy : y0.cls ≠ "java/lang/invoke/MethodHandle" ∧ y0.cls ≠ "java/lang/invoke/VarHandle")
    (has : (Value.ref a :: argsL).toArray = as') (hst : argsL.reverse ++ .ref a :: st = st') (hlen : ∀ sig, parseMethodDescriptor y0.desc = some sig → argsL.length = sig.parameters.length) (hsz : Ls.size = maxL) (hW : (st.map fun v => v.category).sum ≤ Wn) (hk : k + kc = k') (hn : n + nc = n') (hk' : k' ≤ R.cells) (hn' : n' ≤ R.slots) (hp : pc + 3 = pc')
    (r : ∀ v h', Qc v h' → Ext Z.heap h' → Run l R Z EL W Q S h' k' n' (mkF W.m pc' Ls (v.toList ++ st))) : Run l R Z EL W Q S h k n (mkF W.m pc Ls st') := by
  subst hp hk hn has hst
  intro vm0 T locs X eT N O I
  obtain ⟨cq, kq, qa, qb, qc⟩ := isOf I.hZ eT E
  obtain ⟨v, vm₁, ⟨T', L', k', n'⟩, -, X', hS, hg, ⟨L, q0, l1, y1, z1, hr⟩, s'⟩ := X.virtualBackS C.hx (y := y0) (z := y) (I.ow C) (mvT I.hZ w1) (mvT I.hZ w2) (nf vm0 I.2.1) (mvT I.hZ w3) (mvT I.hZ w5) hy (K vm0 I) qa qc (g := mkF W.m pc Ls (argsL.reverse ++ .ref a :: st)) rfl (hsz.trans C.ml.symm) (Steps.refl _) (argsL := argsL) (rest := st) hlen rfl (by show 2 * 0 + _ ≤ _; omega) (C.hb hd) (fun _ _ => ⟨rfl, eT, hk', hn'⟩)
  dsimp only [Pt.U, Pt.locs, Pt.cells, Pt.slots] at X' l1 y1 z1 s' q0 hS hg hr
  subst l1 y1 z1
  obtain ⟨q1, q2, q3⟩ := hQ _ _ _ q0
  exact Go.step (fun t => s'.trans) (r v T'.heap q1 q2 T'.vm T' _ X' rfl (N.app q3) q2 (I.back hS (eT ▸ hg) hr))
end Calls
/-! ## returns -/
theorem Run.leave (C : Cx Z W own nm code maxL ret) (hE : EW Z a0 EL) {v : Option Value} {f : JFrame} (hv : ret = none → v = none) (q : Q v h) (hk : k ≤ R.cells) (hn : n ≤ R.slots)
    (s' : ∀ vm0 T locs, Std l R W vm0 T locs k n → ∀ fs, (∀ (f : JFrame) (acts : List Action), f.method = W.m → f.locked = none → f.entered = [] → (doReturn W.e (T.setTop f) acts v).1 = T.setFrames fs) → Steps W.p.tables W.e W.b (T.setTop f) (T.setFrames fs)) : Run l R Z EL W Q S h k n f := by
  intro vm0 T locs X eT N O I
  have hlk : W.t.locks = false := C.lk
  obtain ⟨fs, hr, hrun, hended, hW, hsame⟩ := X.leave (v := v) (fun hh => hv (C.rt.symm.trans hh))
  have e2 : (T.setFrames fs).heap = h := eT
  obtain ⟨⟨k0, hS, hk0⟩, hZ, hr0, -⟩ := I
  have hc := CHv.at X hZ hE hr0.1
  obtain ⟨e4, e5, e6⟩ := hS.ended (U := T.setFrames fs) hW (by rw [e2]; exact hk0) hsame
  exact ⟨_, _, s' vm0 T locs X fs hr, hrun, hended, _, _, rfl, ⟨by rw [e2]; exact q, by rw [e2]; exact O, N⟩, by rw [e2]; exact hr0.trans hc, ⟨_, rfl⟩, e4, e5, e6.mono hk hn⟩
theorem retV (C : Cx Z W own nm code maxL none) (hE : EW Z a0 EL) (hd : decode code pc = .ok (.return_, 1)) (hk : k ≤ R.cells) (hn : n ≤ R.slots) (q : Q none h) : Run l R Z EL W Q S h k n (mkF W.m pc Ls []) :=
  Run.leave C hE (fun _ => rfl) q hk hn (fun vm0 T locs X fs hr => X.returnOut C.hx C.rt (C.hb hd) hr)
theorem retI (C : Cx Z W own nm code maxL (some .int)) (hE : EW Z a0 EL) (hd : decode code pc = .ok (.ireturn, 1)) {z : Int32} (hk : k ≤ R.cells) (hn : n ≤ R.slots) (q : Q (some (.int z)) h) : Run l R Z EL W Q S h k n (mkF W.m pc Ls (.int z :: st)) :=
  Run.leave C hE (fun hh => nomatch hh) q hk hn (fun vm0 T locs X fs hr => retOut X C.hx C.rt rfl (Or.inl ⟨rfl, Or.inl rfl, z, rfl⟩) (C.hb hd) hr)
theorem retNar {ty : FieldType} (C : Cx Z W own nm code maxL (some ty)) (hE : EW Z a0 EL) (ht : ty = .boolean ∨ ty = .byte ∨ ty = .char ∨ ty = .short) (hd : decode code pc = .ok (.ireturn, 1)) {z z' : Int32} (hz : nar ty z = z') (hk : k ≤ R.cells) (hn : n ≤ R.slots) (q : Q (some (.int z')) h) : Run l R Z EL W Q S h k n (mkF W.m pc Ls (.int z :: st)) := by
  subst hz
  exact Run.leave C hE (fun hh => nomatch hh) q hk hn (fun vm0 T locs X fs hr => retN X C.hx C.rt ht (C.hb hd) hr)
theorem retA {ty : FieldType} {v : Value} (C : Cx Z W own nm code maxL (some ty)) (hE : EW Z a0 EL) (ht : ty.isReference = true) (hv : v.isRef = true) (hd : decode code pc = .ok (.areturn, 1)) (hk : k ≤ R.cells) (hn : n ≤ R.slots) (q : Q (some v) h) : Run l R Z EL W Q S h k n (mkF W.m pc Ls (v :: st)) :=
  Run.leave C hE (fun hh => nomatch hh) q hk hn (fun vm0 T locs X fs hr => retOut X C.hx C.rt (by rcases ref_cases hv with rfl | ⟨a, rfl⟩ <;> cases ty <;> simp [FieldType.isReference] at ht <;> rfl) (Or.inr (Or.inr (Or.inr (Or.inr ⟨rfl, ht, hv⟩)))) (C.hb hd) hr)
end Kit
end Ww
abbrev EL : List (String × Nat) := consts_1
theorem own_EW {a0 : Array Value} {Z : State} (hw : Ws a0 Z) : EW Z a0 EL := (EW.cons (w76 hw) (by decide) EW.nil)
theorem wS {a0 : Array Value} {Z : State} (hw : Ws a0 Z) : ∀ a ∈ Bundle.stringAtoms, a.before a0 Z = true := by
  intro a ha
  simp only [Bundle.stringAtoms, List.mem_cons, List.not_mem_nil, or_false] at ha
  rcases ha with rfl | rfl | rfl | rfl | rfl | rfl | rfl
  · exact (w11 hw)
  · exact (w10 hw)
  · exact (w27 hw)
  · exact (w37 hw)
  · exact (w35 hw)
  · exact (w77 hw)
  · exact (w78 hw)
def tabL : List Int32 := [-1, -1, -1, -1, -1, -1, -1, -1, -1, -1, -1, -1, -1, -1, -1, -1, -1, -1, -1, -1, -1, -1, -1, -1, -1, -1, -1, -1, -1, -1, -1, -1, -1, -1, -1, -1, -1, -1, -1, -1, -1, -1, -1, -1, -1, 62, -1, -1, 52, 53, 54, 55, 56, 57, 58, 59, 60, 61, -1, -1, -1, -2, -1, -1, -1, 0, 1, 2, 3, 4, 5, 6, 7, 8, 9, 10, 11, 12, 13, 14, 15, 16, 17, 18, 19, 20, 21, 22, 23, 24, 25, -1, -1, -1, -1, 63, -1, 26, 27, 28, 29, 30, 31, 32, 33, 34, 35, 36, 37, 38, 39, 40, 41, 42, 43, 44, 45, 46, 47, 48, 49, 50, 51, -1, -1, -1, -1, -1, -1, -1, -1, -1, -1, -1, -1, -1, -1, -1, -1, -1, -1, -1, -1, -1, -1, -1, -1, -1, -1, -1, -1, -1, -1, -1, -1, -1, -1, -1, -1, -1, -1, -1, -1, -1, -1, -1, -1, -1, -1, -1, -1, -1, -1, -1, -1, -1, -1, -1, -1, -1, -1, -1, -1, -1, -1, -1, -1, -1, -1, -1, -1, -1, -1, -1, -1, -1, -1, -1, -1, -1, -1, -1, -1, -1, -1, -1, -1, -1, -1, -1, -1, -1, -1, -1, -1, -1, -1, -1, -1, -1, -1, -1, -1, -1, -1, -1, -1, -1, -1, -1, -1, -1, -1, -1, -1, -1, -1, -1, -1, -1, -1, -1, -1, -1, -1, -1, -1, -1, -1, -1, -1, -1, -1, -1, -1, -1]
def alL : List Int32 := [65, 66, 67, 68, 69, 70, 71, 72, 73, 74, 75, 76, 77, 78, 79, 80, 81, 82, 83, 84, 85, 86, 87, 88, 89, 90, 97, 98, 99, 100, 101, 102, 103, 104, 105, 106, 107, 108, 109, 110, 111, 112, 113, 114, 115, 116, 117, 118, 119, 120, 121, 122, 48, 49, 50, 51, 52, 53, 54, 55, 56, 57, 45, 95]
def alC (k : Nat) : Int32 := alL.getD k 0
abbrev Tb (x v : Int32) : Prop := ¬ (x &&& 255) < 0 ∧ tabL[(x &&& 255).toNatClampNeg]? = some v ∧ ¬ v < 0 ∧ ¬ x = 61
theorem own_tb : ∀ k, k < 64 → Tb ((alC k).toInt8.toInt32) (Int32.ofNat k) := by decide +kernel
theorem own_alr : ∀ k, k < 64 → ¬ alC k < 0 ∧ ¬ (255 : Int32) < alC k := by decide +kernel
theorem own_al1 : ∀ k, k < 64 → Int32.ofNat k < 26 → ((65 : Int32) + Int32.ofNat k).toUInt32.toUInt16.toUInt32.toInt32 = alC k := by decide +kernel
theorem own_al2 : ∀ k, k < 64 → ¬ Int32.ofNat k < 26 → Int32.ofNat k < 52 → ((97 : Int32) + (Int32.ofNat k - 26)).toUInt32.toUInt16.toUInt32.toInt32 = alC k := by decide +kernel
theorem own_al3 : ∀ k, k < 64 → ¬ Int32.ofNat k < 52 → Int32.ofNat k < 62 → ((48 : Int32) + (Int32.ofNat k - 52)).toUInt32.toUInt16.toUInt32.toInt32 = alC k := by decide +kernel
theorem own_al4 : ∀ k, k < 64 → Int32.ofNat k = 62 → (45 : Int32) = alC k := by decide +kernel
theorem own_al5 : ∀ k, k < 64 → ¬ Int32.ofNat k < 62 → ¬ Int32.ofNat k = 62 → (95 : Int32) = alC k := by decide +kernel
theorem own_tab {x m v : Int32} (h : x &&& 255 = m) (t : Tb x v) : ¬ m < 0 ∧ (tabL.map Value.int)[m.toNatClampNeg]? = some (.int v) := by
  subst h
  exact ⟨t.1, by rw [List.getElem?_map, t.2.1]; rfl⟩
theorem own_ofN {n : Nat} (h : n < 2 ^ 31) : (Int32.ofNat n).toBitVec.toNat = n := by
  show (BitVec.ofNat 32 n).toNat = n
  rw [BitVec.toNat_ofNat]; exact Nat.mod_eq_of_lt (by omega)
theorem own_eqN {x y : Int32} (h : x.toBitVec.toNat = y.toBitVec.toNat) : x = y := Int32.toBitVec_inj.mp (BitVec.eq_of_toNat_eq h)
theorem own_orN {a b c : Int32} (h : a ||| b = c) (ha : ¬ a < 0) (hb : ¬ b < 0) : ¬ c < 0 := by
  have m : ∀ x : Int32, ¬ x < 0 ↔ x.toBitVec.msb = false := fun x => by
    rw [Int32.lt_iff_toInt_lt, BitVec.msb_eq_toInt]
    show ¬ x.toInt < 0 ↔ decide (x.toInt < 0) = false
    simp
  subst h
  rw [m] at *
  rw [Int32.toBitVec_or, BitVec.msb_or, ha, hb]; rfl
theorem own_shl {a k : Nat} {s : Int32} (hs : (s &&& 31).toBitVec.smod 32 = BitVec.ofNat 32 k) (hk : k < 32) (h : a * 2 ^ k < 2 ^ 31) : Int32.ofNat a <<< (s &&& 31) = Int32.ofNat (a * 2 ^ k) := by
  apply own_eqN
  rw [own_ofN h, Int32.toBitVec_shiftLeft, hs]
  rw [BitVec.shiftLeft_eq', BitVec.toNat_shiftLeft, BitVec.toNat_ofNat, own_ofN (by have := Nat.le_mul_of_pos_right a (Nat.two_pow_pos k); omega), Nat.shiftLeft_eq, Nat.mod_eq_of_lt (a := k) (by omega), Nat.mod_eq_of_lt (by omega)]
theorem own_or {a b i : Nat} (h : a * 2 ^ i + b < 2 ^ 31) (hb : b < 2 ^ i) : Int32.ofNat (a * 2 ^ i) ||| Int32.ofNat b = Int32.ofNat (a * 2 ^ i + b) := by
  apply own_eqN
  rw [own_ofN h, Int32.toBitVec_or, BitVec.toNat_or, own_ofN (by omega), own_ofN (by omega), Nat.mul_comm a, Nat.two_pow_add_eq_or_of_lt hb]
theorem own_or0 {b : Nat} : (0 : Int32) ||| Int32.ofNat b = Int32.ofNat b := by
  apply Int32.toBitVec_inj.mp
  rw [Int32.toBitVec_or]; show 0#32 ||| _ = _; simp
theorem own_shr {a k : Nat} {s : Int32} (hs : (s &&& 31).toBitVec.smod 32 = BitVec.ofNat 32 k) (hk : k < 32) (h : a < 2 ^ 31) : Int32.ofNat a >>> (s &&& 31) = Int32.ofNat (a / 2 ^ k) := by
  have hd : a / 2 ^ k ≤ a := Nat.div_le_self _ _
  apply own_eqN
  rw [own_ofN (by omega), Int32.toBitVec_shiftRight, hs, BitVec.sshiftRight_eq', BitVec.toNat_ofNat, Nat.mod_eq_of_lt (a := k) (by omega), BitVec.sshiftRight_eq_of_msb_false, BitVec.toNat_ushiftRight, own_ofN h, Nat.shiftRight_eq_div_pow]
  rw [BitVec.msb_eq_decide, own_ofN h]; simp; omega
theorem own_b8 {x y : Int32} (h : x.toBitVec.toNat % 256 = y.toBitVec.toNat % 256) : x.toInt8.toInt32 = y.toInt8.toInt32 := by
  have e : x.toInt8 = y.toInt8 := by
    apply Int8.toBitVec_inj.mp
    apply BitVec.eq_of_toNat_eq
    rw [Int32.toBitVec_toInt8, Int32.toBitVec_toInt8, BitVec.signExtend_eq_setWidth_of_le _ (by decide), BitVec.signExtend_eq_setWidth_of_le _ (by decide), BitVec.toNat_setWidth, BitVec.toNat_setWidth]
    exact h
  rw [e]
abbrev N64 (x : Int64) : Nat := x.toBitVec.toNat
theorem own_and {x c : Int64} {k : Nat} (hc : c.toBitVec.toNat = 2 ^ k - 1) : N64 (x &&& c) = N64 x % 2 ^ k := by
  show (x &&& c).toBitVec.toNat = _
  rw [Int64.toBitVec_and, BitVec.toNat_and, hc, Nat.and_two_pow_sub_one_eq_mod]
theorem own_ushr {x : Int64} {s : Int32} {k : Nat} (hs : ((s &&& 0x3f).toInt64.toUInt64).toNat = k) (hk : k < 64) : N64 ((x.toUInt64 >>> (s &&& 0x3f).toInt64.toUInt64).toInt64) = N64 x / 2 ^ k := by
  show (x.toUInt64 >>> (s &&& 0x3f).toInt64.toUInt64).toBitVec.toNat = _
  rw [UInt64.toNat_toBitVec, UInt64.toNat_shiftRight, hs, Nat.mod_eq_of_lt hk, Nat.shiftRight_eq_div_pow]
  rfl
theorem own_shl64 {x : Int64} {s : Int32} {k : Nat} (hs : (s &&& 0x3f).toInt64.toBitVec.smod 64 = BitVec.ofNat 64 k) (hk : k < 64) : N64 (x <<< (s &&& 0x3f).toInt64) = N64 x * 2 ^ k % 2 ^ 64 := by
  show (x <<< (s &&& 0x3f).toInt64).toBitVec.toNat = _
  rw [Int64.toBitVec_shiftLeft, hs, BitVec.shiftLeft_eq', BitVec.toNat_shiftLeft, BitVec.toNat_ofNat, Nat.shiftLeft_eq, Nat.mod_eq_of_lt (a := k) (by omega)]
theorem own_bits {p v1 v2 v3 : Int64} {s : Int32} (k : Nat) (h1 : p &&& (281474976710655 : Int64) = v1) (h2 : (v1.toUInt64 >>> (s &&& 0x3f).toInt64.toUInt64).toInt64 = v2) (h3 : v2 <<< (s &&& 0x3f).toInt64 = v3)
    (hs : ((s &&& 0x3f).toInt64.toUInt64).toNat = k) (hs' : (s &&& 0x3f).toInt64.toBitVec.smod 64 = BitVec.ofNat 64 k) (hk : k ≤ 48) : N64 v3 < 2 ^ 48 ∧ N64 v3 % 2 ^ k = 0 := by
  have a := own_and (x := p) (c := 281474976710655) (k := 48) (by decide)
  rw [h1] at a
  have b := own_ushr (x := v1) hs (by omega)
  rw [h2] at b
  have c := own_shl64 (x := v2) hs' (by omega)
  rw [h3] at c
  have d : N64 v1 < 2 ^ 48 := by rw [a]; exact Nat.mod_lt _ (by decide)
  have e : N64 v2 * 2 ^ k ≤ N64 v1 := by rw [b]; exact Nat.div_mul_le_self _ _
  have f : N64 v3 = N64 v2 * 2 ^ k := by rw [c]; exact Nat.mod_eq_of_lt (by omega)
  exact ⟨by omega, by rw [f]; exact Nat.mul_mod_left _ _⟩
theorem own_toI32 (x : Int64) : x.toInt32.toBitVec.toNat = N64 x % 2 ^ 32 := by
  rw [Int64.toBitVec_toInt32, BitVec.signExtend_eq_setWidth_of_le _ (by decide), BitVec.toNat_setWidth]
def six (B j : Nat) : Nat := B / 2 ^ (42 - 6 * j) % 64
theorem six_lt (B j : Nat) : six B j < 64 := Nat.mod_lt _ (by decide)
def atK (bits : Int64) (i s : Int32) : Nat := N64 ((bits.toUInt64 >>> (((42 : Int32) - (6 : Int32) * (i - s)) &&& 0x3f).toInt64.toUInt64).toInt64) % 64
theorem own_l63 {x a : Int64} {v : Int32} (h : x &&& (63 : Int64) = a) (h1 : a.toInt32 = v) : v = Int32.ofNat (N64 x % 64) := by
  subst h h1
  apply own_eqN
  have q : N64 x % 64 < 64 := Nat.mod_lt _ (by decide)
  rw [own_ofN (by omega), own_toI32, own_and (k := 6) (by decide)]
  omega
theorem own_atK {bits : Int64} {i s : Int32} {j : Nat} (hs : ((((42 : Int32) - (6 : Int32) * (i - s)) &&& 0x3f).toInt64.toUInt64).toNat = 42 - 6 * j) : atK bits i s = six (N64 bits) j := by
  unfold atK six
  rw [own_ushr hs (by omega)]
def byt (bits : Int64) (k : Int32) : Int32 := (((bits.toUInt64 >>> (((40 : Int32) - (8 : Int32) * k) &&& 0x3f).toInt64.toUInt64).toInt64) &&& (255 : Int64)).toInt32.toInt8.toInt32
theorem own_byte {bits : Int64} {s : Int32} {k : Nat} (hs : ((s &&& 0x3f).toInt64.toUInt64).toNat = k) (hk : k < 64) : (((bits.toUInt64 >>> (s &&& 0x3f).toInt64.toUInt64).toInt64) &&& (255 : Int64)).toInt32.toBitVec.toNat = N64 bits / 2 ^ k % 256 := by
  rw [own_toI32, own_and (k := 8) (by decide), own_ushr hs hk]
  have : N64 bits / 2 ^ k % 2 ^ 8 < 2 ^ 8 := Nat.mod_lt _ (by decide)
  omega
theorem own_and3 {x v : Int32} (h : x &&& 3 = v) : ∃ s : Nat, s ≤ 3 ∧ v = Int32.ofNat s := by
  refine ⟨x.toBitVec.toNat % 4, by omega, ?_⟩
  subst h
  apply own_eqN
  rw [own_ofN (by omega), Int32.toBitVec_and, BitVec.toNat_and]
  exact Nat.and_two_pow_sub_one_eq_mod (n := 2) _
theorem own_r16 {c : Int32} (h : ¬ c < 0 ∧ ¬ (255 : Int32) < c) : nar .char c = c := by
  exact Wk.nar_rng h
def dW (a b c d : Int32) : Int32 := ((a <<< ((18 : Int32) &&& 31) ||| b <<< ((12 : Int32) &&& 31)) ||| c <<< ((6 : Int32) &&& 31)) ||| d
def dS2 (a b : Int32) : Int32 := ((0 : Int32) ||| a <<< ((18 : Int32) &&& 31)) ||| b <<< ((12 : Int32) &&& 31)
def dS3 (a b c : Int32) : Int32 := dS2 a b ||| c <<< ((6 : Int32) &&& 31)
def dS4 (a b c d : Int32) : Int32 := dS3 a b c ||| d <<< ((0 : Int32) &&& 31)
theorem own_p2 {a b : Nat} (ha : a < 64) (hb : b < 64) : Int32.ofNat a <<< ((18 : Int32) &&& 31) ||| Int32.ofNat b <<< ((12 : Int32) &&& 31) = Int32.ofNat (a * 2 ^ 18 + b * 2 ^ 12) := by
  rw [own_shl (k := 18) (by decide) (by decide) (by omega), own_shl (k := 12) (by decide) (by decide) (by omega), own_or (by omega) (by omega)]
theorem own_p3 {a b c : Nat} (ha : a < 64) (hb : b < 64) (hc : c < 64) : Int32.ofNat (a * 2 ^ 18 + b * 2 ^ 12) ||| Int32.ofNat c <<< ((6 : Int32) &&& 31) = Int32.ofNat (a * 2 ^ 18 + b * 2 ^ 12 + c * 2 ^ 6) := by
  rw [own_shl (k := 6) (by decide) (by decide) (by omega), show a * 2 ^ 18 + b * 2 ^ 12 = (a * 2 ^ 6 + b) * 2 ^ 12 by omega, own_or (by omega) (by omega)]
theorem own_p4 {a b c d : Nat} (ha : a < 64) (hb : b < 64) (hc : c < 64) (hd : d < 64) : Int32.ofNat (a * 2 ^ 18 + b * 2 ^ 12 + c * 2 ^ 6) ||| Int32.ofNat d = Int32.ofNat (a * 2 ^ 18 + b * 2 ^ 12 + c * 2 ^ 6 + d) := by
  rw [show a * 2 ^ 18 + b * 2 ^ 12 + c * 2 ^ 6 = (a * 2 ^ 12 + b * 2 ^ 6 + c) * 2 ^ 6 by omega, own_or (by omega) (by omega)]
theorem own_gW {a b c d : Nat} (ha : a < 64) (hb : b < 64) (hc : c < 64) (hd : d < 64) : dW (Int32.ofNat a) (Int32.ofNat b) (Int32.ofNat c) (Int32.ofNat d) = Int32.ofNat (a * 2 ^ 18 + b * 2 ^ 12 + c * 2 ^ 6 + d) := by
  unfold dW; rw [own_p2 ha hb, own_p3 ha hb hc, own_p4 ha hb hc hd]
theorem own_g2 {a b : Nat} (ha : a < 64) (hb : b < 64) : dS2 (Int32.ofNat a) (Int32.ofNat b) = Int32.ofNat (a * 2 ^ 18 + b * 2 ^ 12) := by
  unfold dS2; rw [show (0 : Int32) ||| Int32.ofNat a <<< ((18 : Int32) &&& 31) = Int32.ofNat a <<< ((18 : Int32) &&& 31) by rw [own_shl (k := 18) (by decide) (by decide) (by omega), own_or0], own_p2 ha hb]
theorem own_g3 {a b c : Nat} (ha : a < 64) (hb : b < 64) (hc : c < 64) : dS3 (Int32.ofNat a) (Int32.ofNat b) (Int32.ofNat c) = Int32.ofNat (a * 2 ^ 18 + b * 2 ^ 12 + c * 2 ^ 6) := by
  unfold dS3; rw [own_g2 ha hb, own_p3 ha hb hc]
theorem own_g4 {a b c d : Nat} (ha : a < 64) (hb : b < 64) (hc : c < 64) (hd : d < 64) : dS4 (Int32.ofNat a) (Int32.ofNat b) (Int32.ofNat c) (Int32.ofNat d) = Int32.ofNat (a * 2 ^ 18 + b * 2 ^ 12 + c * 2 ^ 6 + d) := by
  unfold dS4; rw [own_g3 ha hb hc, show Int32.ofNat d <<< ((0 : Int32) &&& 31) = Int32.ofNat d by rw [own_shl (k := 0) (by decide) (by decide) (by omega)]; simp, own_p4 ha hb hc hd]
theorem own_f_2_0 (bits : Int64) (h : N64 bits < 2 ^ 48 ∧ N64 bits % 2 ^ 40 = 0) : ((dS2 (Int32.ofNat (six (N64 bits) 0)) (Int32.ofNat (six (N64 bits) 1))) >>> ((16 : Int32) &&& 31)).toInt8.toInt32 = byt bits (0 : Int32) := by
  unfold byt
  apply own_b8
  rw [own_byte (k := 40) (by decide) (by decide), own_g2 (six_lt _ 0) (six_lt _ 1), own_shr (k := 16) (by decide) (by decide) (by have a0 := six_lt (N64 bits) 0; have a1 := six_lt (N64 bits) 1; omega), own_ofN (by have a0 := six_lt (N64 bits) 0; have a1 := six_lt (N64 bits) 1;  omega)]
  obtain ⟨h1, h2⟩ := h
  simp only [six]; omega
theorem own_f_3_0 (bits : Int64) (h : N64 bits < 2 ^ 48 ∧ N64 bits % 2 ^ 32 = 0) : ((dS3 (Int32.ofNat (six (N64 bits) 0)) (Int32.ofNat (six (N64 bits) 1)) (Int32.ofNat (six (N64 bits) 2))) >>> ((16 : Int32) &&& 31)).toInt8.toInt32 = byt bits (0 : Int32) := by
  unfold byt
  apply own_b8
  rw [own_byte (k := 40) (by decide) (by decide), own_g3 (six_lt _ 0) (six_lt _ 1) (six_lt _ 2), own_shr (k := 16) (by decide) (by decide) (by have a0 := six_lt (N64 bits) 0; have a1 := six_lt (N64 bits) 1; have a2 := six_lt (N64 bits) 2; omega), own_ofN (by have a0 := six_lt (N64 bits) 0; have a1 := six_lt (N64 bits) 1; have a2 := six_lt (N64 bits) 2;  omega)]
  obtain ⟨h1, h2⟩ := h
  simp only [six]; omega
theorem own_f_3_1 (bits : Int64) (h : N64 bits < 2 ^ 48 ∧ N64 bits % 2 ^ 32 = 0) : ((dS3 (Int32.ofNat (six (N64 bits) 0)) (Int32.ofNat (six (N64 bits) 1)) (Int32.ofNat (six (N64 bits) 2))) >>> ((8 : Int32) &&& 31)).toInt8.toInt32 = byt bits (1 : Int32) := by
  unfold byt
  apply own_b8
  rw [own_byte (k := 32) (by decide) (by decide), own_g3 (six_lt _ 0) (six_lt _ 1) (six_lt _ 2), own_shr (k := 8) (by decide) (by decide) (by have a0 := six_lt (N64 bits) 0; have a1 := six_lt (N64 bits) 1; have a2 := six_lt (N64 bits) 2; omega), own_ofN (by have a0 := six_lt (N64 bits) 0; have a1 := six_lt (N64 bits) 1; have a2 := six_lt (N64 bits) 2;  omega)]
  obtain ⟨h1, h2⟩ := h
  simp only [six]; omega
theorem own_f_4_0 (bits : Int64) (h : N64 bits < 2 ^ 48 ∧ N64 bits % 2 ^ 24 = 0) : ((dS4 (Int32.ofNat (six (N64 bits) 0)) (Int32.ofNat (six (N64 bits) 1)) (Int32.ofNat (six (N64 bits) 2)) (Int32.ofNat (six (N64 bits) 3))) >>> ((16 : Int32) &&& 31)).toInt8.toInt32 = byt bits (0 : Int32) := by
  unfold byt
  apply own_b8
  rw [own_byte (k := 40) (by decide) (by decide), own_g4 (six_lt _ 0) (six_lt _ 1) (six_lt _ 2) (six_lt _ 3), own_shr (k := 16) (by decide) (by decide) (by have a0 := six_lt (N64 bits) 0; have a1 := six_lt (N64 bits) 1; have a2 := six_lt (N64 bits) 2; have a3 := six_lt (N64 bits) 3; omega), own_ofN (by have a0 := six_lt (N64 bits) 0; have a1 := six_lt (N64 bits) 1; have a2 := six_lt (N64 bits) 2; have a3 := six_lt (N64 bits) 3;  omega)]
  obtain ⟨h1, h2⟩ := h
  simp only [six]; omega
theorem own_f_4_1 (bits : Int64) (h : N64 bits < 2 ^ 48 ∧ N64 bits % 2 ^ 24 = 0) : ((dS4 (Int32.ofNat (six (N64 bits) 0)) (Int32.ofNat (six (N64 bits) 1)) (Int32.ofNat (six (N64 bits) 2)) (Int32.ofNat (six (N64 bits) 3))) >>> ((8 : Int32) &&& 31)).toInt8.toInt32 = byt bits (1 : Int32) := by
  unfold byt
  apply own_b8
  rw [own_byte (k := 32) (by decide) (by decide), own_g4 (six_lt _ 0) (six_lt _ 1) (six_lt _ 2) (six_lt _ 3), own_shr (k := 8) (by decide) (by decide) (by have a0 := six_lt (N64 bits) 0; have a1 := six_lt (N64 bits) 1; have a2 := six_lt (N64 bits) 2; have a3 := six_lt (N64 bits) 3; omega), own_ofN (by have a0 := six_lt (N64 bits) 0; have a1 := six_lt (N64 bits) 1; have a2 := six_lt (N64 bits) 2; have a3 := six_lt (N64 bits) 3;  omega)]
  obtain ⟨h1, h2⟩ := h
  simp only [six]; omega
theorem own_f_4_2 (bits : Int64) (h : N64 bits < 2 ^ 48 ∧ N64 bits % 2 ^ 24 = 0) : (dS4 (Int32.ofNat (six (N64 bits) 0)) (Int32.ofNat (six (N64 bits) 1)) (Int32.ofNat (six (N64 bits) 2)) (Int32.ofNat (six (N64 bits) 3))).toInt8.toInt32 = byt bits (2 : Int32) := by
  unfold byt
  apply own_b8
  rw [own_byte (k := 24) (by decide) (by decide), own_g4 (six_lt _ 0) (six_lt _ 1) (six_lt _ 2) (six_lt _ 3), own_ofN (by have a0 := six_lt (N64 bits) 0; have a1 := six_lt (N64 bits) 1; have a2 := six_lt (N64 bits) 2; have a3 := six_lt (N64 bits) 3;  omega)]
  obtain ⟨h1, h2⟩ := h
  simp only [six]; omega
theorem own_f_6_0 (bits : Int64) (h : N64 bits < 2 ^ 48 ∧ N64 bits % 2 ^ 16 = 0) : ((dW (Int32.ofNat (six (N64 bits) 0)) (Int32.ofNat (six (N64 bits) 1)) (Int32.ofNat (six (N64 bits) 2)) (Int32.ofNat (six (N64 bits) 3))) >>> ((16 : Int32) &&& 31)).toInt8.toInt32 = byt bits (0 : Int32) := by
  unfold byt
  apply own_b8
  rw [own_byte (k := 40) (by decide) (by decide), own_gW (six_lt _ 0) (six_lt _ 1) (six_lt _ 2) (six_lt _ 3), own_shr (k := 16) (by decide) (by decide) (by have a0 := six_lt (N64 bits) 0; have a1 := six_lt (N64 bits) 1; have a2 := six_lt (N64 bits) 2; have a3 := six_lt (N64 bits) 3; omega), own_ofN (by have a0 := six_lt (N64 bits) 0; have a1 := six_lt (N64 bits) 1; have a2 := six_lt (N64 bits) 2; have a3 := six_lt (N64 bits) 3;  omega)]
  obtain ⟨h1, h2⟩ := h
  simp only [six]; omega
theorem own_f_6_1 (bits : Int64) (h : N64 bits < 2 ^ 48 ∧ N64 bits % 2 ^ 16 = 0) : ((dW (Int32.ofNat (six (N64 bits) 0)) (Int32.ofNat (six (N64 bits) 1)) (Int32.ofNat (six (N64 bits) 2)) (Int32.ofNat (six (N64 bits) 3))) >>> ((8 : Int32) &&& 31)).toInt8.toInt32 = byt bits (1 : Int32) := by
  unfold byt
  apply own_b8
  rw [own_byte (k := 32) (by decide) (by decide), own_gW (six_lt _ 0) (six_lt _ 1) (six_lt _ 2) (six_lt _ 3), own_shr (k := 8) (by decide) (by decide) (by have a0 := six_lt (N64 bits) 0; have a1 := six_lt (N64 bits) 1; have a2 := six_lt (N64 bits) 2; have a3 := six_lt (N64 bits) 3; omega), own_ofN (by have a0 := six_lt (N64 bits) 0; have a1 := six_lt (N64 bits) 1; have a2 := six_lt (N64 bits) 2; have a3 := six_lt (N64 bits) 3;  omega)]
  obtain ⟨h1, h2⟩ := h
  simp only [six]; omega
theorem own_f_6_2 (bits : Int64) (h : N64 bits < 2 ^ 48 ∧ N64 bits % 2 ^ 16 = 0) : (dW (Int32.ofNat (six (N64 bits) 0)) (Int32.ofNat (six (N64 bits) 1)) (Int32.ofNat (six (N64 bits) 2)) (Int32.ofNat (six (N64 bits) 3))).toInt8.toInt32 = byt bits (2 : Int32) := by
  unfold byt
  apply own_b8
  rw [own_byte (k := 24) (by decide) (by decide), own_gW (six_lt _ 0) (six_lt _ 1) (six_lt _ 2) (six_lt _ 3), own_ofN (by have a0 := six_lt (N64 bits) 0; have a1 := six_lt (N64 bits) 1; have a2 := six_lt (N64 bits) 2; have a3 := six_lt (N64 bits) 3;  omega)]
  obtain ⟨h1, h2⟩ := h
  simp only [six]; omega
theorem own_f_6_3 (bits : Int64) (h : N64 bits < 2 ^ 48 ∧ N64 bits % 2 ^ 16 = 0) : ((dS2 (Int32.ofNat (six (N64 bits) 4)) (Int32.ofNat (six (N64 bits) 5))) >>> ((16 : Int32) &&& 31)).toInt8.toInt32 = byt bits (3 : Int32) := by
  unfold byt
  apply own_b8
  rw [own_byte (k := 16) (by decide) (by decide), own_g2 (six_lt _ 4) (six_lt _ 5), own_shr (k := 16) (by decide) (by decide) (by have a0 := six_lt (N64 bits) 4; have a1 := six_lt (N64 bits) 5; omega), own_ofN (by have a0 := six_lt (N64 bits) 4; have a1 := six_lt (N64 bits) 5;  omega)]
  obtain ⟨h1, h2⟩ := h
  simp only [six]; omega
theorem own_f_7_0 (bits : Int64) (h : N64 bits < 2 ^ 48 ∧ N64 bits % 2 ^ 8 = 0) : ((dW (Int32.ofNat (six (N64 bits) 0)) (Int32.ofNat (six (N64 bits) 1)) (Int32.ofNat (six (N64 bits) 2)) (Int32.ofNat (six (N64 bits) 3))) >>> ((16 : Int32) &&& 31)).toInt8.toInt32 = byt bits (0 : Int32) := by
  unfold byt
  apply own_b8
  rw [own_byte (k := 40) (by decide) (by decide), own_gW (six_lt _ 0) (six_lt _ 1) (six_lt _ 2) (six_lt _ 3), own_shr (k := 16) (by decide) (by decide) (by have a0 := six_lt (N64 bits) 0; have a1 := six_lt (N64 bits) 1; have a2 := six_lt (N64 bits) 2; have a3 := six_lt (N64 bits) 3; omega), own_ofN (by have a0 := six_lt (N64 bits) 0; have a1 := six_lt (N64 bits) 1; have a2 := six_lt (N64 bits) 2; have a3 := six_lt (N64 bits) 3;  omega)]
  obtain ⟨h1, h2⟩ := h
  simp only [six]; omega
theorem own_f_7_1 (bits : Int64) (h : N64 bits < 2 ^ 48 ∧ N64 bits % 2 ^ 8 = 0) : ((dW (Int32.ofNat (six (N64 bits) 0)) (Int32.ofNat (six (N64 bits) 1)) (Int32.ofNat (six (N64 bits) 2)) (Int32.ofNat (six (N64 bits) 3))) >>> ((8 : Int32) &&& 31)).toInt8.toInt32 = byt bits (1 : Int32) := by
  unfold byt
  apply own_b8
  rw [own_byte (k := 32) (by decide) (by decide), own_gW (six_lt _ 0) (six_lt _ 1) (six_lt _ 2) (six_lt _ 3), own_shr (k := 8) (by decide) (by decide) (by have a0 := six_lt (N64 bits) 0; have a1 := six_lt (N64 bits) 1; have a2 := six_lt (N64 bits) 2; have a3 := six_lt (N64 bits) 3; omega), own_ofN (by have a0 := six_lt (N64 bits) 0; have a1 := six_lt (N64 bits) 1; have a2 := six_lt (N64 bits) 2; have a3 := six_lt (N64 bits) 3;  omega)]
  obtain ⟨h1, h2⟩ := h
  simp only [six]; omega
theorem own_f_7_2 (bits : Int64) (h : N64 bits < 2 ^ 48 ∧ N64 bits % 2 ^ 8 = 0) : (dW (Int32.ofNat (six (N64 bits) 0)) (Int32.ofNat (six (N64 bits) 1)) (Int32.ofNat (six (N64 bits) 2)) (Int32.ofNat (six (N64 bits) 3))).toInt8.toInt32 = byt bits (2 : Int32) := by
  unfold byt
  apply own_b8
  rw [own_byte (k := 24) (by decide) (by decide), own_gW (six_lt _ 0) (six_lt _ 1) (six_lt _ 2) (six_lt _ 3), own_ofN (by have a0 := six_lt (N64 bits) 0; have a1 := six_lt (N64 bits) 1; have a2 := six_lt (N64 bits) 2; have a3 := six_lt (N64 bits) 3;  omega)]
  obtain ⟨h1, h2⟩ := h
  simp only [six]; omega
theorem own_f_7_3 (bits : Int64) (h : N64 bits < 2 ^ 48 ∧ N64 bits % 2 ^ 8 = 0) : ((dS3 (Int32.ofNat (six (N64 bits) 4)) (Int32.ofNat (six (N64 bits) 5)) (Int32.ofNat (six (N64 bits) 6))) >>> ((16 : Int32) &&& 31)).toInt8.toInt32 = byt bits (3 : Int32) := by
  unfold byt
  apply own_b8
  rw [own_byte (k := 16) (by decide) (by decide), own_g3 (six_lt _ 4) (six_lt _ 5) (six_lt _ 6), own_shr (k := 16) (by decide) (by decide) (by have a0 := six_lt (N64 bits) 4; have a1 := six_lt (N64 bits) 5; have a2 := six_lt (N64 bits) 6; omega), own_ofN (by have a0 := six_lt (N64 bits) 4; have a1 := six_lt (N64 bits) 5; have a2 := six_lt (N64 bits) 6;  omega)]
  obtain ⟨h1, h2⟩ := h
  simp only [six]; omega
theorem own_f_7_4 (bits : Int64) (h : N64 bits < 2 ^ 48 ∧ N64 bits % 2 ^ 8 = 0) : ((dS3 (Int32.ofNat (six (N64 bits) 4)) (Int32.ofNat (six (N64 bits) 5)) (Int32.ofNat (six (N64 bits) 6))) >>> ((8 : Int32) &&& 31)).toInt8.toInt32 = byt bits (4 : Int32) := by
  unfold byt
  apply own_b8
  rw [own_byte (k := 8) (by decide) (by decide), own_g3 (six_lt _ 4) (six_lt _ 5) (six_lt _ 6), own_shr (k := 8) (by decide) (by decide) (by have a0 := six_lt (N64 bits) 4; have a1 := six_lt (N64 bits) 5; have a2 := six_lt (N64 bits) 6; omega), own_ofN (by have a0 := six_lt (N64 bits) 4; have a1 := six_lt (N64 bits) 5; have a2 := six_lt (N64 bits) 6;  omega)]
  obtain ⟨h1, h2⟩ := h
  simp only [six]; omega
theorem own_f_8_0 (bits : Int64) (h : N64 bits < 2 ^ 48 ∧ N64 bits % 2 ^ 0 = 0) : ((dW (Int32.ofNat (six (N64 bits) 0)) (Int32.ofNat (six (N64 bits) 1)) (Int32.ofNat (six (N64 bits) 2)) (Int32.ofNat (six (N64 bits) 3))) >>> ((16 : Int32) &&& 31)).toInt8.toInt32 = byt bits (0 : Int32) := by
  unfold byt
  apply own_b8
  rw [own_byte (k := 40) (by decide) (by decide), own_gW (six_lt _ 0) (six_lt _ 1) (six_lt _ 2) (six_lt _ 3), own_shr (k := 16) (by decide) (by decide) (by have a0 := six_lt (N64 bits) 0; have a1 := six_lt (N64 bits) 1; have a2 := six_lt (N64 bits) 2; have a3 := six_lt (N64 bits) 3; omega), own_ofN (by have a0 := six_lt (N64 bits) 0; have a1 := six_lt (N64 bits) 1; have a2 := six_lt (N64 bits) 2; have a3 := six_lt (N64 bits) 3;  omega)]
  obtain ⟨h1, h2⟩ := h
  simp only [six]; omega
theorem own_f_8_1 (bits : Int64) (h : N64 bits < 2 ^ 48 ∧ N64 bits % 2 ^ 0 = 0) : ((dW (Int32.ofNat (six (N64 bits) 0)) (Int32.ofNat (six (N64 bits) 1)) (Int32.ofNat (six (N64 bits) 2)) (Int32.ofNat (six (N64 bits) 3))) >>> ((8 : Int32) &&& 31)).toInt8.toInt32 = byt bits (1 : Int32) := by
  unfold byt
  apply own_b8
  rw [own_byte (k := 32) (by decide) (by decide), own_gW (six_lt _ 0) (six_lt _ 1) (six_lt _ 2) (six_lt _ 3), own_shr (k := 8) (by decide) (by decide) (by have a0 := six_lt (N64 bits) 0; have a1 := six_lt (N64 bits) 1; have a2 := six_lt (N64 bits) 2; have a3 := six_lt (N64 bits) 3; omega), own_ofN (by have a0 := six_lt (N64 bits) 0; have a1 := six_lt (N64 bits) 1; have a2 := six_lt (N64 bits) 2; have a3 := six_lt (N64 bits) 3;  omega)]
  obtain ⟨h1, h2⟩ := h
  simp only [six]; omega
theorem own_f_8_2 (bits : Int64) (h : N64 bits < 2 ^ 48 ∧ N64 bits % 2 ^ 0 = 0) : (dW (Int32.ofNat (six (N64 bits) 0)) (Int32.ofNat (six (N64 bits) 1)) (Int32.ofNat (six (N64 bits) 2)) (Int32.ofNat (six (N64 bits) 3))).toInt8.toInt32 = byt bits (2 : Int32) := by
  unfold byt
  apply own_b8
  rw [own_byte (k := 24) (by decide) (by decide), own_gW (six_lt _ 0) (six_lt _ 1) (six_lt _ 2) (six_lt _ 3), own_ofN (by have a0 := six_lt (N64 bits) 0; have a1 := six_lt (N64 bits) 1; have a2 := six_lt (N64 bits) 2; have a3 := six_lt (N64 bits) 3;  omega)]
  obtain ⟨h1, h2⟩ := h
  simp only [six]; omega
theorem own_f_8_3 (bits : Int64) (h : N64 bits < 2 ^ 48 ∧ N64 bits % 2 ^ 0 = 0) : ((dW (Int32.ofNat (six (N64 bits) 4)) (Int32.ofNat (six (N64 bits) 5)) (Int32.ofNat (six (N64 bits) 6)) (Int32.ofNat (six (N64 bits) 7))) >>> ((16 : Int32) &&& 31)).toInt8.toInt32 = byt bits (3 : Int32) := by
  unfold byt
  apply own_b8
  rw [own_byte (k := 16) (by decide) (by decide), own_gW (six_lt _ 4) (six_lt _ 5) (six_lt _ 6) (six_lt _ 7), own_shr (k := 16) (by decide) (by decide) (by have a0 := six_lt (N64 bits) 4; have a1 := six_lt (N64 bits) 5; have a2 := six_lt (N64 bits) 6; have a3 := six_lt (N64 bits) 7; omega), own_ofN (by have a0 := six_lt (N64 bits) 4; have a1 := six_lt (N64 bits) 5; have a2 := six_lt (N64 bits) 6; have a3 := six_lt (N64 bits) 7;  omega)]
  obtain ⟨h1, h2⟩ := h
  simp only [six]; omega
theorem own_f_8_4 (bits : Int64) (h : N64 bits < 2 ^ 48 ∧ N64 bits % 2 ^ 0 = 0) : ((dW (Int32.ofNat (six (N64 bits) 4)) (Int32.ofNat (six (N64 bits) 5)) (Int32.ofNat (six (N64 bits) 6)) (Int32.ofNat (six (N64 bits) 7))) >>> ((8 : Int32) &&& 31)).toInt8.toInt32 = byt bits (4 : Int32) := by
  unfold byt
  apply own_b8
  rw [own_byte (k := 8) (by decide) (by decide), own_gW (six_lt _ 4) (six_lt _ 5) (six_lt _ 6) (six_lt _ 7), own_shr (k := 8) (by decide) (by decide) (by have a0 := six_lt (N64 bits) 4; have a1 := six_lt (N64 bits) 5; have a2 := six_lt (N64 bits) 6; have a3 := six_lt (N64 bits) 7; omega), own_ofN (by have a0 := six_lt (N64 bits) 4; have a1 := six_lt (N64 bits) 5; have a2 := six_lt (N64 bits) 6; have a3 := six_lt (N64 bits) 7;  omega)]
  obtain ⟨h1, h2⟩ := h
  simp only [six]; omega
theorem own_f_8_5 (bits : Int64) (h : N64 bits < 2 ^ 48 ∧ N64 bits % 2 ^ 0 = 0) : (dW (Int32.ofNat (six (N64 bits) 4)) (Int32.ofNat (six (N64 bits) 5)) (Int32.ofNat (six (N64 bits) 6)) (Int32.ofNat (six (N64 bits) 7))).toInt8.toInt32 = byt bits (5 : Int32) := by
  unfold byt
  apply own_b8
  rw [own_byte (k := 0) (by decide) (by decide), own_gW (six_lt _ 4) (six_lt _ 5) (six_lt _ 6) (six_lt _ 7), own_ofN (by have a0 := six_lt (N64 bits) 4; have a1 := six_lt (N64 bits) 5; have a2 := six_lt (N64 bits) 6; have a3 := six_lt (N64 bits) 7;  omega)]
  obtain ⟨h1, h2⟩ := h
  simp only [six]; omega
theorem own_seg_2 {bits : Int64} {c0 c1 c2 c3 c4 c5 c6 c7 c8 c9 c10 c11 c12 c13 : Int32} {s : Nat} (hs : s ≤ 3) (f0 : (¬ (0 : Int32) < (Int32.ofNat s) ∧ (0 : Int32) < (Int32.ofNat s) + (2 : Int32) → c0 = alC (atK bits (0 : Int32) (Int32.ofNat s)))) (f1 : (¬ (1 : Int32) < (Int32.ofNat s) ∧ (1 : Int32) < (Int32.ofNat s) + (2 : Int32) → c1 = alC (atK bits (1 : Int32) (Int32.ofNat s)))) (f2 : (¬ (2 : Int32) < (Int32.ofNat s) ∧ (2 : Int32) < (Int32.ofNat s) + (2 : Int32) → c2 = alC (atK bits (2 : Int32) (Int32.ofNat s)))) (f3 : (¬ (3 : Int32) < (Int32.ofNat s) ∧ (3 : Int32) < (Int32.ofNat s) + (2 : Int32) → c3 = alC (atK bits (3 : Int32) (Int32.ofNat s)))) (f4 : (¬ (4 : Int32) < (Int32.ofNat s) ∧ (4 : Int32) < (Int32.ofNat s) + (2 : Int32) → c4 = alC (atK bits (4 : Int32) (Int32.ofNat s)))) (f5 : (¬ (5 : Int32) < (Int32.ofNat s) ∧ (5 : Int32) < (Int32.ofNat s) + (2 : Int32) → c5 = alC (atK bits (5 : Int32) (Int32.ofNat s)))) (f6 : (¬ (6 : Int32) < (Int32.ofNat s) ∧ (6 : Int32) < (Int32.ofNat s) + (2 : Int32) → c6 = alC (atK bits (6 : Int32) (Int32.ofNat s)))) (f7 : (¬ (7 : Int32) < (Int32.ofNat s) ∧ (7 : Int32) < (Int32.ofNat s) + (2 : Int32) → c7 = alC (atK bits (7 : Int32) (Int32.ofNat s)))) (f8 : (¬ (8 : Int32) < (Int32.ofNat s) ∧ (8 : Int32) < (Int32.ofNat s) + (2 : Int32) → c8 = alC (atK bits (8 : Int32) (Int32.ofNat s)))) (f9 : (¬ (9 : Int32) < (Int32.ofNat s) ∧ (9 : Int32) < (Int32.ofNat s) + (2 : Int32) → c9 = alC (atK bits (9 : Int32) (Int32.ofNat s)))) (f10 : (¬ (10 : Int32) < (Int32.ofNat s) ∧ (10 : Int32) < (Int32.ofNat s) + (2 : Int32) → c10 = alC (atK bits (10 : Int32) (Int32.ofNat s)))) (f11 : (¬ (11 : Int32) < (Int32.ofNat s) ∧ (11 : Int32) < (Int32.ofNat s) + (2 : Int32) → c11 = alC (atK bits (11 : Int32) (Int32.ofNat s)))) (f12 : (¬ (12 : Int32) < (Int32.ofNat s) ∧ (12 : Int32) < (Int32.ofNat s) + (2 : Int32) → c12 = alC (atK bits (12 : Int32) (Int32.ofNat s)))) (f13 : (¬ (13 : Int32) < (Int32.ofNat s) ∧ (13 : Int32) < (Int32.ofNat s) + (2 : Int32) → c13 = alC (atK bits (13 : Int32) (Int32.ofNat s)))) : ∃ d0 d1 : Int32, (([c0, c1, c2, c3, c4, c5, c6, c7, c8, c9, c10, c11, c12, c13] : List Int32).drop s).take 2 = [d0, d1] ∧ d0 = alC (six (N64 bits) 0) ∧ d1 = alC (six (N64 bits) 1) := by
  have q : s = 0 ∨ s = 1 ∨ s = 2 ∨ s = 3 := by omega
  rcases q with rfl | rfl | rfl | rfl
  · exact ⟨c0, c1, rfl, (f0 ⟨by decide, by decide⟩).trans (congrArg alC (own_atK (by decide))), (f1 ⟨by decide, by decide⟩).trans (congrArg alC (own_atK (by decide)))⟩
  · exact ⟨c1, c2, rfl, (f1 ⟨by decide, by decide⟩).trans (congrArg alC (own_atK (by decide))), (f2 ⟨by decide, by decide⟩).trans (congrArg alC (own_atK (by decide)))⟩
  · exact ⟨c2, c3, rfl, (f2 ⟨by decide, by decide⟩).trans (congrArg alC (own_atK (by decide))), (f3 ⟨by decide, by decide⟩).trans (congrArg alC (own_atK (by decide)))⟩
  · exact ⟨c3, c4, rfl, (f3 ⟨by decide, by decide⟩).trans (congrArg alC (own_atK (by decide))), (f4 ⟨by decide, by decide⟩).trans (congrArg alC (own_atK (by decide)))⟩
theorem own_seg_3 {bits : Int64} {c0 c1 c2 c3 c4 c5 c6 c7 c8 c9 c10 c11 c12 c13 : Int32} {s : Nat} (hs : s ≤ 3) (f0 : (¬ (0 : Int32) < (Int32.ofNat s) ∧ (0 : Int32) < (Int32.ofNat s) + (3 : Int32) → c0 = alC (atK bits (0 : Int32) (Int32.ofNat s)))) (f1 : (¬ (1 : Int32) < (Int32.ofNat s) ∧ (1 : Int32) < (Int32.ofNat s) + (3 : Int32) → c1 = alC (atK bits (1 : Int32) (Int32.ofNat s)))) (f2 : (¬ (2 : Int32) < (Int32.ofNat s) ∧ (2 : Int32) < (Int32.ofNat s) + (3 : Int32) → c2 = alC (atK bits (2 : Int32) (Int32.ofNat s)))) (f3 : (¬ (3 : Int32) < (Int32.ofNat s) ∧ (3 : Int32) < (Int32.ofNat s) + (3 : Int32) → c3 = alC (atK bits (3 : Int32) (Int32.ofNat s)))) (f4 : (¬ (4 : Int32) < (Int32.ofNat s) ∧ (4 : Int32) < (Int32.ofNat s) + (3 : Int32) → c4 = alC (atK bits (4 : Int32) (Int32.ofNat s)))) (f5 : (¬ (5 : Int32) < (Int32.ofNat s) ∧ (5 : Int32) < (Int32.ofNat s) + (3 : Int32) → c5 = alC (atK bits (5 : Int32) (Int32.ofNat s)))) (f6 : (¬ (6 : Int32) < (Int32.ofNat s) ∧ (6 : Int32) < (Int32.ofNat s) + (3 : Int32) → c6 = alC (atK bits (6 : Int32) (Int32.ofNat s)))) (f7 : (¬ (7 : Int32) < (Int32.ofNat s) ∧ (7 : Int32) < (Int32.ofNat s) + (3 : Int32) → c7 = alC (atK bits (7 : Int32) (Int32.ofNat s)))) (f8 : (¬ (8 : Int32) < (Int32.ofNat s) ∧ (8 : Int32) < (Int32.ofNat s) + (3 : Int32) → c8 = alC (atK bits (8 : Int32) (Int32.ofNat s)))) (f9 : (¬ (9 : Int32) < (Int32.ofNat s) ∧ (9 : Int32) < (Int32.ofNat s) + (3 : Int32) → c9 = alC (atK bits (9 : Int32) (Int32.ofNat s)))) (f10 : (¬ (10 : Int32) < (Int32.ofNat s) ∧ (10 : Int32) < (Int32.ofNat s) + (3 : Int32) → c10 = alC (atK bits (10 : Int32) (Int32.ofNat s)))) (f11 : (¬ (11 : Int32) < (Int32.ofNat s) ∧ (11 : Int32) < (Int32.ofNat s) + (3 : Int32) → c11 = alC (atK bits (11 : Int32) (Int32.ofNat s)))) (f12 : (¬ (12 : Int32) < (Int32.ofNat s) ∧ (12 : Int32) < (Int32.ofNat s) + (3 : Int32) → c12 = alC (atK bits (12 : Int32) (Int32.ofNat s)))) (f13 : (¬ (13 : Int32) < (Int32.ofNat s) ∧ (13 : Int32) < (Int32.ofNat s) + (3 : Int32) → c13 = alC (atK bits (13 : Int32) (Int32.ofNat s)))) : ∃ d0 d1 d2 : Int32, (([c0, c1, c2, c3, c4, c5, c6, c7, c8, c9, c10, c11, c12, c13] : List Int32).drop s).take 3 = [d0, d1, d2] ∧ d0 = alC (six (N64 bits) 0) ∧ d1 = alC (six (N64 bits) 1) ∧ d2 = alC (six (N64 bits) 2) := by
  have q : s = 0 ∨ s = 1 ∨ s = 2 ∨ s = 3 := by omega
  rcases q with rfl | rfl | rfl | rfl
  · exact ⟨c0, c1, c2, rfl, (f0 ⟨by decide, by decide⟩).trans (congrArg alC (own_atK (by decide))), (f1 ⟨by decide, by decide⟩).trans (congrArg alC (own_atK (by decide))), (f2 ⟨by decide, by decide⟩).trans (congrArg alC (own_atK (by decide)))⟩
  · exact ⟨c1, c2, c3, rfl, (f1 ⟨by decide, by decide⟩).trans (congrArg alC (own_atK (by decide))), (f2 ⟨by decide, by decide⟩).trans (congrArg alC (own_atK (by decide))), (f3 ⟨by decide, by decide⟩).trans (congrArg alC (own_atK (by decide)))⟩
  · exact ⟨c2, c3, c4, rfl, (f2 ⟨by decide, by decide⟩).trans (congrArg alC (own_atK (by decide))), (f3 ⟨by decide, by decide⟩).trans (congrArg alC (own_atK (by decide))), (f4 ⟨by decide, by decide⟩).trans (congrArg alC (own_atK (by decide)))⟩
  · exact ⟨c3, c4, c5, rfl, (f3 ⟨by decide, by decide⟩).trans (congrArg alC (own_atK (by decide))), (f4 ⟨by decide, by decide⟩).trans (congrArg alC (own_atK (by decide))), (f5 ⟨by decide, by decide⟩).trans (congrArg alC (own_atK (by decide)))⟩
theorem own_seg_4 {bits : Int64} {c0 c1 c2 c3 c4 c5 c6 c7 c8 c9 c10 c11 c12 c13 : Int32} {s : Nat} (hs : s ≤ 3) (f0 : (¬ (0 : Int32) < (Int32.ofNat s) ∧ (0 : Int32) < (Int32.ofNat s) + (4 : Int32) → c0 = alC (atK bits (0 : Int32) (Int32.ofNat s)))) (f1 : (¬ (1 : Int32) < (Int32.ofNat s) ∧ (1 : Int32) < (Int32.ofNat s) + (4 : Int32) → c1 = alC (atK bits (1 : Int32) (Int32.ofNat s)))) (f2 : (¬ (2 : Int32) < (Int32.ofNat s) ∧ (2 : Int32) < (Int32.ofNat s) + (4 : Int32) → c2 = alC (atK bits (2 : Int32) (Int32.ofNat s)))) (f3 : (¬ (3 : Int32) < (Int32.ofNat s) ∧ (3 : Int32) < (Int32.ofNat s) + (4 : Int32) → c3 = alC (atK bits (3 : Int32) (Int32.ofNat s)))) (f4 : (¬ (4 : Int32) < (Int32.ofNat s) ∧ (4 : Int32) < (Int32.ofNat s) + (4 : Int32) → c4 = alC (atK bits (4 : Int32) (Int32.ofNat s)))) (f5 : (¬ (5 : Int32) < (Int32.ofNat s) ∧ (5 : Int32) < (Int32.ofNat s) + (4 : Int32) → c5 = alC (atK bits (5 : Int32) (Int32.ofNat s)))) (f6 : (¬ (6 : Int32) < (Int32.ofNat s) ∧ (6 : Int32) < (Int32.ofNat s) + (4 : Int32) → c6 = alC (atK bits (6 : Int32) (Int32.ofNat s)))) (f7 : (¬ (7 : Int32) < (Int32.ofNat s) ∧ (7 : Int32) < (Int32.ofNat s) + (4 : Int32) → c7 = alC (atK bits (7 : Int32) (Int32.ofNat s)))) (f8 : (¬ (8 : Int32) < (Int32.ofNat s) ∧ (8 : Int32) < (Int32.ofNat s) + (4 : Int32) → c8 = alC (atK bits (8 : Int32) (Int32.ofNat s)))) (f9 : (¬ (9 : Int32) < (Int32.ofNat s) ∧ (9 : Int32) < (Int32.ofNat s) + (4 : Int32) → c9 = alC (atK bits (9 : Int32) (Int32.ofNat s)))) (f10 : (¬ (10 : Int32) < (Int32.ofNat s) ∧ (10 : Int32) < (Int32.ofNat s) + (4 : Int32) → c10 = alC (atK bits (10 : Int32) (Int32.ofNat s)))) (f11 : (¬ (11 : Int32) < (Int32.ofNat s) ∧ (11 : Int32) < (Int32.ofNat s) + (4 : Int32) → c11 = alC (atK bits (11 : Int32) (Int32.ofNat s)))) (f12 : (¬ (12 : Int32) < (Int32.ofNat s) ∧ (12 : Int32) < (Int32.ofNat s) + (4 : Int32) → c12 = alC (atK bits (12 : Int32) (Int32.ofNat s)))) (f13 : (¬ (13 : Int32) < (Int32.ofNat s) ∧ (13 : Int32) < (Int32.ofNat s) + (4 : Int32) → c13 = alC (atK bits (13 : Int32) (Int32.ofNat s)))) : ∃ d0 d1 d2 d3 : Int32, (([c0, c1, c2, c3, c4, c5, c6, c7, c8, c9, c10, c11, c12, c13] : List Int32).drop s).take 4 = [d0, d1, d2, d3] ∧ d0 = alC (six (N64 bits) 0) ∧ d1 = alC (six (N64 bits) 1) ∧ d2 = alC (six (N64 bits) 2) ∧ d3 = alC (six (N64 bits) 3) := by
  have q : s = 0 ∨ s = 1 ∨ s = 2 ∨ s = 3 := by omega
  rcases q with rfl | rfl | rfl | rfl
  · exact ⟨c0, c1, c2, c3, rfl, (f0 ⟨by decide, by decide⟩).trans (congrArg alC (own_atK (by decide))), (f1 ⟨by decide, by decide⟩).trans (congrArg alC (own_atK (by decide))), (f2 ⟨by decide, by decide⟩).trans (congrArg alC (own_atK (by decide))), (f3 ⟨by decide, by decide⟩).trans (congrArg alC (own_atK (by decide)))⟩
  · exact ⟨c1, c2, c3, c4, rfl, (f1 ⟨by decide, by decide⟩).trans (congrArg alC (own_atK (by decide))), (f2 ⟨by decide, by decide⟩).trans (congrArg alC (own_atK (by decide))), (f3 ⟨by decide, by decide⟩).trans (congrArg alC (own_atK (by decide))), (f4 ⟨by decide, by decide⟩).trans (congrArg alC (own_atK (by decide)))⟩
  · exact ⟨c2, c3, c4, c5, rfl, (f2 ⟨by decide, by decide⟩).trans (congrArg alC (own_atK (by decide))), (f3 ⟨by decide, by decide⟩).trans (congrArg alC (own_atK (by decide))), (f4 ⟨by decide, by decide⟩).trans (congrArg alC (own_atK (by decide))), (f5 ⟨by decide, by decide⟩).trans (congrArg alC (own_atK (by decide)))⟩
  · exact ⟨c3, c4, c5, c6, rfl, (f3 ⟨by decide, by decide⟩).trans (congrArg alC (own_atK (by decide))), (f4 ⟨by decide, by decide⟩).trans (congrArg alC (own_atK (by decide))), (f5 ⟨by decide, by decide⟩).trans (congrArg alC (own_atK (by decide))), (f6 ⟨by decide, by decide⟩).trans (congrArg alC (own_atK (by decide)))⟩
theorem own_seg_6 {bits : Int64} {c0 c1 c2 c3 c4 c5 c6 c7 c8 c9 c10 c11 c12 c13 : Int32} {s : Nat} (hs : s ≤ 3) (f0 : (¬ (0 : Int32) < (Int32.ofNat s) ∧ (0 : Int32) < (Int32.ofNat s) + (6 : Int32) → c0 = alC (atK bits (0 : Int32) (Int32.ofNat s)))) (f1 : (¬ (1 : Int32) < (Int32.ofNat s) ∧ (1 : Int32) < (Int32.ofNat s) + (6 : Int32) → c1 = alC (atK bits (1 : Int32) (Int32.ofNat s)))) (f2 : (¬ (2 : Int32) < (Int32.ofNat s) ∧ (2 : Int32) < (Int32.ofNat s) + (6 : Int32) → c2 = alC (atK bits (2 : Int32) (Int32.ofNat s)))) (f3 : (¬ (3 : Int32) < (Int32.ofNat s) ∧ (3 : Int32) < (Int32.ofNat s) + (6 : Int32) → c3 = alC (atK bits (3 : Int32) (Int32.ofNat s)))) (f4 : (¬ (4 : Int32) < (Int32.ofNat s) ∧ (4 : Int32) < (Int32.ofNat s) + (6 : Int32) → c4 = alC (atK bits (4 : Int32) (Int32.ofNat s)))) (f5 : (¬ (5 : Int32) < (Int32.ofNat s) ∧ (5 : Int32) < (Int32.ofNat s) + (6 : Int32) → c5 = alC (atK bits (5 : Int32) (Int32.ofNat s)))) (f6 : (¬ (6 : Int32) < (Int32.ofNat s) ∧ (6 : Int32) < (Int32.ofNat s) + (6 : Int32) → c6 = alC (atK bits (6 : Int32) (Int32.ofNat s)))) (f7 : (¬ (7 : Int32) < (Int32.ofNat s) ∧ (7 : Int32) < (Int32.ofNat s) + (6 : Int32) → c7 = alC (atK bits (7 : Int32) (Int32.ofNat s)))) (f8 : (¬ (8 : Int32) < (Int32.ofNat s) ∧ (8 : Int32) < (Int32.ofNat s) + (6 : Int32) → c8 = alC (atK bits (8 : Int32) (Int32.ofNat s)))) (f9 : (¬ (9 : Int32) < (Int32.ofNat s) ∧ (9 : Int32) < (Int32.ofNat s) + (6 : Int32) → c9 = alC (atK bits (9 : Int32) (Int32.ofNat s)))) (f10 : (¬ (10 : Int32) < (Int32.ofNat s) ∧ (10 : Int32) < (Int32.ofNat s) + (6 : Int32) → c10 = alC (atK bits (10 : Int32) (Int32.ofNat s)))) (f11 : (¬ (11 : Int32) < (Int32.ofNat s) ∧ (11 : Int32) < (Int32.ofNat s) + (6 : Int32) → c11 = alC (atK bits (11 : Int32) (Int32.ofNat s)))) (f12 : (¬ (12 : Int32) < (Int32.ofNat s) ∧ (12 : Int32) < (Int32.ofNat s) + (6 : Int32) → c12 = alC (atK bits (12 : Int32) (Int32.ofNat s)))) (f13 : (¬ (13 : Int32) < (Int32.ofNat s) ∧ (13 : Int32) < (Int32.ofNat s) + (6 : Int32) → c13 = alC (atK bits (13 : Int32) (Int32.ofNat s)))) : ∃ d0 d1 d2 d3 d4 d5 : Int32, (([c0, c1, c2, c3, c4, c5, c6, c7, c8, c9, c10, c11, c12, c13] : List Int32).drop s).take 6 = [d0, d1, d2, d3, d4, d5] ∧ d0 = alC (six (N64 bits) 0) ∧ d1 = alC (six (N64 bits) 1) ∧ d2 = alC (six (N64 bits) 2) ∧ d3 = alC (six (N64 bits) 3) ∧ d4 = alC (six (N64 bits) 4) ∧ d5 = alC (six (N64 bits) 5) := by
  have q : s = 0 ∨ s = 1 ∨ s = 2 ∨ s = 3 := by omega
  rcases q with rfl | rfl | rfl | rfl
  · exact ⟨c0, c1, c2, c3, c4, c5, rfl, (f0 ⟨by decide, by decide⟩).trans (congrArg alC (own_atK (by decide))), (f1 ⟨by decide, by decide⟩).trans (congrArg alC (own_atK (by decide))), (f2 ⟨by decide, by decide⟩).trans (congrArg alC (own_atK (by decide))), (f3 ⟨by decide, by decide⟩).trans (congrArg alC (own_atK (by decide))), (f4 ⟨by decide, by decide⟩).trans (congrArg alC (own_atK (by decide))), (f5 ⟨by decide, by decide⟩).trans (congrArg alC (own_atK (by decide)))⟩
  · exact ⟨c1, c2, c3, c4, c5, c6, rfl, (f1 ⟨by decide, by decide⟩).trans (congrArg alC (own_atK (by decide))), (f2 ⟨by decide, by decide⟩).trans (congrArg alC (own_atK (by decide))), (f3 ⟨by decide, by decide⟩).trans (congrArg alC (own_atK (by decide))), (f4 ⟨by decide, by decide⟩).trans (congrArg alC (own_atK (by decide))), (f5 ⟨by decide, by decide⟩).trans (congrArg alC (own_atK (by decide))), (f6 ⟨by decide, by decide⟩).trans (congrArg alC (own_atK (by decide)))⟩
  · exact ⟨c2, c3, c4, c5, c6, c7, rfl, (f2 ⟨by decide, by decide⟩).trans (congrArg alC (own_atK (by decide))), (f3 ⟨by decide, by decide⟩).trans (congrArg alC (own_atK (by decide))), (f4 ⟨by decide, by decide⟩).trans (congrArg alC (own_atK (by decide))), (f5 ⟨by decide, by decide⟩).trans (congrArg alC (own_atK (by decide))), (f6 ⟨by decide, by decide⟩).trans (congrArg alC (own_atK (by decide))), (f7 ⟨by decide, by decide⟩).trans (congrArg alC (own_atK (by decide)))⟩
  · exact ⟨c3, c4, c5, c6, c7, c8, rfl, (f3 ⟨by decide, by decide⟩).trans (congrArg alC (own_atK (by decide))), (f4 ⟨by decide, by decide⟩).trans (congrArg alC (own_atK (by decide))), (f5 ⟨by decide, by decide⟩).trans (congrArg alC (own_atK (by decide))), (f6 ⟨by decide, by decide⟩).trans (congrArg alC (own_atK (by decide))), (f7 ⟨by decide, by decide⟩).trans (congrArg alC (own_atK (by decide))), (f8 ⟨by decide, by decide⟩).trans (congrArg alC (own_atK (by decide)))⟩
theorem own_seg_7 {bits : Int64} {c0 c1 c2 c3 c4 c5 c6 c7 c8 c9 c10 c11 c12 c13 : Int32} {s : Nat} (hs : s ≤ 3) (f0 : (¬ (0 : Int32) < (Int32.ofNat s) ∧ (0 : Int32) < (Int32.ofNat s) + (7 : Int32) → c0 = alC (atK bits (0 : Int32) (Int32.ofNat s)))) (f1 : (¬ (1 : Int32) < (Int32.ofNat s) ∧ (1 : Int32) < (Int32.ofNat s) + (7 : Int32) → c1 = alC (atK bits (1 : Int32) (Int32.ofNat s)))) (f2 : (¬ (2 : Int32) < (Int32.ofNat s) ∧ (2 : Int32) < (Int32.ofNat s) + (7 : Int32) → c2 = alC (atK bits (2 : Int32) (Int32.ofNat s)))) (f3 : (¬ (3 : Int32) < (Int32.ofNat s) ∧ (3 : Int32) < (Int32.ofNat s) + (7 : Int32) → c3 = alC (atK bits (3 : Int32) (Int32.ofNat s)))) (f4 : (¬ (4 : Int32) < (Int32.ofNat s) ∧ (4 : Int32) < (Int32.ofNat s) + (7 : Int32) → c4 = alC (atK bits (4 : Int32) (Int32.ofNat s)))) (f5 : (¬ (5 : Int32) < (Int32.ofNat s) ∧ (5 : Int32) < (Int32.ofNat s) + (7 : Int32) → c5 = alC (atK bits (5 : Int32) (Int32.ofNat s)))) (f6 : (¬ (6 : Int32) < (Int32.ofNat s) ∧ (6 : Int32) < (Int32.ofNat s) + (7 : Int32) → c6 = alC (atK bits (6 : Int32) (Int32.ofNat s)))) (f7 : (¬ (7 : Int32) < (Int32.ofNat s) ∧ (7 : Int32) < (Int32.ofNat s) + (7 : Int32) → c7 = alC (atK bits (7 : Int32) (Int32.ofNat s)))) (f8 : (¬ (8 : Int32) < (Int32.ofNat s) ∧ (8 : Int32) < (Int32.ofNat s) + (7 : Int32) → c8 = alC (atK bits (8 : Int32) (Int32.ofNat s)))) (f9 : (¬ (9 : Int32) < (Int32.ofNat s) ∧ (9 : Int32) < (Int32.ofNat s) + (7 : Int32) → c9 = alC (atK bits (9 : Int32) (Int32.ofNat s)))) (f10 : (¬ (10 : Int32) < (Int32.ofNat s) ∧ (10 : Int32) < (Int32.ofNat s) + (7 : Int32) → c10 = alC (atK bits (10 : Int32) (Int32.ofNat s)))) (f11 : (¬ (11 : Int32) < (Int32.ofNat s) ∧ (11 : Int32) < (Int32.ofNat s) + (7 : Int32) → c11 = alC (atK bits (11 : Int32) (Int32.ofNat s)))) (f12 : (¬ (12 : Int32) < (Int32.ofNat s) ∧ (12 : Int32) < (Int32.ofNat s) + (7 : Int32) → c12 = alC (atK bits (12 : Int32) (Int32.ofNat s)))) (f13 : (¬ (13 : Int32) < (Int32.ofNat s) ∧ (13 : Int32) < (Int32.ofNat s) + (7 : Int32) → c13 = alC (atK bits (13 : Int32) (Int32.ofNat s)))) : ∃ d0 d1 d2 d3 d4 d5 d6 : Int32, (([c0, c1, c2, c3, c4, c5, c6, c7, c8, c9, c10, c11, c12, c13] : List Int32).drop s).take 7 = [d0, d1, d2, d3, d4, d5, d6] ∧ d0 = alC (six (N64 bits) 0) ∧ d1 = alC (six (N64 bits) 1) ∧ d2 = alC (six (N64 bits) 2) ∧ d3 = alC (six (N64 bits) 3) ∧ d4 = alC (six (N64 bits) 4) ∧ d5 = alC (six (N64 bits) 5) ∧ d6 = alC (six (N64 bits) 6) := by
  have q : s = 0 ∨ s = 1 ∨ s = 2 ∨ s = 3 := by omega
  rcases q with rfl | rfl | rfl | rfl
  · exact ⟨c0, c1, c2, c3, c4, c5, c6, rfl, (f0 ⟨by decide, by decide⟩).trans (congrArg alC (own_atK (by decide))), (f1 ⟨by decide, by decide⟩).trans (congrArg alC (own_atK (by decide))), (f2 ⟨by decide, by decide⟩).trans (congrArg alC (own_atK (by decide))), (f3 ⟨by decide, by decide⟩).trans (congrArg alC (own_atK (by decide))), (f4 ⟨by decide, by decide⟩).trans (congrArg alC (own_atK (by decide))), (f5 ⟨by decide, by decide⟩).trans (congrArg alC (own_atK (by decide))), (f6 ⟨by decide, by decide⟩).trans (congrArg alC (own_atK (by decide)))⟩
  · exact ⟨c1, c2, c3, c4, c5, c6, c7, rfl, (f1 ⟨by decide, by decide⟩).trans (congrArg alC (own_atK (by decide))), (f2 ⟨by decide, by decide⟩).trans (congrArg alC (own_atK (by decide))), (f3 ⟨by decide, by decide⟩).trans (congrArg alC (own_atK (by decide))), (f4 ⟨by decide, by decide⟩).trans (congrArg alC (own_atK (by decide))), (f5 ⟨by decide, by decide⟩).trans (congrArg alC (own_atK (by decide))), (f6 ⟨by decide, by decide⟩).trans (congrArg alC (own_atK (by decide))), (f7 ⟨by decide, by decide⟩).trans (congrArg alC (own_atK (by decide)))⟩
  · exact ⟨c2, c3, c4, c5, c6, c7, c8, rfl, (f2 ⟨by decide, by decide⟩).trans (congrArg alC (own_atK (by decide))), (f3 ⟨by decide, by decide⟩).trans (congrArg alC (own_atK (by decide))), (f4 ⟨by decide, by decide⟩).trans (congrArg alC (own_atK (by decide))), (f5 ⟨by decide, by decide⟩).trans (congrArg alC (own_atK (by decide))), (f6 ⟨by decide, by decide⟩).trans (congrArg alC (own_atK (by decide))), (f7 ⟨by decide, by decide⟩).trans (congrArg alC (own_atK (by decide))), (f8 ⟨by decide, by decide⟩).trans (congrArg alC (own_atK (by decide)))⟩
  · exact ⟨c3, c4, c5, c6, c7, c8, c9, rfl, (f3 ⟨by decide, by decide⟩).trans (congrArg alC (own_atK (by decide))), (f4 ⟨by decide, by decide⟩).trans (congrArg alC (own_atK (by decide))), (f5 ⟨by decide, by decide⟩).trans (congrArg alC (own_atK (by decide))), (f6 ⟨by decide, by decide⟩).trans (congrArg alC (own_atK (by decide))), (f7 ⟨by decide, by decide⟩).trans (congrArg alC (own_atK (by decide))), (f8 ⟨by decide, by decide⟩).trans (congrArg alC (own_atK (by decide))), (f9 ⟨by decide, by decide⟩).trans (congrArg alC (own_atK (by decide)))⟩
theorem own_seg_8 {bits : Int64} {c0 c1 c2 c3 c4 c5 c6 c7 c8 c9 c10 c11 c12 c13 : Int32} {s : Nat} (hs : s ≤ 3) (f0 : (¬ (0 : Int32) < (Int32.ofNat s) ∧ (0 : Int32) < (Int32.ofNat s) + (8 : Int32) → c0 = alC (atK bits (0 : Int32) (Int32.ofNat s)))) (f1 : (¬ (1 : Int32) < (Int32.ofNat s) ∧ (1 : Int32) < (Int32.ofNat s) + (8 : Int32) → c1 = alC (atK bits (1 : Int32) (Int32.ofNat s)))) (f2 : (¬ (2 : Int32) < (Int32.ofNat s) ∧ (2 : Int32) < (Int32.ofNat s) + (8 : Int32) → c2 = alC (atK bits (2 : Int32) (Int32.ofNat s)))) (f3 : (¬ (3 : Int32) < (Int32.ofNat s) ∧ (3 : Int32) < (Int32.ofNat s) + (8 : Int32) → c3 = alC (atK bits (3 : Int32) (Int32.ofNat s)))) (f4 : (¬ (4 : Int32) < (Int32.ofNat s) ∧ (4 : Int32) < (Int32.ofNat s) + (8 : Int32) → c4 = alC (atK bits (4 : Int32) (Int32.ofNat s)))) (f5 : (¬ (5 : Int32) < (Int32.ofNat s) ∧ (5 : Int32) < (Int32.ofNat s) + (8 : Int32) → c5 = alC (atK bits (5 : Int32) (Int32.ofNat s)))) (f6 : (¬ (6 : Int32) < (Int32.ofNat s) ∧ (6 : Int32) < (Int32.ofNat s) + (8 : Int32) → c6 = alC (atK bits (6 : Int32) (Int32.ofNat s)))) (f7 : (¬ (7 : Int32) < (Int32.ofNat s) ∧ (7 : Int32) < (Int32.ofNat s) + (8 : Int32) → c7 = alC (atK bits (7 : Int32) (Int32.ofNat s)))) (f8 : (¬ (8 : Int32) < (Int32.ofNat s) ∧ (8 : Int32) < (Int32.ofNat s) + (8 : Int32) → c8 = alC (atK bits (8 : Int32) (Int32.ofNat s)))) (f9 : (¬ (9 : Int32) < (Int32.ofNat s) ∧ (9 : Int32) < (Int32.ofNat s) + (8 : Int32) → c9 = alC (atK bits (9 : Int32) (Int32.ofNat s)))) (f10 : (¬ (10 : Int32) < (Int32.ofNat s) ∧ (10 : Int32) < (Int32.ofNat s) + (8 : Int32) → c10 = alC (atK bits (10 : Int32) (Int32.ofNat s)))) (f11 : (¬ (11 : Int32) < (Int32.ofNat s) ∧ (11 : Int32) < (Int32.ofNat s) + (8 : Int32) → c11 = alC (atK bits (11 : Int32) (Int32.ofNat s)))) (f12 : (¬ (12 : Int32) < (Int32.ofNat s) ∧ (12 : Int32) < (Int32.ofNat s) + (8 : Int32) → c12 = alC (atK bits (12 : Int32) (Int32.ofNat s)))) (f13 : (¬ (13 : Int32) < (Int32.ofNat s) ∧ (13 : Int32) < (Int32.ofNat s) + (8 : Int32) → c13 = alC (atK bits (13 : Int32) (Int32.ofNat s)))) : ∃ d0 d1 d2 d3 d4 d5 d6 d7 : Int32, (([c0, c1, c2, c3, c4, c5, c6, c7, c8, c9, c10, c11, c12, c13] : List Int32).drop s).take 8 = [d0, d1, d2, d3, d4, d5, d6, d7] ∧ d0 = alC (six (N64 bits) 0) ∧ d1 = alC (six (N64 bits) 1) ∧ d2 = alC (six (N64 bits) 2) ∧ d3 = alC (six (N64 bits) 3) ∧ d4 = alC (six (N64 bits) 4) ∧ d5 = alC (six (N64 bits) 5) ∧ d6 = alC (six (N64 bits) 6) ∧ d7 = alC (six (N64 bits) 7) := by
  have q : s = 0 ∨ s = 1 ∨ s = 2 ∨ s = 3 := by omega
  rcases q with rfl | rfl | rfl | rfl
  · exact ⟨c0, c1, c2, c3, c4, c5, c6, c7, rfl, (f0 ⟨by decide, by decide⟩).trans (congrArg alC (own_atK (by decide))), (f1 ⟨by decide, by decide⟩).trans (congrArg alC (own_atK (by decide))), (f2 ⟨by decide, by decide⟩).trans (congrArg alC (own_atK (by decide))), (f3 ⟨by decide, by decide⟩).trans (congrArg alC (own_atK (by decide))), (f4 ⟨by decide, by decide⟩).trans (congrArg alC (own_atK (by decide))), (f5 ⟨by decide, by decide⟩).trans (congrArg alC (own_atK (by decide))), (f6 ⟨by decide, by decide⟩).trans (congrArg alC (own_atK (by decide))), (f7 ⟨by decide, by decide⟩).trans (congrArg alC (own_atK (by decide)))⟩
  · exact ⟨c1, c2, c3, c4, c5, c6, c7, c8, rfl, (f1 ⟨by decide, by decide⟩).trans (congrArg alC (own_atK (by decide))), (f2 ⟨by decide, by decide⟩).trans (congrArg alC (own_atK (by decide))), (f3 ⟨by decide, by decide⟩).trans (congrArg alC (own_atK (by decide))), (f4 ⟨by decide, by decide⟩).trans (congrArg alC (own_atK (by decide))), (f5 ⟨by decide, by decide⟩).trans (congrArg alC (own_atK (by decide))), (f6 ⟨by decide, by decide⟩).trans (congrArg alC (own_atK (by decide))), (f7 ⟨by decide, by decide⟩).trans (congrArg alC (own_atK (by decide))), (f8 ⟨by decide, by decide⟩).trans (congrArg alC (own_atK (by decide)))⟩
  · exact ⟨c2, c3, c4, c5, c6, c7, c8, c9, rfl, (f2 ⟨by decide, by decide⟩).trans (congrArg alC (own_atK (by decide))), (f3 ⟨by decide, by decide⟩).trans (congrArg alC (own_atK (by decide))), (f4 ⟨by decide, by decide⟩).trans (congrArg alC (own_atK (by decide))), (f5 ⟨by decide, by decide⟩).trans (congrArg alC (own_atK (by decide))), (f6 ⟨by decide, by decide⟩).trans (congrArg alC (own_atK (by decide))), (f7 ⟨by decide, by decide⟩).trans (congrArg alC (own_atK (by decide))), (f8 ⟨by decide, by decide⟩).trans (congrArg alC (own_atK (by decide))), (f9 ⟨by decide, by decide⟩).trans (congrArg alC (own_atK (by decide)))⟩
  · exact ⟨c3, c4, c5, c6, c7, c8, c9, c10, rfl, (f3 ⟨by decide, by decide⟩).trans (congrArg alC (own_atK (by decide))), (f4 ⟨by decide, by decide⟩).trans (congrArg alC (own_atK (by decide))), (f5 ⟨by decide, by decide⟩).trans (congrArg alC (own_atK (by decide))), (f6 ⟨by decide, by decide⟩).trans (congrArg alC (own_atK (by decide))), (f7 ⟨by decide, by decide⟩).trans (congrArg alC (own_atK (by decide))), (f8 ⟨by decide, by decide⟩).trans (congrArg alC (own_atK (by decide))), (f9 ⟨by decide, by decide⟩).trans (congrArg alC (own_atK (by decide))), (f10 ⟨by decide, by decide⟩).trans (congrArg alC (own_atK (by decide)))⟩
def BS (Z : State) (aD aT aI aU : Addr) : Prop := Sta Z Z.heap "com/example/scopegate/scopegate/token/Base64Url" "DECODER" "Ljava/util/Base64$Decoder;" (.ref aD) ∧ Sta Z Z.heap "java/util/Base64$Decoder" "fromBase64URL" "[I" (.ref aT) ∧ Sta Z Z.heap "sun/nio/cs/ISO_8859_1" "INSTANCE" "Lsun/nio/cs/ISO_8859_1;" (.ref aI) ∧ Sta Z Z.heap "sun/nio/cs/UTF_8" "INSTANCE" "Lsun/nio/cs/UTF_8;" (.ref aU) ∧ Exa Z Z.heap aD "java/util/Base64$Decoder" ∧ Fld Z Z.heap aD "java/util/Base64$Decoder" "isURL" "Z" (.int 1) ∧ Fld Z Z.heap aD "java/util/Base64$Decoder" "isMIME" "Z" (.int 0) ∧ Wk.Ary Z Z.heap aT .int (tabL.map Value.int) ∧ Exa Z Z.heap aI "sun/nio/cs/ISO_8859_1" ∧ aI ≠ aU
set_option maxRecDepth 65536 in
set_option maxHeartbeats 40000000 in
theorem own_clone (l : Launch) {Z : State} {a0 : Array Value} (hw : Ws a0 Z) {h0 : Heap} (O0 : Ext Z.heap h0) (t : Addr) (vs : List Value) (V : Wk.Ary Z h0 t .byte vs) (hv8 : vs.length ≤ 8) (E : Exa Z h0 t "[B") :
    Wk.Con l Z (⟨"java/lang/String", "encode8859_1", "(B[BZ)[B"⟩ : MethodName) jdk_42_method_27_code 10 (some (.array .byte)) ({ frames := 1, cells := 1, slots := 8, locals := 14 } : Room) #[(.int (0 : Int32)), (.ref t), (.int (1 : Int32))] h0 (fun v h' => ∃ b : Addr, v = some (.ref b) ∧ b = h0.size ∧ Ext h0 h' ∧ Wk.Ary Z h' b .byte vs) := by
  refine Wk.Con.intro (plainFor_of_name pn0) O0 (fun m => ef0 m t) ?_
  intro W C
  replace C : Wk.Cx Z W "java/lang/String" "encode8859_1" jdk_42_method_27_code 10 (some (.array .byte)) := C
  refine Wk.iloadN (pc' := 1) C d_jdk_42m27_0 rfl rfl ?_
  refine Wk.if_ne C d_jdk_42m27_1 (by decide) (pcT := 12) (by decide) (pc' := 4) rfl (fun q => absurd q (by decide)) (fun q11 => ?_)
  refine Wk.aloadN (pc' := 5) C d_jdk_42m27_4 rfl rfl rfl ?_
  refine Wk.cloneC (pc' := 8) C d_jdk_42m27_5 V E (w104 hw) (w105 hw) (w109 hw) (w107 hw) (w108 hw) (w110 hw) rfl (by decide) (Wn := 0) (Nat.le_of_eq rfl) (by decide) (k' := 1) rfl (cap := 8) hv8 (n' := 8) rfl (by decide) (by decide) rfl ?_
  intro a12 h13 ga12 za12 E13 Va12 Aa12 O13
  refine Wk.castY (pc' := 11) C d_jdk_42m27_8 (w111 hw) (Ins.self Aa12) rfl ?_
  exact Wk.retA C rfl rfl d_jdk_42m27_11 (by decide) (by decide) ⟨_, rfl, ga12, E13, Va12⟩
set_option maxRecDepth 65536 in
set_option maxHeartbeats 40000000 in
theorem own_enc1 (l : Launch) {Z : State} {a0 : Array Value} (hw : Ws a0 Z) {h0 : Heap} (O0 : Ext Z.heap h0) (t : Addr) (vs : List Value) (V : Wk.Ary Z h0 t .byte vs) (hv8 : vs.length ≤ 8) (E : Exa Z h0 t "[B") :
    Wk.Con l Z (⟨"java/lang/String", "encode8859_1", "(B[B)[B"⟩ : MethodName) jdk_42_method_26_code 2 (some (.array .byte)) ({ frames := 2, cells := 1, slots := 8, locals := 35 } : Room) #[(.int (0 : Int32)), (.ref t)] h0 (fun v h' => ∃ b : Addr, v = some (.ref b) ∧ b = h0.size ∧ Ext h0 h' ∧ Wk.Ary Z h' b .byte vs) := by
  refine Wk.Con.intro (plainFor_of_name pn0) O0 (fun m => ef1 m t) ?_
  intro W C
  replace C : Wk.Cx Z W "java/lang/String" "encode8859_1" jdk_42_method_26_code 2 (some (.array .byte)) := C
  refine Wk.iloadN (pc' := 1) C d_jdk_42m26_0 rfl rfl ?_
  refine Wk.aloadN (pc' := 2) C d_jdk_42m26_1 rfl rfl rfl ?_
  refine Wk.iconst (pc' := 3) C d_jdk_42m26_2 (v := (1 : Int32)) rfl rfl ?_
  refine Wk.callS (pc' := 6) C d_jdk_42m26_3 (Wk.Con.pays C (Wn := 0) (own_clone l hw O0 t vs V hv8 E) (w103 hw) (w11 hw) (by decide) (by decide)) Wk.cleanC (w101 hw) (w102 hw) (w11 hw) (w103 hw) (by decide) (argsL := [(.int (0 : Int32)), (.ref t), (.int (1 : Int32))]) (st := []) rfl rfl (lenOf pd0 rfl) rfl (Nat.le_of_eq rfl) (k' := 1) rfl (n' := 8) rfl (by decide) (by decide) rfl ?_
  intro r11 h12 Q12 O12
  obtain ⟨b13, rfl, gb13, E12, V12⟩ := Q12
  exact Wk.retA C rfl rfl d_jdk_42m26_6 (by decide) (by decide) ⟨_, rfl, gb13, E12, V12⟩
set_option maxRecDepth 65536 in
set_option maxHeartbeats 40000000 in
theorem own_encode (l : Launch) {Z : State} {a0 : Array Value} (hw : Ws a0 Z) {h0 : Heap} (O0 : Ext Z.heap h0) {aD aT aI aU : Addr} (bs : BS Z aD aT aI aU) (t : Addr) (vs : List Value) (V : Wk.Ary Z h0 t .byte vs) (hv8 : vs.length ≤ 8) (E : Exa Z h0 t "[B") :
    Wk.Con l Z (⟨"java/lang/String", "encode", "(Ljava/nio/charset/Charset;B[B)[B"⟩ : MethodName) jdk_42_method_18_code 3 (some (.array .byte)) ({ frames := 3, cells := 1, slots := 8, locals := 48 } : Room) #[(.ref aI), (.int (0 : Int32)), (.ref t)] h0 (fun v h' => ∃ b : Addr, v = some (.ref b) ∧ b = h0.size ∧ Ext h0 h' ∧ Wk.Ary Z h' b .byte vs) := by
  refine Wk.Con.intro (plainFor_of_name pn0) O0 (fun m => ef2 m aI t) ?_
  intro W C
  replace C : Wk.Cx Z W "java/lang/String" "encode" jdk_42_method_18_code 3 (some (.array .byte)) := C
  refine Wk.aloadN (pc' := 1) C d_jdk_42m18_0 rfl rfl rfl ?_
  refine Wk.getS (pc' := 4) C d_jdk_42m18_1 (w95 hw) Via.refl (bs.2.2.2.1.ext O0) rfl ?_
  refine Wk.acmp_ne C d_jdk_42m18_4 rfl rfl (by decide) (pcT := 14) (by decide) (pc' := 7) rfl (fun q11 => ?_) (fun q => absurd (Value.ref.inj q) bs.2.2.2.2.2.2.2.2.2)
  refine Wk.aloadN (pc' := 15) C d_jdk_42m18_14 rfl rfl rfl ?_
  refine Wk.getS (pc' := 18) C d_jdk_42m18_15 (w97 hw) Via.refl (bs.2.2.1.ext O0) rfl ?_
  refine Wk.acmp_ne C d_jdk_42m18_18 rfl rfl (by decide) (pcT := 27) (by decide) (pc' := 21) rfl (fun q => absurd rfl q) (fun q12 => ?_)
  refine Wk.iloadN (pc' := 22) C d_jdk_42m18_21 rfl rfl ?_
  refine Wk.aloadN (pc' := 23) C d_jdk_42m18_22 rfl rfl rfl ?_
  refine Wk.callS (pc' := 26) C d_jdk_42m18_23 (Wk.Con.pays C (Wn := 0) (own_enc1 l hw O0 t vs V hv8 E) (w100 hw) (w11 hw) (by decide) (by decide)) Wk.cleanC (w98 hw) (w99 hw) (w11 hw) (w100 hw) (by decide) (argsL := [(.int (0 : Int32)), (.ref t)]) (st := []) rfl rfl (lenOf pd1 rfl) rfl (Nat.le_of_eq rfl) (k' := 1) rfl (n' := 8) rfl (by decide) (by decide) rfl ?_
  intro r13 h14 Q14 O14
  obtain ⟨b15, rfl, gb15, E14, V14⟩ := Q14
  exact Wk.retA C rfl rfl d_jdk_42m18_26 (by decide) (by decide) ⟨_, rfl, gb15, E14, V14⟩
set_option maxRecDepth 65536 in
set_option maxHeartbeats 40000000 in
theorem own_coder (l : Launch) {Z : State} {a0 : Array Value} (hw : Ws a0 Z) {h0 : Heap} (O0 : Ext Z.heap h0) (hs : Sets Z) (x : Addr) (ds : List Int32) (F : Str Z h0 x ds) :
    Wk.Con l Z (⟨"java/lang/String", "coder", "()B"⟩ : MethodName) jdk_42_method_152_code 1 (some .byte) ({ frames := 0, cells := 0, slots := 0, locals := 0 } : Room) #[(.ref x)] h0 (fun v h' => v = some (.int 0) ∧ h' = h0) := by
  refine Wk.Con.intro (plainFor_of_name pn0) O0 (fun m => ef3 m x) ?_
  intro W C
  replace C : Wk.Cx Z W "java/lang/String" "coder" jdk_42_method_152_code 1 (some .byte) := C
  obtain ⟨zc, fm, SC, hzc, -, -⟩ := hs
  refine Wk.getS (pc' := 3) C d_jdk_42m152_0 (w22 hw) Via.refl (SC.ext O0) rfl ?_
  refine Wk.if_eq C d_jdk_42m152_3 (by decide) (pcT := 13) (by decide) (pc' := 6) rfl (fun q => absurd q hzc) (fun q11 => ?_)
  refine Wk.aloadN (pc' := 7) C d_jdk_42m152_6 rfl rfl rfl ?_
  refine Wk.getF (pc' := 10) C d_jdk_42m152_7 (w34 hw) Via.refl F.2.1 rfl ?_
  refine Wk.goto C d_jdk_42m152_10 (by decide) (pc' := 14) (by decide) ?_
  exact Wk.retNar (ty := .byte) C (by simp) d_jdk_42m152_14 rfl (by decide) (by decide) ⟨rfl, rfl⟩
set_option maxRecDepth 65536 in
set_option maxHeartbeats 40000000 in
theorem own_getB (l : Launch) {Z : State} {a0 : Array Value} (hw : Ws a0 Z) {h0 : Heap} (O0 : Ext Z.heap h0) (hs : Sets Z) {aD aT aI aU : Addr} (bs : BS Z aD aT aI aU) (x t : Addr) (ds : List Int32) (vs : List Value) (F : Str Z h0 x ds) (F1 : Fld Z h0 x "java/lang/String" "value" "[B" (.ref t)) (V : Wk.Ary Z h0 t .byte vs) (hv8 : vs.length ≤ 8) (E : Exa Z h0 t "[B") :
    Wk.Con l Z (⟨"java/lang/String", "getBytes", "(Ljava/nio/charset/Charset;)[B"⟩ : MethodName) jdk_42_method_64_code 2 (some (.array .byte)) ({ frames := 4, cells := 1, slots := 8, locals := 64 } : Room) #[(.ref x), (.ref aI)] h0 (fun v h' => ∃ b : Addr, v = some (.ref b) ∧ b = h0.size ∧ Ext h0 h' ∧ Wk.Ary Z h' b .byte vs) := by
  refine Wk.Con.intro (plainFor_of_name pn0) O0 (fun m => ef4 m x aI) ?_
  intro W C
  replace C : Wk.Cx Z W "java/lang/String" "getBytes" jdk_42_method_64_code 2 (some (.array .byte)) := C
  refine Wk.aloadN (pc' := 1) C d_jdk_42m64_0 rfl rfl rfl ?_
  refine Wk.ifnonnullY C d_jdk_42m64_1 (by decide) (pc' := 12) (by decide) ?_
  refine Wk.aloadN (pc' := 13) C d_jdk_42m64_12 rfl rfl rfl ?_
  refine Wk.aloadN (pc' := 14) C d_jdk_42m64_13 rfl rfl rfl ?_
  refine Wk.callV (pc' := 17) C d_jdk_42m64_14 (a := x) (Wk.Con.pays C (Wn := 1) (own_coder l hw O0 hs x ds F) (w58 hw) (w11 hw) (by decide) (by decide)) Wk.cleanC F.exa (w54 hw) (w55 hw) (notFace_of_selects (args := #[]) (mvT C.hZ (w57 hw))) (w57 hw) (w56 hw) (by decide) (argsL := []) (st := [(.ref aI)]) rfl rfl (lenOf pd2 rfl) rfl (Nat.le_of_eq rfl) (k' := 0) rfl (n' := 0) rfl (by decide) (by decide) rfl ?_
  intro r11 h12 Q12 O12
  obtain ⟨rfl, e13⟩ := Q12
  obtain rfl := e13.symm
  refine Wk.aloadN (pc' := 18) C d_jdk_42m64_17 rfl rfl rfl ?_
  refine Wk.getF (pc' := 21) C d_jdk_42m64_18 (w36 hw) Via.refl F1 rfl ?_
  refine Wk.callS (pc' := 24) C d_jdk_42m64_21 (Wk.Con.pays C (Wn := 0) (own_encode l hw O0 bs t vs V hv8 E) (w94 hw) (w11 hw) (by decide) (by decide)) Wk.cleanC (w92 hw) (w93 hw) (w11 hw) (w94 hw) (by decide) (argsL := [(.ref aI), (.int (0 : Int32)), (.ref t)]) (st := []) rfl rfl (lenOf pd3 rfl) rfl (Nat.le_of_eq rfl) (k' := 1) rfl (n' := 8) rfl (by decide) (by decide) rfl ?_
  intro r14 h15 Q15 O15
  obtain ⟨b16, rfl, gb16, E15, V15⟩ := Q15
  exact Wk.retA C rfl rfl d_jdk_42m64_24 (by decide) (by decide) ⟨_, rfl, gb16, E15, V15⟩
set_option maxRecDepth 65536 in
set_option maxHeartbeats 40000000 in
theorem own_out_0 (l : Launch) {Z : State} {a0 : Array Value} (hw : Ws a0 Z) {h0 : Heap} (O0 : Ext Z.heap h0) {aD aT aI aU : Addr} (bs : BS Z aD aT aI aU) (b : Addr)  (V : Wk.Ary Z h0 b .byte [])  :
    Wk.Con l Z (⟨"java/util/Base64$Decoder", "decodedOutLength", "([BII)I"⟩ : MethodName) jdk_2450_method_7_code 9 (some .int) ({ frames := 0, cells := 0, slots := 0, locals := 0 } : Room) #[(.ref aD), (.ref b), (.int (0 : Int32)), (.int (0 : Int32))] h0 (fun v h' => v = some (.int (0 : Int32)) ∧ h' = h0) := by
  refine Wk.Con.intro (plainFor_of_name pn1) O0 (fun m => ef5 m aD b) ?_
  intro W C
  replace C : Wk.Cx Z W "java/util/Base64$Decoder" "decodedOutLength" jdk_2450_method_7_code 9 (some .int) := C
  refine Wk.aloadN (pc' := 1) C d_jdk_2450m7_0 rfl rfl rfl ?_
  refine Wk.getF (pc' := 4) C d_jdk_2450m7_1 (w123 hw) Via.refl (bs.2.2.2.2.2.1.ext O0) rfl ?_
  refine Wk.if_eq C d_jdk_2450m7_4 (by decide) (pcT := 13) (by decide) (pc' := 7) rfl (fun q => absurd q (by decide)) (fun q11 => ?_)
  refine Wk.getS (pc' := 10) C d_jdk_2450m7_7 (w125 hw) Via.refl (bs.2.1.ext O0) rfl ?_
  refine Wk.goto C d_jdk_2450m7_10 (by decide) (pc' := 16) (by decide) ?_
  refine Wk.astore (pc' := 18) C d_jdk_2450m7_16 rfl (Ls' := #[.val (.ref aD), .val (.ref b), .val (.int (0 : Int32)), .val (.int (0 : Int32)), .val (.ref aT), .unset, .unset, .unset, .unset]) rfl rfl ?_
  refine Wk.iconst (pc' := 19) C d_jdk_2450m7_18 (v := (0 : Int32)) rfl rfl ?_
  refine Wk.istore (pc' := 21) C d_jdk_2450m7_19 (Ls' := #[.val (.ref aD), .val (.ref b), .val (.int (0 : Int32)), .val (.int (0 : Int32)), .val (.ref aT), .val (.int (0 : Int32)), .unset, .unset, .unset]) rfl rfl ?_
  refine Wk.iloadN (pc' := 22) C d_jdk_2450m7_21 rfl rfl ?_
  refine Wk.iloadN (pc' := 23) C d_jdk_2450m7_22 rfl rfl ?_
  refine Wk.isub (pc' := 24) C d_jdk_2450m7_23 (v := (0 : Int32)) (by decide) rfl ?_
  refine Wk.istore (pc' := 26) C d_jdk_2450m7_24 (Ls' := #[.val (.ref aD), .val (.ref b), .val (.int (0 : Int32)), .val (.int (0 : Int32)), .val (.ref aT), .val (.int (0 : Int32)), .val (.int (0 : Int32)), .unset, .unset]) rfl rfl ?_
  refine Wk.iload (pc' := 28) C d_jdk_2450m7_26 rfl rfl ?_
  refine Wk.if_ne C d_jdk_2450m7_28 (by decide) (pcT := 33) (by decide) (pc' := 31) rfl (fun q => absurd q (by decide)) (fun q12 => ?_)
  refine Wk.iconst (pc' := 32) C d_jdk_2450m7_31 (v := (0 : Int32)) rfl rfl ?_
  exact Wk.retI C d_jdk_2450m7_32 (by decide) (by decide) ⟨rfl, rfl⟩
set_option maxRecDepth 65536 in
set_option maxHeartbeats 40000000 in
theorem own_out_2 (l : Launch) {Z : State} {a0 : Array Value} (hw : Ws a0 Z) {h0 : Heap} (O0 : Ext Z.heap h0) {aD aT aI aU : Addr} (bs : BS Z aD aT aI aU) (b : Addr) (x0 x1 : Int32) {u0 u1 : Int32}  (V : Wk.Ary Z h0 b .byte [(.int x0), (.int x1)]) (t0 : Tb x0 u0) (t1 : Tb x1 u1) :
    Wk.Con l Z (⟨"java/util/Base64$Decoder", "decodedOutLength", "([BII)I"⟩ : MethodName) jdk_2450_method_7_code 9 (some .int) ({ frames := 0, cells := 0, slots := 0, locals := 0 } : Room) #[(.ref aD), (.ref b), (.int (0 : Int32)), (.int (2 : Int32))] h0 (fun v h' => v = some (.int (1 : Int32)) ∧ h' = h0) := by
  refine Wk.Con.intro (plainFor_of_name pn1) O0 (fun m => ef6 m aD b) ?_
  intro W C
  replace C : Wk.Cx Z W "java/util/Base64$Decoder" "decodedOutLength" jdk_2450_method_7_code 9 (some .int) := C
  refine Wk.aloadN (pc' := 1) C d_jdk_2450m7_0 rfl rfl rfl ?_
  refine Wk.getF (pc' := 4) C d_jdk_2450m7_1 (w123 hw) Via.refl (bs.2.2.2.2.2.1.ext O0) rfl ?_
  refine Wk.if_eq C d_jdk_2450m7_4 (by decide) (pcT := 13) (by decide) (pc' := 7) rfl (fun q => absurd q (by decide)) (fun q11 => ?_)
  refine Wk.getS (pc' := 10) C d_jdk_2450m7_7 (w125 hw) Via.refl (bs.2.1.ext O0) rfl ?_
  refine Wk.goto C d_jdk_2450m7_10 (by decide) (pc' := 16) (by decide) ?_
  refine Wk.astore (pc' := 18) C d_jdk_2450m7_16 rfl (Ls' := #[.val (.ref aD), .val (.ref b), .val (.int (0 : Int32)), .val (.int (2 : Int32)), .val (.ref aT), .unset, .unset, .unset, .unset]) rfl rfl ?_
  refine Wk.iconst (pc' := 19) C d_jdk_2450m7_18 (v := (0 : Int32)) rfl rfl ?_
  refine Wk.istore (pc' := 21) C d_jdk_2450m7_19 (Ls' := #[.val (.ref aD), .val (.ref b), .val (.int (0 : Int32)), .val (.int (2 : Int32)), .val (.ref aT), .val (.int (0 : Int32)), .unset, .unset, .unset]) rfl rfl ?_
  refine Wk.iloadN (pc' := 22) C d_jdk_2450m7_21 rfl rfl ?_
  refine Wk.iloadN (pc' := 23) C d_jdk_2450m7_22 rfl rfl ?_
  refine Wk.isub (pc' := 24) C d_jdk_2450m7_23 (v := (2 : Int32)) (by decide) rfl ?_
  refine Wk.istore (pc' := 26) C d_jdk_2450m7_24 (Ls' := #[.val (.ref aD), .val (.ref b), .val (.int (0 : Int32)), .val (.int (2 : Int32)), .val (.ref aT), .val (.int (0 : Int32)), .val (.int (2 : Int32)), .unset, .unset]) rfl rfl ?_
  refine Wk.iload (pc' := 28) C d_jdk_2450m7_26 rfl rfl ?_
  refine Wk.if_ne C d_jdk_2450m7_28 (by decide) (pcT := 33) (by decide) (pc' := 31) rfl (fun q12 => ?_) (fun q => absurd q (by decide))
  refine Wk.iload (pc' := 35) C d_jdk_2450m7_33 rfl rfl ?_
  refine Wk.iconst (pc' := 36) C d_jdk_2450m7_35 (v := (2 : Int32)) rfl rfl ?_
  refine Wk.icmp_ge C d_jdk_2450m7_36 (by decide) (pcT := 66) (by decide) (pc' := 39) rfl (fun q13 => ?_) (fun q => absurd q (by decide))
  refine Wk.aloadN (pc' := 67) C d_jdk_2450m7_66 rfl rfl rfl ?_
  refine Wk.getF (pc' := 70) C d_jdk_2450m7_67 (w160 hw) Via.refl (bs.2.2.2.2.2.2.1.ext O0) rfl ?_
  refine Wk.if_eq C d_jdk_2450m7_70 (by decide) (pcT := 141) (by decide) (pc' := 73) rfl (fun q14 => ?_) (fun q => absurd q (by decide))
  refine Wk.aloadN (pc' := 142) C d_jdk_2450m7_141 rfl rfl rfl ?_
  refine Wk.iloadN (pc' := 143) C d_jdk_2450m7_142 rfl rfl ?_
  refine Wk.iconst (pc' := 144) C d_jdk_2450m7_143 (v := (1 : Int32)) rfl rfl ?_
  refine Wk.isub (pc' := 145) C d_jdk_2450m7_144 (v := (1 : Int32)) (by decide) rfl ?_
  refine Wk.baload (pc' := 146) C d_jdk_2450m7_145 V (by decide) (v := (.int x1)) rfl rfl ?_
  refine Wk.bipush (pc' := 148) C d_jdk_2450m7_146 (v := (61 : Int32)) rfl rfl ?_
  refine Wk.icmp_ne C d_jdk_2450m7_148 (by decide) (pcT := 167) (by decide) (pc' := 151) rfl (fun q15 => ?_) (fun q => absurd q t1.2.2.2)
  refine Wk.iload (pc' := 169) C d_jdk_2450m7_167 rfl rfl ?_
  refine Wk.if_ne C d_jdk_2450m7_169 (by decide) (pcT := 187) (by decide) (pc' := 172) rfl (fun q => absurd q (by decide)) (fun q16 => ?_)
  refine Wk.iload (pc' := 174) C d_jdk_2450m7_172 rfl rfl ?_
  refine Wk.iconst (pc' := 175) C d_jdk_2450m7_174 (v := (3 : Int32)) rfl rfl ?_
  refine Wk.iand (pc' := 176) C d_jdk_2450m7_175 (v := (2 : Int32)) (by decide) rfl ?_
  refine Wk.if_eq C d_jdk_2450m7_176 (by decide) (pcT := 187) (by decide) (pc' := 179) rfl (fun q => absurd q (by decide)) (fun q17 => ?_)
  refine Wk.iconst (pc' := 180) C d_jdk_2450m7_179 (v := (4 : Int32)) rfl rfl ?_
  refine Wk.iload (pc' := 182) C d_jdk_2450m7_180 rfl rfl ?_
  refine Wk.iconst (pc' := 183) C d_jdk_2450m7_182 (v := (3 : Int32)) rfl rfl ?_
  refine Wk.iand (pc' := 184) C d_jdk_2450m7_183 (v := (2 : Int32)) (by decide) rfl ?_
  refine Wk.isub (pc' := 185) C d_jdk_2450m7_184 (v := (2 : Int32)) (by decide) rfl ?_
  refine Wk.istore (pc' := 187) C d_jdk_2450m7_185 (Ls' := #[.val (.ref aD), .val (.ref b), .val (.int (0 : Int32)), .val (.int (2 : Int32)), .val (.ref aT), .val (.int (2 : Int32)), .val (.int (2 : Int32)), .unset, .unset]) rfl rfl ?_
  refine Wk.iconst (pc' := 188) C d_jdk_2450m7_187 (v := (3 : Int32)) rfl rfl ?_
  refine Wk.iload (pc' := 190) C d_jdk_2450m7_188 rfl rfl ?_
  refine Wk.i2l (pc' := 191) C d_jdk_2450m7_190 (v := (2 : Int64)) (by decide) rfl ?_
  refine Wk.ldc2J (pc' := 194) C d_jdk_2450m7_191 (w162 hw) rfl ?_
  refine Wk.ladd (pc' := 195) C d_jdk_2450m7_194 (v := (5 : Int64)) (by decide) rfl ?_
  refine Wk.ldc2J (pc' := 198) C d_jdk_2450m7_195 (w163 hw) rfl ?_
  refine Wk.ldiv (pc' := 199) C d_jdk_2450m7_198 (by decide) (v := (1 : Int64)) (by decide) rfl ?_
  refine Wk.l2i (pc' := 200) C d_jdk_2450m7_199 (v := (1 : Int32)) (by decide) rfl ?_
  refine Wk.imul (pc' := 201) C d_jdk_2450m7_200 (v := (3 : Int32)) (by decide) rfl ?_
  refine Wk.iload (pc' := 203) C d_jdk_2450m7_201 rfl rfl ?_
  refine Wk.isub (pc' := 204) C d_jdk_2450m7_203 (v := (1 : Int32)) (by decide) rfl ?_
  exact Wk.retI C d_jdk_2450m7_204 (by decide) (by decide) ⟨rfl, rfl⟩
set_option maxRecDepth 65536 in
set_option maxHeartbeats 40000000 in
theorem own_out_3 (l : Launch) {Z : State} {a0 : Array Value} (hw : Ws a0 Z) {h0 : Heap} (O0 : Ext Z.heap h0) {aD aT aI aU : Addr} (bs : BS Z aD aT aI aU) (b : Addr) (x0 x1 x2 : Int32) {u0 u1 u2 : Int32}  (V : Wk.Ary Z h0 b .byte [(.int x0), (.int x1), (.int x2)]) (t0 : Tb x0 u0) (t1 : Tb x1 u1) (t2 : Tb x2 u2) :
    Wk.Con l Z (⟨"java/util/Base64$Decoder", "decodedOutLength", "([BII)I"⟩ : MethodName) jdk_2450_method_7_code 9 (some .int) ({ frames := 0, cells := 0, slots := 0, locals := 0 } : Room) #[(.ref aD), (.ref b), (.int (0 : Int32)), (.int (3 : Int32))] h0 (fun v h' => v = some (.int (2 : Int32)) ∧ h' = h0) := by
  refine Wk.Con.intro (plainFor_of_name pn1) O0 (fun m => ef7 m aD b) ?_
  intro W C
  replace C : Wk.Cx Z W "java/util/Base64$Decoder" "decodedOutLength" jdk_2450_method_7_code 9 (some .int) := C
  refine Wk.aloadN (pc' := 1) C d_jdk_2450m7_0 rfl rfl rfl ?_
  refine Wk.getF (pc' := 4) C d_jdk_2450m7_1 (w123 hw) Via.refl (bs.2.2.2.2.2.1.ext O0) rfl ?_
  refine Wk.if_eq C d_jdk_2450m7_4 (by decide) (pcT := 13) (by decide) (pc' := 7) rfl (fun q => absurd q (by decide)) (fun q11 => ?_)
  refine Wk.getS (pc' := 10) C d_jdk_2450m7_7 (w125 hw) Via.refl (bs.2.1.ext O0) rfl ?_
  refine Wk.goto C d_jdk_2450m7_10 (by decide) (pc' := 16) (by decide) ?_
  refine Wk.astore (pc' := 18) C d_jdk_2450m7_16 rfl (Ls' := #[.val (.ref aD), .val (.ref b), .val (.int (0 : Int32)), .val (.int (3 : Int32)), .val (.ref aT), .unset, .unset, .unset, .unset]) rfl rfl ?_
  refine Wk.iconst (pc' := 19) C d_jdk_2450m7_18 (v := (0 : Int32)) rfl rfl ?_
  refine Wk.istore (pc' := 21) C d_jdk_2450m7_19 (Ls' := #[.val (.ref aD), .val (.ref b), .val (.int (0 : Int32)), .val (.int (3 : Int32)), .val (.ref aT), .val (.int (0 : Int32)), .unset, .unset, .unset]) rfl rfl ?_
  refine Wk.iloadN (pc' := 22) C d_jdk_2450m7_21 rfl rfl ?_
  refine Wk.iloadN (pc' := 23) C d_jdk_2450m7_22 rfl rfl ?_
  refine Wk.isub (pc' := 24) C d_jdk_2450m7_23 (v := (3 : Int32)) (by decide) rfl ?_
  refine Wk.istore (pc' := 26) C d_jdk_2450m7_24 (Ls' := #[.val (.ref aD), .val (.ref b), .val (.int (0 : Int32)), .val (.int (3 : Int32)), .val (.ref aT), .val (.int (0 : Int32)), .val (.int (3 : Int32)), .unset, .unset]) rfl rfl ?_
  refine Wk.iload (pc' := 28) C d_jdk_2450m7_26 rfl rfl ?_
  refine Wk.if_ne C d_jdk_2450m7_28 (by decide) (pcT := 33) (by decide) (pc' := 31) rfl (fun q12 => ?_) (fun q => absurd q (by decide))
  refine Wk.iload (pc' := 35) C d_jdk_2450m7_33 rfl rfl ?_
  refine Wk.iconst (pc' := 36) C d_jdk_2450m7_35 (v := (2 : Int32)) rfl rfl ?_
  refine Wk.icmp_ge C d_jdk_2450m7_36 (by decide) (pcT := 66) (by decide) (pc' := 39) rfl (fun q13 => ?_) (fun q => absurd q (by decide))
  refine Wk.aloadN (pc' := 67) C d_jdk_2450m7_66 rfl rfl rfl ?_
  refine Wk.getF (pc' := 70) C d_jdk_2450m7_67 (w160 hw) Via.refl (bs.2.2.2.2.2.2.1.ext O0) rfl ?_
  refine Wk.if_eq C d_jdk_2450m7_70 (by decide) (pcT := 141) (by decide) (pc' := 73) rfl (fun q14 => ?_) (fun q => absurd q (by decide))
  refine Wk.aloadN (pc' := 142) C d_jdk_2450m7_141 rfl rfl rfl ?_
  refine Wk.iloadN (pc' := 143) C d_jdk_2450m7_142 rfl rfl ?_
  refine Wk.iconst (pc' := 144) C d_jdk_2450m7_143 (v := (1 : Int32)) rfl rfl ?_
  refine Wk.isub (pc' := 145) C d_jdk_2450m7_144 (v := (2 : Int32)) (by decide) rfl ?_
  refine Wk.baload (pc' := 146) C d_jdk_2450m7_145 V (by decide) (v := (.int x2)) rfl rfl ?_
  refine Wk.bipush (pc' := 148) C d_jdk_2450m7_146 (v := (61 : Int32)) rfl rfl ?_
  refine Wk.icmp_ne C d_jdk_2450m7_148 (by decide) (pcT := 167) (by decide) (pc' := 151) rfl (fun q15 => ?_) (fun q => absurd q t2.2.2.2)
  refine Wk.iload (pc' := 169) C d_jdk_2450m7_167 rfl rfl ?_
  refine Wk.if_ne C d_jdk_2450m7_169 (by decide) (pcT := 187) (by decide) (pc' := 172) rfl (fun q => absurd q (by decide)) (fun q16 => ?_)
  refine Wk.iload (pc' := 174) C d_jdk_2450m7_172 rfl rfl ?_
  refine Wk.iconst (pc' := 175) C d_jdk_2450m7_174 (v := (3 : Int32)) rfl rfl ?_
  refine Wk.iand (pc' := 176) C d_jdk_2450m7_175 (v := (3 : Int32)) (by decide) rfl ?_
  refine Wk.if_eq C d_jdk_2450m7_176 (by decide) (pcT := 187) (by decide) (pc' := 179) rfl (fun q => absurd q (by decide)) (fun q17 => ?_)
  refine Wk.iconst (pc' := 180) C d_jdk_2450m7_179 (v := (4 : Int32)) rfl rfl ?_
  refine Wk.iload (pc' := 182) C d_jdk_2450m7_180 rfl rfl ?_
  refine Wk.iconst (pc' := 183) C d_jdk_2450m7_182 (v := (3 : Int32)) rfl rfl ?_
  refine Wk.iand (pc' := 184) C d_jdk_2450m7_183 (v := (3 : Int32)) (by decide) rfl ?_
  refine Wk.isub (pc' := 185) C d_jdk_2450m7_184 (v := (1 : Int32)) (by decide) rfl ?_
  refine Wk.istore (pc' := 187) C d_jdk_2450m7_185 (Ls' := #[.val (.ref aD), .val (.ref b), .val (.int (0 : Int32)), .val (.int (3 : Int32)), .val (.ref aT), .val (.int (1 : Int32)), .val (.int (3 : Int32)), .unset, .unset]) rfl rfl ?_
  refine Wk.iconst (pc' := 188) C d_jdk_2450m7_187 (v := (3 : Int32)) rfl rfl ?_
  refine Wk.iload (pc' := 190) C d_jdk_2450m7_188 rfl rfl ?_
  refine Wk.i2l (pc' := 191) C d_jdk_2450m7_190 (v := (3 : Int64)) (by decide) rfl ?_
  refine Wk.ldc2J (pc' := 194) C d_jdk_2450m7_191 (w162 hw) rfl ?_
  refine Wk.ladd (pc' := 195) C d_jdk_2450m7_194 (v := (6 : Int64)) (by decide) rfl ?_
  refine Wk.ldc2J (pc' := 198) C d_jdk_2450m7_195 (w163 hw) rfl ?_
  refine Wk.ldiv (pc' := 199) C d_jdk_2450m7_198 (by decide) (v := (1 : Int64)) (by decide) rfl ?_
  refine Wk.l2i (pc' := 200) C d_jdk_2450m7_199 (v := (1 : Int32)) (by decide) rfl ?_
  refine Wk.imul (pc' := 201) C d_jdk_2450m7_200 (v := (3 : Int32)) (by decide) rfl ?_
  refine Wk.iload (pc' := 203) C d_jdk_2450m7_201 rfl rfl ?_
  refine Wk.isub (pc' := 204) C d_jdk_2450m7_203 (v := (2 : Int32)) (by decide) rfl ?_
  exact Wk.retI C d_jdk_2450m7_204 (by decide) (by decide) ⟨rfl, rfl⟩
set_option maxRecDepth 65536 in
set_option maxHeartbeats 40000000 in
theorem own_out_4 (l : Launch) {Z : State} {a0 : Array Value} (hw : Ws a0 Z) {h0 : Heap} (O0 : Ext Z.heap h0) {aD aT aI aU : Addr} (bs : BS Z aD aT aI aU) (b : Addr) (x0 x1 x2 x3 : Int32) {u0 u1 u2 u3 : Int32}  (V : Wk.Ary Z h0 b .byte [(.int x0), (.int x1), (.int x2), (.int x3)]) (t0 : Tb x0 u0) (t1 : Tb x1 u1) (t2 : Tb x2 u2) (t3 : Tb x3 u3) :
    Wk.Con l Z (⟨"java/util/Base64$Decoder", "decodedOutLength", "([BII)I"⟩ : MethodName) jdk_2450_method_7_code 9 (some .int) ({ frames := 0, cells := 0, slots := 0, locals := 0 } : Room) #[(.ref aD), (.ref b), (.int (0 : Int32)), (.int (4 : Int32))] h0 (fun v h' => v = some (.int (3 : Int32)) ∧ h' = h0) := by
  refine Wk.Con.intro (plainFor_of_name pn1) O0 (fun m => ef8 m aD b) ?_
  intro W C
  replace C : Wk.Cx Z W "java/util/Base64$Decoder" "decodedOutLength" jdk_2450_method_7_code 9 (some .int) := C
  refine Wk.aloadN (pc' := 1) C d_jdk_2450m7_0 rfl rfl rfl ?_
  refine Wk.getF (pc' := 4) C d_jdk_2450m7_1 (w123 hw) Via.refl (bs.2.2.2.2.2.1.ext O0) rfl ?_
  refine Wk.if_eq C d_jdk_2450m7_4 (by decide) (pcT := 13) (by decide) (pc' := 7) rfl (fun q => absurd q (by decide)) (fun q11 => ?_)
  refine Wk.getS (pc' := 10) C d_jdk_2450m7_7 (w125 hw) Via.refl (bs.2.1.ext O0) rfl ?_
  refine Wk.goto C d_jdk_2450m7_10 (by decide) (pc' := 16) (by decide) ?_
  refine Wk.astore (pc' := 18) C d_jdk_2450m7_16 rfl (Ls' := #[.val (.ref aD), .val (.ref b), .val (.int (0 : Int32)), .val (.int (4 : Int32)), .val (.ref aT), .unset, .unset, .unset, .unset]) rfl rfl ?_
  refine Wk.iconst (pc' := 19) C d_jdk_2450m7_18 (v := (0 : Int32)) rfl rfl ?_
  refine Wk.istore (pc' := 21) C d_jdk_2450m7_19 (Ls' := #[.val (.ref aD), .val (.ref b), .val (.int (0 : Int32)), .val (.int (4 : Int32)), .val (.ref aT), .val (.int (0 : Int32)), .unset, .unset, .unset]) rfl rfl ?_
  refine Wk.iloadN (pc' := 22) C d_jdk_2450m7_21 rfl rfl ?_
  refine Wk.iloadN (pc' := 23) C d_jdk_2450m7_22 rfl rfl ?_
  refine Wk.isub (pc' := 24) C d_jdk_2450m7_23 (v := (4 : Int32)) (by decide) rfl ?_
  refine Wk.istore (pc' := 26) C d_jdk_2450m7_24 (Ls' := #[.val (.ref aD), .val (.ref b), .val (.int (0 : Int32)), .val (.int (4 : Int32)), .val (.ref aT), .val (.int (0 : Int32)), .val (.int (4 : Int32)), .unset, .unset]) rfl rfl ?_
  refine Wk.iload (pc' := 28) C d_jdk_2450m7_26 rfl rfl ?_
  refine Wk.if_ne C d_jdk_2450m7_28 (by decide) (pcT := 33) (by decide) (pc' := 31) rfl (fun q12 => ?_) (fun q => absurd q (by decide))
  refine Wk.iload (pc' := 35) C d_jdk_2450m7_33 rfl rfl ?_
  refine Wk.iconst (pc' := 36) C d_jdk_2450m7_35 (v := (2 : Int32)) rfl rfl ?_
  refine Wk.icmp_ge C d_jdk_2450m7_36 (by decide) (pcT := 66) (by decide) (pc' := 39) rfl (fun q13 => ?_) (fun q => absurd q (by decide))
  refine Wk.aloadN (pc' := 67) C d_jdk_2450m7_66 rfl rfl rfl ?_
  refine Wk.getF (pc' := 70) C d_jdk_2450m7_67 (w160 hw) Via.refl (bs.2.2.2.2.2.2.1.ext O0) rfl ?_
  refine Wk.if_eq C d_jdk_2450m7_70 (by decide) (pcT := 141) (by decide) (pc' := 73) rfl (fun q14 => ?_) (fun q => absurd q (by decide))
  refine Wk.aloadN (pc' := 142) C d_jdk_2450m7_141 rfl rfl rfl ?_
  refine Wk.iloadN (pc' := 143) C d_jdk_2450m7_142 rfl rfl ?_
  refine Wk.iconst (pc' := 144) C d_jdk_2450m7_143 (v := (1 : Int32)) rfl rfl ?_
  refine Wk.isub (pc' := 145) C d_jdk_2450m7_144 (v := (3 : Int32)) (by decide) rfl ?_
  refine Wk.baload (pc' := 146) C d_jdk_2450m7_145 V (by decide) (v := (.int x3)) rfl rfl ?_
  refine Wk.bipush (pc' := 148) C d_jdk_2450m7_146 (v := (61 : Int32)) rfl rfl ?_
  refine Wk.icmp_ne C d_jdk_2450m7_148 (by decide) (pcT := 167) (by decide) (pc' := 151) rfl (fun q15 => ?_) (fun q => absurd q t3.2.2.2)
  refine Wk.iload (pc' := 169) C d_jdk_2450m7_167 rfl rfl ?_
  refine Wk.if_ne C d_jdk_2450m7_169 (by decide) (pcT := 187) (by decide) (pc' := 172) rfl (fun q => absurd q (by decide)) (fun q16 => ?_)
  refine Wk.iload (pc' := 174) C d_jdk_2450m7_172 rfl rfl ?_
  refine Wk.iconst (pc' := 175) C d_jdk_2450m7_174 (v := (3 : Int32)) rfl rfl ?_
  refine Wk.iand (pc' := 176) C d_jdk_2450m7_175 (v := (0 : Int32)) (by decide) rfl ?_
  refine Wk.if_eq C d_jdk_2450m7_176 (by decide) (pcT := 187) (by decide) (pc' := 179) rfl (fun q17 => ?_) (fun q => absurd q (by decide))
  refine Wk.iconst (pc' := 188) C d_jdk_2450m7_187 (v := (3 : Int32)) rfl rfl ?_
  refine Wk.iload (pc' := 190) C d_jdk_2450m7_188 rfl rfl ?_
  refine Wk.i2l (pc' := 191) C d_jdk_2450m7_190 (v := (4 : Int64)) (by decide) rfl ?_
  refine Wk.ldc2J (pc' := 194) C d_jdk_2450m7_191 (w162 hw) rfl ?_
  refine Wk.ladd (pc' := 195) C d_jdk_2450m7_194 (v := (7 : Int64)) (by decide) rfl ?_
  refine Wk.ldc2J (pc' := 198) C d_jdk_2450m7_195 (w163 hw) rfl ?_
  refine Wk.ldiv (pc' := 199) C d_jdk_2450m7_198 (by decide) (v := (1 : Int64)) (by decide) rfl ?_
  refine Wk.l2i (pc' := 200) C d_jdk_2450m7_199 (v := (1 : Int32)) (by decide) rfl ?_
  refine Wk.imul (pc' := 201) C d_jdk_2450m7_200 (v := (3 : Int32)) (by decide) rfl ?_
  refine Wk.iload (pc' := 203) C d_jdk_2450m7_201 rfl rfl ?_
  refine Wk.isub (pc' := 204) C d_jdk_2450m7_203 (v := (3 : Int32)) (by decide) rfl ?_
  exact Wk.retI C d_jdk_2450m7_204 (by decide) (by decide) ⟨rfl, rfl⟩
set_option maxRecDepth 65536 in
set_option maxHeartbeats 40000000 in
theorem own_out_6 (l : Launch) {Z : State} {a0 : Array Value} (hw : Ws a0 Z) {h0 : Heap} (O0 : Ext Z.heap h0) {aD aT aI aU : Addr} (bs : BS Z aD aT aI aU) (b : Addr) (x0 x1 x2 x3 x4 x5 : Int32) {u0 u1 u2 u3 u4 u5 : Int32}  (V : Wk.Ary Z h0 b .byte [(.int x0), (.int x1), (.int x2), (.int x3), (.int x4), (.int x5)]) (t0 : Tb x0 u0) (t1 : Tb x1 u1) (t2 : Tb x2 u2) (t3 : Tb x3 u3) (t4 : Tb x4 u4) (t5 : Tb x5 u5) :
    Wk.Con l Z (⟨"java/util/Base64$Decoder", "decodedOutLength", "([BII)I"⟩ : MethodName) jdk_2450_method_7_code 9 (some .int) ({ frames := 0, cells := 0, slots := 0, locals := 0 } : Room) #[(.ref aD), (.ref b), (.int (0 : Int32)), (.int (6 : Int32))] h0 (fun v h' => v = some (.int (4 : Int32)) ∧ h' = h0) := by
  refine Wk.Con.intro (plainFor_of_name pn1) O0 (fun m => ef9 m aD b) ?_
  intro W C
  replace C : Wk.Cx Z W "java/util/Base64$Decoder" "decodedOutLength" jdk_2450_method_7_code 9 (some .int) := C
  refine Wk.aloadN (pc' := 1) C d_jdk_2450m7_0 rfl rfl rfl ?_
  refine Wk.getF (pc' := 4) C d_jdk_2450m7_1 (w123 hw) Via.refl (bs.2.2.2.2.2.1.ext O0) rfl ?_
  refine Wk.if_eq C d_jdk_2450m7_4 (by decide) (pcT := 13) (by decide) (pc' := 7) rfl (fun q => absurd q (by decide)) (fun q11 => ?_)
  refine Wk.getS (pc' := 10) C d_jdk_2450m7_7 (w125 hw) Via.refl (bs.2.1.ext O0) rfl ?_
  refine Wk.goto C d_jdk_2450m7_10 (by decide) (pc' := 16) (by decide) ?_
  refine Wk.astore (pc' := 18) C d_jdk_2450m7_16 rfl (Ls' := #[.val (.ref aD), .val (.ref b), .val (.int (0 : Int32)), .val (.int (6 : Int32)), .val (.ref aT), .unset, .unset, .unset, .unset]) rfl rfl ?_
  refine Wk.iconst (pc' := 19) C d_jdk_2450m7_18 (v := (0 : Int32)) rfl rfl ?_
  refine Wk.istore (pc' := 21) C d_jdk_2450m7_19 (Ls' := #[.val (.ref aD), .val (.ref b), .val (.int (0 : Int32)), .val (.int (6 : Int32)), .val (.ref aT), .val (.int (0 : Int32)), .unset, .unset, .unset]) rfl rfl ?_
  refine Wk.iloadN (pc' := 22) C d_jdk_2450m7_21 rfl rfl ?_
  refine Wk.iloadN (pc' := 23) C d_jdk_2450m7_22 rfl rfl ?_
  refine Wk.isub (pc' := 24) C d_jdk_2450m7_23 (v := (6 : Int32)) (by decide) rfl ?_
  refine Wk.istore (pc' := 26) C d_jdk_2450m7_24 (Ls' := #[.val (.ref aD), .val (.ref b), .val (.int (0 : Int32)), .val (.int (6 : Int32)), .val (.ref aT), .val (.int (0 : Int32)), .val (.int (6 : Int32)), .unset, .unset]) rfl rfl ?_
  refine Wk.iload (pc' := 28) C d_jdk_2450m7_26 rfl rfl ?_
  refine Wk.if_ne C d_jdk_2450m7_28 (by decide) (pcT := 33) (by decide) (pc' := 31) rfl (fun q12 => ?_) (fun q => absurd q (by decide))
  refine Wk.iload (pc' := 35) C d_jdk_2450m7_33 rfl rfl ?_
  refine Wk.iconst (pc' := 36) C d_jdk_2450m7_35 (v := (2 : Int32)) rfl rfl ?_
  refine Wk.icmp_ge C d_jdk_2450m7_36 (by decide) (pcT := 66) (by decide) (pc' := 39) rfl (fun q13 => ?_) (fun q => absurd q (by decide))
  refine Wk.aloadN (pc' := 67) C d_jdk_2450m7_66 rfl rfl rfl ?_
  refine Wk.getF (pc' := 70) C d_jdk_2450m7_67 (w160 hw) Via.refl (bs.2.2.2.2.2.2.1.ext O0) rfl ?_
  refine Wk.if_eq C d_jdk_2450m7_70 (by decide) (pcT := 141) (by decide) (pc' := 73) rfl (fun q14 => ?_) (fun q => absurd q (by decide))
  refine Wk.aloadN (pc' := 142) C d_jdk_2450m7_141 rfl rfl rfl ?_
  refine Wk.iloadN (pc' := 143) C d_jdk_2450m7_142 rfl rfl ?_
  refine Wk.iconst (pc' := 144) C d_jdk_2450m7_143 (v := (1 : Int32)) rfl rfl ?_
  refine Wk.isub (pc' := 145) C d_jdk_2450m7_144 (v := (5 : Int32)) (by decide) rfl ?_
  refine Wk.baload (pc' := 146) C d_jdk_2450m7_145 V (by decide) (v := (.int x5)) rfl rfl ?_
  refine Wk.bipush (pc' := 148) C d_jdk_2450m7_146 (v := (61 : Int32)) rfl rfl ?_
  refine Wk.icmp_ne C d_jdk_2450m7_148 (by decide) (pcT := 167) (by decide) (pc' := 151) rfl (fun q15 => ?_) (fun q => absurd q t5.2.2.2)
  refine Wk.iload (pc' := 169) C d_jdk_2450m7_167 rfl rfl ?_
  refine Wk.if_ne C d_jdk_2450m7_169 (by decide) (pcT := 187) (by decide) (pc' := 172) rfl (fun q => absurd q (by decide)) (fun q16 => ?_)
  refine Wk.iload (pc' := 174) C d_jdk_2450m7_172 rfl rfl ?_
  refine Wk.iconst (pc' := 175) C d_jdk_2450m7_174 (v := (3 : Int32)) rfl rfl ?_
  refine Wk.iand (pc' := 176) C d_jdk_2450m7_175 (v := (2 : Int32)) (by decide) rfl ?_
  refine Wk.if_eq C d_jdk_2450m7_176 (by decide) (pcT := 187) (by decide) (pc' := 179) rfl (fun q => absurd q (by decide)) (fun q17 => ?_)
  refine Wk.iconst (pc' := 180) C d_jdk_2450m7_179 (v := (4 : Int32)) rfl rfl ?_
  refine Wk.iload (pc' := 182) C d_jdk_2450m7_180 rfl rfl ?_
  refine Wk.iconst (pc' := 183) C d_jdk_2450m7_182 (v := (3 : Int32)) rfl rfl ?_
  refine Wk.iand (pc' := 184) C d_jdk_2450m7_183 (v := (2 : Int32)) (by decide) rfl ?_
  refine Wk.isub (pc' := 185) C d_jdk_2450m7_184 (v := (2 : Int32)) (by decide) rfl ?_
  refine Wk.istore (pc' := 187) C d_jdk_2450m7_185 (Ls' := #[.val (.ref aD), .val (.ref b), .val (.int (0 : Int32)), .val (.int (6 : Int32)), .val (.ref aT), .val (.int (2 : Int32)), .val (.int (6 : Int32)), .unset, .unset]) rfl rfl ?_
  refine Wk.iconst (pc' := 188) C d_jdk_2450m7_187 (v := (3 : Int32)) rfl rfl ?_
  refine Wk.iload (pc' := 190) C d_jdk_2450m7_188 rfl rfl ?_
  refine Wk.i2l (pc' := 191) C d_jdk_2450m7_190 (v := (6 : Int64)) (by decide) rfl ?_
  refine Wk.ldc2J (pc' := 194) C d_jdk_2450m7_191 (w162 hw) rfl ?_
  refine Wk.ladd (pc' := 195) C d_jdk_2450m7_194 (v := (9 : Int64)) (by decide) rfl ?_
  refine Wk.ldc2J (pc' := 198) C d_jdk_2450m7_195 (w163 hw) rfl ?_
  refine Wk.ldiv (pc' := 199) C d_jdk_2450m7_198 (by decide) (v := (2 : Int64)) (by decide) rfl ?_
  refine Wk.l2i (pc' := 200) C d_jdk_2450m7_199 (v := (2 : Int32)) (by decide) rfl ?_
  refine Wk.imul (pc' := 201) C d_jdk_2450m7_200 (v := (6 : Int32)) (by decide) rfl ?_
  refine Wk.iload (pc' := 203) C d_jdk_2450m7_201 rfl rfl ?_
  refine Wk.isub (pc' := 204) C d_jdk_2450m7_203 (v := (4 : Int32)) (by decide) rfl ?_
  exact Wk.retI C d_jdk_2450m7_204 (by decide) (by decide) ⟨rfl, rfl⟩
set_option maxRecDepth 65536 in
set_option maxHeartbeats 40000000 in
theorem own_out_7 (l : Launch) {Z : State} {a0 : Array Value} (hw : Ws a0 Z) {h0 : Heap} (O0 : Ext Z.heap h0) {aD aT aI aU : Addr} (bs : BS Z aD aT aI aU) (b : Addr) (x0 x1 x2 x3 x4 x5 x6 : Int32) {u0 u1 u2 u3 u4 u5 u6 : Int32}  (V : Wk.Ary Z h0 b .byte [(.int x0), (.int x1), (.int x2), (.int x3), (.int x4), (.int x5), (.int x6)]) (t0 : Tb x0 u0) (t1 : Tb x1 u1) (t2 : Tb x2 u2) (t3 : Tb x3 u3) (t4 : Tb x4 u4) (t5 : Tb x5 u5) (t6 : Tb x6 u6) :
    Wk.Con l Z (⟨"java/util/Base64$Decoder", "decodedOutLength", "([BII)I"⟩ : MethodName) jdk_2450_method_7_code 9 (some .int) ({ frames := 0, cells := 0, slots := 0, locals := 0 } : Room) #[(.ref aD), (.ref b), (.int (0 : Int32)), (.int (7 : Int32))] h0 (fun v h' => v = some (.int (5 : Int32)) ∧ h' = h0) := by
  refine Wk.Con.intro (plainFor_of_name pn1) O0 (fun m => ef10 m aD b) ?_
  intro W C
  replace C : Wk.Cx Z W "java/util/Base64$Decoder" "decodedOutLength" jdk_2450_method_7_code 9 (some .int) := C
  refine Wk.aloadN (pc' := 1) C d_jdk_2450m7_0 rfl rfl rfl ?_
  refine Wk.getF (pc' := 4) C d_jdk_2450m7_1 (w123 hw) Via.refl (bs.2.2.2.2.2.1.ext O0) rfl ?_
  refine Wk.if_eq C d_jdk_2450m7_4 (by decide) (pcT := 13) (by decide) (pc' := 7) rfl (fun q => absurd q (by decide)) (fun q11 => ?_)
  refine Wk.getS (pc' := 10) C d_jdk_2450m7_7 (w125 hw) Via.refl (bs.2.1.ext O0) rfl ?_
  refine Wk.goto C d_jdk_2450m7_10 (by decide) (pc' := 16) (by decide) ?_
  refine Wk.astore (pc' := 18) C d_jdk_2450m7_16 rfl (Ls' := #[.val (.ref aD), .val (.ref b), .val (.int (0 : Int32)), .val (.int (7 : Int32)), .val (.ref aT), .unset, .unset, .unset, .unset]) rfl rfl ?_
  refine Wk.iconst (pc' := 19) C d_jdk_2450m7_18 (v := (0 : Int32)) rfl rfl ?_
  refine Wk.istore (pc' := 21) C d_jdk_2450m7_19 (Ls' := #[.val (.ref aD), .val (.ref b), .val (.int (0 : Int32)), .val (.int (7 : Int32)), .val (.ref aT), .val (.int (0 : Int32)), .unset, .unset, .unset]) rfl rfl ?_
  refine Wk.iloadN (pc' := 22) C d_jdk_2450m7_21 rfl rfl ?_
  refine Wk.iloadN (pc' := 23) C d_jdk_2450m7_22 rfl rfl ?_
  refine Wk.isub (pc' := 24) C d_jdk_2450m7_23 (v := (7 : Int32)) (by decide) rfl ?_
  refine Wk.istore (pc' := 26) C d_jdk_2450m7_24 (Ls' := #[.val (.ref aD), .val (.ref b), .val (.int (0 : Int32)), .val (.int (7 : Int32)), .val (.ref aT), .val (.int (0 : Int32)), .val (.int (7 : Int32)), .unset, .unset]) rfl rfl ?_
  refine Wk.iload (pc' := 28) C d_jdk_2450m7_26 rfl rfl ?_
  refine Wk.if_ne C d_jdk_2450m7_28 (by decide) (pcT := 33) (by decide) (pc' := 31) rfl (fun q12 => ?_) (fun q => absurd q (by decide))
  refine Wk.iload (pc' := 35) C d_jdk_2450m7_33 rfl rfl ?_
  refine Wk.iconst (pc' := 36) C d_jdk_2450m7_35 (v := (2 : Int32)) rfl rfl ?_
  refine Wk.icmp_ge C d_jdk_2450m7_36 (by decide) (pcT := 66) (by decide) (pc' := 39) rfl (fun q13 => ?_) (fun q => absurd q (by decide))
  refine Wk.aloadN (pc' := 67) C d_jdk_2450m7_66 rfl rfl rfl ?_
  refine Wk.getF (pc' := 70) C d_jdk_2450m7_67 (w160 hw) Via.refl (bs.2.2.2.2.2.2.1.ext O0) rfl ?_
  refine Wk.if_eq C d_jdk_2450m7_70 (by decide) (pcT := 141) (by decide) (pc' := 73) rfl (fun q14 => ?_) (fun q => absurd q (by decide))
  refine Wk.aloadN (pc' := 142) C d_jdk_2450m7_141 rfl rfl rfl ?_
  refine Wk.iloadN (pc' := 143) C d_jdk_2450m7_142 rfl rfl ?_
  refine Wk.iconst (pc' := 144) C d_jdk_2450m7_143 (v := (1 : Int32)) rfl rfl ?_
  refine Wk.isub (pc' := 145) C d_jdk_2450m7_144 (v := (6 : Int32)) (by decide) rfl ?_
  refine Wk.baload (pc' := 146) C d_jdk_2450m7_145 V (by decide) (v := (.int x6)) rfl rfl ?_
  refine Wk.bipush (pc' := 148) C d_jdk_2450m7_146 (v := (61 : Int32)) rfl rfl ?_
  refine Wk.icmp_ne C d_jdk_2450m7_148 (by decide) (pcT := 167) (by decide) (pc' := 151) rfl (fun q15 => ?_) (fun q => absurd q t6.2.2.2)
  refine Wk.iload (pc' := 169) C d_jdk_2450m7_167 rfl rfl ?_
  refine Wk.if_ne C d_jdk_2450m7_169 (by decide) (pcT := 187) (by decide) (pc' := 172) rfl (fun q => absurd q (by decide)) (fun q16 => ?_)
  refine Wk.iload (pc' := 174) C d_jdk_2450m7_172 rfl rfl ?_
  refine Wk.iconst (pc' := 175) C d_jdk_2450m7_174 (v := (3 : Int32)) rfl rfl ?_
  refine Wk.iand (pc' := 176) C d_jdk_2450m7_175 (v := (3 : Int32)) (by decide) rfl ?_
  refine Wk.if_eq C d_jdk_2450m7_176 (by decide) (pcT := 187) (by decide) (pc' := 179) rfl (fun q => absurd q (by decide)) (fun q17 => ?_)
  refine Wk.iconst (pc' := 180) C d_jdk_2450m7_179 (v := (4 : Int32)) rfl rfl ?_
  refine Wk.iload (pc' := 182) C d_jdk_2450m7_180 rfl rfl ?_
  refine Wk.iconst (pc' := 183) C d_jdk_2450m7_182 (v := (3 : Int32)) rfl rfl ?_
  refine Wk.iand (pc' := 184) C d_jdk_2450m7_183 (v := (3 : Int32)) (by decide) rfl ?_
  refine Wk.isub (pc' := 185) C d_jdk_2450m7_184 (v := (1 : Int32)) (by decide) rfl ?_
  refine Wk.istore (pc' := 187) C d_jdk_2450m7_185 (Ls' := #[.val (.ref aD), .val (.ref b), .val (.int (0 : Int32)), .val (.int (7 : Int32)), .val (.ref aT), .val (.int (1 : Int32)), .val (.int (7 : Int32)), .unset, .unset]) rfl rfl ?_
  refine Wk.iconst (pc' := 188) C d_jdk_2450m7_187 (v := (3 : Int32)) rfl rfl ?_
  refine Wk.iload (pc' := 190) C d_jdk_2450m7_188 rfl rfl ?_
  refine Wk.i2l (pc' := 191) C d_jdk_2450m7_190 (v := (7 : Int64)) (by decide) rfl ?_
  refine Wk.ldc2J (pc' := 194) C d_jdk_2450m7_191 (w162 hw) rfl ?_
  refine Wk.ladd (pc' := 195) C d_jdk_2450m7_194 (v := (10 : Int64)) (by decide) rfl ?_
  refine Wk.ldc2J (pc' := 198) C d_jdk_2450m7_195 (w163 hw) rfl ?_
  refine Wk.ldiv (pc' := 199) C d_jdk_2450m7_198 (by decide) (v := (2 : Int64)) (by decide) rfl ?_
  refine Wk.l2i (pc' := 200) C d_jdk_2450m7_199 (v := (2 : Int32)) (by decide) rfl ?_
  refine Wk.imul (pc' := 201) C d_jdk_2450m7_200 (v := (6 : Int32)) (by decide) rfl ?_
  refine Wk.iload (pc' := 203) C d_jdk_2450m7_201 rfl rfl ?_
  refine Wk.isub (pc' := 204) C d_jdk_2450m7_203 (v := (5 : Int32)) (by decide) rfl ?_
  exact Wk.retI C d_jdk_2450m7_204 (by decide) (by decide) ⟨rfl, rfl⟩
set_option maxRecDepth 65536 in
set_option maxHeartbeats 40000000 in
theorem own_out_8 (l : Launch) {Z : State} {a0 : Array Value} (hw : Ws a0 Z) {h0 : Heap} (O0 : Ext Z.heap h0) {aD aT aI aU : Addr} (bs : BS Z aD aT aI aU) (b : Addr) (x0 x1 x2 x3 x4 x5 x6 x7 : Int32) {u0 u1 u2 u3 u4 u5 u6 u7 : Int32}  (V : Wk.Ary Z h0 b .byte [(.int x0), (.int x1), (.int x2), (.int x3), (.int x4), (.int x5), (.int x6), (.int x7)]) (t0 : Tb x0 u0) (t1 : Tb x1 u1) (t2 : Tb x2 u2) (t3 : Tb x3 u3) (t4 : Tb x4 u4) (t5 : Tb x5 u5) (t6 : Tb x6 u6) (t7 : Tb x7 u7) :
    Wk.Con l Z (⟨"java/util/Base64$Decoder", "decodedOutLength", "([BII)I"⟩ : MethodName) jdk_2450_method_7_code 9 (some .int) ({ frames := 0, cells := 0, slots := 0, locals := 0 } : Room) #[(.ref aD), (.ref b), (.int (0 : Int32)), (.int (8 : Int32))] h0 (fun v h' => v = some (.int (6 : Int32)) ∧ h' = h0) := by
  refine Wk.Con.intro (plainFor_of_name pn1) O0 (fun m => ef11 m aD b) ?_
  intro W C
  replace C : Wk.Cx Z W "java/util/Base64$Decoder" "decodedOutLength" jdk_2450_method_7_code 9 (some .int) := C
  refine Wk.aloadN (pc' := 1) C d_jdk_2450m7_0 rfl rfl rfl ?_
  refine Wk.getF (pc' := 4) C d_jdk_2450m7_1 (w123 hw) Via.refl (bs.2.2.2.2.2.1.ext O0) rfl ?_
  refine Wk.if_eq C d_jdk_2450m7_4 (by decide) (pcT := 13) (by decide) (pc' := 7) rfl (fun q => absurd q (by decide)) (fun q11 => ?_)
  refine Wk.getS (pc' := 10) C d_jdk_2450m7_7 (w125 hw) Via.refl (bs.2.1.ext O0) rfl ?_
  refine Wk.goto C d_jdk_2450m7_10 (by decide) (pc' := 16) (by decide) ?_
  refine Wk.astore (pc' := 18) C d_jdk_2450m7_16 rfl (Ls' := #[.val (.ref aD), .val (.ref b), .val (.int (0 : Int32)), .val (.int (8 : Int32)), .val (.ref aT), .unset, .unset, .unset, .unset]) rfl rfl ?_
  refine Wk.iconst (pc' := 19) C d_jdk_2450m7_18 (v := (0 : Int32)) rfl rfl ?_
  refine Wk.istore (pc' := 21) C d_jdk_2450m7_19 (Ls' := #[.val (.ref aD), .val (.ref b), .val (.int (0 : Int32)), .val (.int (8 : Int32)), .val (.ref aT), .val (.int (0 : Int32)), .unset, .unset, .unset]) rfl rfl ?_
  refine Wk.iloadN (pc' := 22) C d_jdk_2450m7_21 rfl rfl ?_
  refine Wk.iloadN (pc' := 23) C d_jdk_2450m7_22 rfl rfl ?_
  refine Wk.isub (pc' := 24) C d_jdk_2450m7_23 (v := (8 : Int32)) (by decide) rfl ?_
  refine Wk.istore (pc' := 26) C d_jdk_2450m7_24 (Ls' := #[.val (.ref aD), .val (.ref b), .val (.int (0 : Int32)), .val (.int (8 : Int32)), .val (.ref aT), .val (.int (0 : Int32)), .val (.int (8 : Int32)), .unset, .unset]) rfl rfl ?_
  refine Wk.iload (pc' := 28) C d_jdk_2450m7_26 rfl rfl ?_
  refine Wk.if_ne C d_jdk_2450m7_28 (by decide) (pcT := 33) (by decide) (pc' := 31) rfl (fun q12 => ?_) (fun q => absurd q (by decide))
  refine Wk.iload (pc' := 35) C d_jdk_2450m7_33 rfl rfl ?_
  refine Wk.iconst (pc' := 36) C d_jdk_2450m7_35 (v := (2 : Int32)) rfl rfl ?_
  refine Wk.icmp_ge C d_jdk_2450m7_36 (by decide) (pcT := 66) (by decide) (pc' := 39) rfl (fun q13 => ?_) (fun q => absurd q (by decide))
  refine Wk.aloadN (pc' := 67) C d_jdk_2450m7_66 rfl rfl rfl ?_
  refine Wk.getF (pc' := 70) C d_jdk_2450m7_67 (w160 hw) Via.refl (bs.2.2.2.2.2.2.1.ext O0) rfl ?_
  refine Wk.if_eq C d_jdk_2450m7_70 (by decide) (pcT := 141) (by decide) (pc' := 73) rfl (fun q14 => ?_) (fun q => absurd q (by decide))
  refine Wk.aloadN (pc' := 142) C d_jdk_2450m7_141 rfl rfl rfl ?_
  refine Wk.iloadN (pc' := 143) C d_jdk_2450m7_142 rfl rfl ?_
  refine Wk.iconst (pc' := 144) C d_jdk_2450m7_143 (v := (1 : Int32)) rfl rfl ?_
  refine Wk.isub (pc' := 145) C d_jdk_2450m7_144 (v := (7 : Int32)) (by decide) rfl ?_
  refine Wk.baload (pc' := 146) C d_jdk_2450m7_145 V (by decide) (v := (.int x7)) rfl rfl ?_
  refine Wk.bipush (pc' := 148) C d_jdk_2450m7_146 (v := (61 : Int32)) rfl rfl ?_
  refine Wk.icmp_ne C d_jdk_2450m7_148 (by decide) (pcT := 167) (by decide) (pc' := 151) rfl (fun q15 => ?_) (fun q => absurd q t7.2.2.2)
  refine Wk.iload (pc' := 169) C d_jdk_2450m7_167 rfl rfl ?_
  refine Wk.if_ne C d_jdk_2450m7_169 (by decide) (pcT := 187) (by decide) (pc' := 172) rfl (fun q => absurd q (by decide)) (fun q16 => ?_)
  refine Wk.iload (pc' := 174) C d_jdk_2450m7_172 rfl rfl ?_
  refine Wk.iconst (pc' := 175) C d_jdk_2450m7_174 (v := (3 : Int32)) rfl rfl ?_
  refine Wk.iand (pc' := 176) C d_jdk_2450m7_175 (v := (0 : Int32)) (by decide) rfl ?_
  refine Wk.if_eq C d_jdk_2450m7_176 (by decide) (pcT := 187) (by decide) (pc' := 179) rfl (fun q17 => ?_) (fun q => absurd q (by decide))
  refine Wk.iconst (pc' := 188) C d_jdk_2450m7_187 (v := (3 : Int32)) rfl rfl ?_
  refine Wk.iload (pc' := 190) C d_jdk_2450m7_188 rfl rfl ?_
  refine Wk.i2l (pc' := 191) C d_jdk_2450m7_190 (v := (8 : Int64)) (by decide) rfl ?_
  refine Wk.ldc2J (pc' := 194) C d_jdk_2450m7_191 (w162 hw) rfl ?_
  refine Wk.ladd (pc' := 195) C d_jdk_2450m7_194 (v := (11 : Int64)) (by decide) rfl ?_
  refine Wk.ldc2J (pc' := 198) C d_jdk_2450m7_195 (w163 hw) rfl ?_
  refine Wk.ldiv (pc' := 199) C d_jdk_2450m7_198 (by decide) (v := (2 : Int64)) (by decide) rfl ?_
  refine Wk.l2i (pc' := 200) C d_jdk_2450m7_199 (v := (2 : Int32)) (by decide) rfl ?_
  refine Wk.imul (pc' := 201) C d_jdk_2450m7_200 (v := (6 : Int32)) (by decide) rfl ?_
  refine Wk.iload (pc' := 203) C d_jdk_2450m7_201 rfl rfl ?_
  refine Wk.isub (pc' := 204) C d_jdk_2450m7_203 (v := (6 : Int32)) (by decide) rfl ?_
  exact Wk.retI C d_jdk_2450m7_204 (by decide) (by decide) ⟨rfl, rfl⟩
set_option maxRecDepth 65536 in
set_option maxHeartbeats 40000000 in
theorem own_blk_6 (l : Launch) {Z : State} {a0 : Array Value} (hw : Ws a0 Z) {h0 : Heap} (O0 : Ext Z.heap h0) {aD aT aI aU : Addr} (bs : BS Z aD aT aI aU) (b d : Addr) (x0 x1 x2 x3 x4 x5 : Int32) {u0 u1 u2 u3 u4 u5 : Int32}  (V : Wk.Ary Z h0 b .byte [(.int x0), (.int x1), (.int x2), (.int x3), (.int x4), (.int x5)]) (t0 : Tb x0 u0) (t1 : Tb x1 u1) (t2 : Tb x2 u2) (t3 : Tb x3 u3) (t4 : Tb x4 u4) (t5 : Tb x5 u5) (D : Wk.Ary Z h0 d .byte [(.int (0 : Int32)), (.int (0 : Int32)), (.int (0 : Int32)), (.int (0 : Int32))]) (gd : Z.heap.size ≤ d) (nbd : b ≠ d) (nTd : aT ≠ d)  :
    Wk.Con l Z (⟨"java/util/Base64$Decoder", "decodeBlock", "([BII[BIZZ)I"⟩ : MethodName) jdk_2450_method_8_code 16 (some .int) ({ frames := 0, cells := 0, slots := 0, locals := 0 } : Room) #[(.ref aD), (.ref b), (.int (0 : Int32)), (.int (6 : Int32)), (.ref d), (.int (0 : Int32)), (.int (1 : Int32)), (.int (0 : Int32))] h0 (fun v h' => v = some (.int (3 : Int32)) ∧ Keep h0 h' [d] ∧ Wk.Ary Z h' d .byte [(.int (((dW u0 u1 u2 u3) >>> ((16 : Int32) &&& 31)).toInt8.toInt32)), (.int (((dW u0 u1 u2 u3) >>> ((8 : Int32) &&& 31)).toInt8.toInt32)), (.int ((dW u0 u1 u2 u3).toInt8.toInt32)), (.int (0 : Int32))]) := by
  refine Wk.Con.intro (plainFor_of_name pn1) O0 (fun m => ef12 m aD b d) ?_
  intro W C
  replace C : Wk.Cx Z W "java/util/Base64$Decoder" "decodeBlock" jdk_2450_method_8_code 16 (some .int) := C
  refine Wk.iload (pc' := 2) C d_jdk_2450m8_0 rfl rfl ?_
  refine Wk.if_eq C d_jdk_2450m8_2 (by decide) (pcT := 11) (by decide) (pc' := 5) rfl (fun q => absurd q (by decide)) (fun q11 => ?_)
  refine Wk.getS (pc' := 8) C d_jdk_2450m8_5 (w125 hw) Via.refl (bs.2.1.ext O0) rfl ?_
  refine Wk.goto C d_jdk_2450m8_8 (by decide) (pc' := 14) (by decide) ?_
  refine Wk.astore (pc' := 16) C d_jdk_2450m8_14 rfl (Ls' := #[.val (.ref aD), .val (.ref b), .val (.int (0 : Int32)), .val (.int (6 : Int32)), .val (.ref d), .val (.int (0 : Int32)), .val (.int (1 : Int32)), .val (.int (0 : Int32)), .val (.ref aT), .unset, .unset, .unset, .unset, .unset, .unset, .unset]) rfl rfl ?_
  refine Wk.iloadN (pc' := 17) C d_jdk_2450m8_16 rfl rfl ?_
  refine Wk.iloadN (pc' := 18) C d_jdk_2450m8_17 rfl rfl ?_
  refine Wk.iloadN (pc' := 19) C d_jdk_2450m8_18 rfl rfl ?_
  refine Wk.isub (pc' := 20) C d_jdk_2450m8_19 (v := (6 : Int32)) (by decide) rfl ?_
  refine Wk.bipush (pc' := 22) C d_jdk_2450m8_20 (v := (-4 : Int32)) rfl rfl ?_
  refine Wk.iand (pc' := 23) C d_jdk_2450m8_22 (v := (4 : Int32)) (by decide) rfl ?_
  refine Wk.iadd (pc' := 24) C d_jdk_2450m8_23 (v := (4 : Int32)) (by decide) rfl ?_
  refine Wk.istore (pc' := 26) C d_jdk_2450m8_24 (Ls' := #[.val (.ref aD), .val (.ref b), .val (.int (0 : Int32)), .val (.int (6 : Int32)), .val (.ref d), .val (.int (0 : Int32)), .val (.int (1 : Int32)), .val (.int (0 : Int32)), .val (.ref aT), .val (.int (4 : Int32)), .unset, .unset, .unset, .unset, .unset, .unset]) rfl rfl ?_
  refine Wk.iload (pc' := 28) C d_jdk_2450m8_26 rfl rfl ?_
  refine Wk.istore (pc' := 30) C d_jdk_2450m8_28 (Ls' := #[.val (.ref aD), .val (.ref b), .val (.int (0 : Int32)), .val (.int (6 : Int32)), .val (.ref d), .val (.int (0 : Int32)), .val (.int (1 : Int32)), .val (.int (0 : Int32)), .val (.ref aT), .val (.int (4 : Int32)), .val (.int (0 : Int32)), .unset, .unset, .unset, .unset, .unset]) rfl rfl ?_
  refine Wk.iloadN (pc' := 31) C d_jdk_2450m8_30 rfl rfl ?_
  refine Wk.iload (pc' := 33) C d_jdk_2450m8_31 rfl rfl ?_
  refine Wk.icmp_ge C d_jdk_2450m8_33 (by decide) (pcT := 180) (by decide) (pc' := 36) rfl (fun q => absurd q (by decide)) (fun q12 => ?_)
  refine Wk.aload (pc' := 38) C d_jdk_2450m8_36 rfl rfl rfl ?_
  refine Wk.aloadN (pc' := 39) C d_jdk_2450m8_38 rfl rfl rfl ?_
  refine Wk.iloadN (pc' := 40) C d_jdk_2450m8_39 rfl rfl ?_
  refine Wk.iinc (pc' := 43) C d_jdk_2450m8_40 rfl (v := (1 : Int32)) (by decide) (Ls' := #[.val (.ref aD), .val (.ref b), .val (.int (1 : Int32)), .val (.int (6 : Int32)), .val (.ref d), .val (.int (0 : Int32)), .val (.int (1 : Int32)), .val (.int (0 : Int32)), .val (.ref aT), .val (.int (4 : Int32)), .val (.int (0 : Int32)), .unset, .unset, .unset, .unset, .unset]) rfl rfl ?_
  refine Wk.baload (pc' := 44) C d_jdk_2450m8_43 V (by decide) (v := (.int x0)) rfl rfl ?_
  refine Wk.sipush (pc' := 47) C d_jdk_2450m8_44 (v := (255 : Int32)) rfl rfl ?_
  obtain ⟨v13, hv13⟩ : ∃ z : Int32, x0 &&& (255 : Int32) = z := ⟨_, rfl⟩
  refine Wk.iand (pc' := 48) C d_jdk_2450m8_47 hv13 rfl ?_
  refine Wk.iaload (pc' := 49) C d_jdk_2450m8_48 (bs.2.2.2.2.2.2.2.1.ext O0) (own_tab hv13 t0).1 (v := (.int u0)) (own_tab hv13 t0).2 rfl ?_
  refine Wk.istore (pc' := 51) C d_jdk_2450m8_49 (Ls' := #[.val (.ref aD), .val (.ref b), .val (.int (1 : Int32)), .val (.int (6 : Int32)), .val (.ref d), .val (.int (0 : Int32)), .val (.int (1 : Int32)), .val (.int (0 : Int32)), .val (.ref aT), .val (.int (4 : Int32)), .val (.int (0 : Int32)), .val (.int u0), .unset, .unset, .unset, .unset]) rfl rfl ?_
  refine Wk.aload (pc' := 53) C d_jdk_2450m8_51 rfl rfl rfl ?_
  refine Wk.aloadN (pc' := 54) C d_jdk_2450m8_53 rfl rfl rfl ?_
  refine Wk.iloadN (pc' := 55) C d_jdk_2450m8_54 rfl rfl ?_
  refine Wk.iinc (pc' := 58) C d_jdk_2450m8_55 rfl (v := (2 : Int32)) (by decide) (Ls' := #[.val (.ref aD), .val (.ref b), .val (.int (2 : Int32)), .val (.int (6 : Int32)), .val (.ref d), .val (.int (0 : Int32)), .val (.int (1 : Int32)), .val (.int (0 : Int32)), .val (.ref aT), .val (.int (4 : Int32)), .val (.int (0 : Int32)), .val (.int u0), .unset, .unset, .unset, .unset]) rfl rfl ?_
  refine Wk.baload (pc' := 59) C d_jdk_2450m8_58 V (by decide) (v := (.int x1)) rfl rfl ?_
  refine Wk.sipush (pc' := 62) C d_jdk_2450m8_59 (v := (255 : Int32)) rfl rfl ?_
  obtain ⟨v14, hv14⟩ : ∃ z : Int32, x1 &&& (255 : Int32) = z := ⟨_, rfl⟩
  refine Wk.iand (pc' := 63) C d_jdk_2450m8_62 hv14 rfl ?_
  refine Wk.iaload (pc' := 64) C d_jdk_2450m8_63 (bs.2.2.2.2.2.2.2.1.ext O0) (own_tab hv14 t1).1 (v := (.int u1)) (own_tab hv14 t1).2 rfl ?_
  refine Wk.istore (pc' := 66) C d_jdk_2450m8_64 (Ls' := #[.val (.ref aD), .val (.ref b), .val (.int (2 : Int32)), .val (.int (6 : Int32)), .val (.ref d), .val (.int (0 : Int32)), .val (.int (1 : Int32)), .val (.int (0 : Int32)), .val (.ref aT), .val (.int (4 : Int32)), .val (.int (0 : Int32)), .val (.int u0), .val (.int u1), .unset, .unset, .unset]) rfl rfl ?_
  refine Wk.aload (pc' := 68) C d_jdk_2450m8_66 rfl rfl rfl ?_
  refine Wk.aloadN (pc' := 69) C d_jdk_2450m8_68 rfl rfl rfl ?_
  refine Wk.iloadN (pc' := 70) C d_jdk_2450m8_69 rfl rfl ?_
  refine Wk.iinc (pc' := 73) C d_jdk_2450m8_70 rfl (v := (3 : Int32)) (by decide) (Ls' := #[.val (.ref aD), .val (.ref b), .val (.int (3 : Int32)), .val (.int (6 : Int32)), .val (.ref d), .val (.int (0 : Int32)), .val (.int (1 : Int32)), .val (.int (0 : Int32)), .val (.ref aT), .val (.int (4 : Int32)), .val (.int (0 : Int32)), .val (.int u0), .val (.int u1), .unset, .unset, .unset]) rfl rfl ?_
  refine Wk.baload (pc' := 74) C d_jdk_2450m8_73 V (by decide) (v := (.int x2)) rfl rfl ?_
  refine Wk.sipush (pc' := 77) C d_jdk_2450m8_74 (v := (255 : Int32)) rfl rfl ?_
  obtain ⟨v15, hv15⟩ : ∃ z : Int32, x2 &&& (255 : Int32) = z := ⟨_, rfl⟩
  refine Wk.iand (pc' := 78) C d_jdk_2450m8_77 hv15 rfl ?_
  refine Wk.iaload (pc' := 79) C d_jdk_2450m8_78 (bs.2.2.2.2.2.2.2.1.ext O0) (own_tab hv15 t2).1 (v := (.int u2)) (own_tab hv15 t2).2 rfl ?_
  refine Wk.istore (pc' := 81) C d_jdk_2450m8_79 (Ls' := #[.val (.ref aD), .val (.ref b), .val (.int (3 : Int32)), .val (.int (6 : Int32)), .val (.ref d), .val (.int (0 : Int32)), .val (.int (1 : Int32)), .val (.int (0 : Int32)), .val (.ref aT), .val (.int (4 : Int32)), .val (.int (0 : Int32)), .val (.int u0), .val (.int u1), .val (.int u2), .unset, .unset]) rfl rfl ?_
  refine Wk.aload (pc' := 83) C d_jdk_2450m8_81 rfl rfl rfl ?_
  refine Wk.aloadN (pc' := 84) C d_jdk_2450m8_83 rfl rfl rfl ?_
  refine Wk.iloadN (pc' := 85) C d_jdk_2450m8_84 rfl rfl ?_
  refine Wk.iinc (pc' := 88) C d_jdk_2450m8_85 rfl (v := (4 : Int32)) (by decide) (Ls' := #[.val (.ref aD), .val (.ref b), .val (.int (4 : Int32)), .val (.int (6 : Int32)), .val (.ref d), .val (.int (0 : Int32)), .val (.int (1 : Int32)), .val (.int (0 : Int32)), .val (.ref aT), .val (.int (4 : Int32)), .val (.int (0 : Int32)), .val (.int u0), .val (.int u1), .val (.int u2), .unset, .unset]) rfl rfl ?_
  refine Wk.baload (pc' := 89) C d_jdk_2450m8_88 V (by decide) (v := (.int x3)) rfl rfl ?_
  refine Wk.sipush (pc' := 92) C d_jdk_2450m8_89 (v := (255 : Int32)) rfl rfl ?_
  obtain ⟨v16, hv16⟩ : ∃ z : Int32, x3 &&& (255 : Int32) = z := ⟨_, rfl⟩
  refine Wk.iand (pc' := 93) C d_jdk_2450m8_92 hv16 rfl ?_
  refine Wk.iaload (pc' := 94) C d_jdk_2450m8_93 (bs.2.2.2.2.2.2.2.1.ext O0) (own_tab hv16 t3).1 (v := (.int u3)) (own_tab hv16 t3).2 rfl ?_
  refine Wk.istore (pc' := 96) C d_jdk_2450m8_94 (Ls' := #[.val (.ref aD), .val (.ref b), .val (.int (4 : Int32)), .val (.int (6 : Int32)), .val (.ref d), .val (.int (0 : Int32)), .val (.int (1 : Int32)), .val (.int (0 : Int32)), .val (.ref aT), .val (.int (4 : Int32)), .val (.int (0 : Int32)), .val (.int u0), .val (.int u1), .val (.int u2), .val (.int u3), .unset]) rfl rfl ?_
  refine Wk.iload (pc' := 98) C d_jdk_2450m8_96 rfl rfl ?_
  refine Wk.iload (pc' := 100) C d_jdk_2450m8_98 rfl rfl ?_
  obtain ⟨v17, hv17⟩ : ∃ z : Int32, u0 ||| u1 = z := ⟨_, rfl⟩
  refine Wk.ior (pc' := 101) C d_jdk_2450m8_100 hv17 rfl ?_
  refine Wk.iload (pc' := 103) C d_jdk_2450m8_101 rfl rfl ?_
  obtain ⟨v18, hv18⟩ : ∃ z : Int32, v17 ||| u2 = z := ⟨_, rfl⟩
  refine Wk.ior (pc' := 104) C d_jdk_2450m8_103 hv18 rfl ?_
  refine Wk.iload (pc' := 106) C d_jdk_2450m8_104 rfl rfl ?_
  obtain ⟨v19, hv19⟩ : ∃ z : Int32, v18 ||| u3 = z := ⟨_, rfl⟩
  refine Wk.ior (pc' := 107) C d_jdk_2450m8_106 hv19 rfl ?_
  refine Wk.if_ge C d_jdk_2450m8_107 (by decide) (pcT := 116) (by decide) (pc' := 110) rfl (fun q20 => ?_) (fun q => absurd q (own_orN hv19 (own_orN hv18 (own_orN hv17 t0.2.2.1 t1.2.2.1) t2.2.2.1) t3.2.2.1))
  refine Wk.iload (pc' := 118) C d_jdk_2450m8_116 rfl rfl ?_
  refine Wk.bipush (pc' := 120) C d_jdk_2450m8_118 (v := (18 : Int32)) rfl rfl ?_
  obtain ⟨v21, hv21⟩ : ∃ z : Int32, u0 <<< ((18 : Int32) &&& 31) = z := ⟨_, rfl⟩
  refine Wk.ishl (pc' := 121) C d_jdk_2450m8_120 hv21 rfl ?_
  refine Wk.iload (pc' := 123) C d_jdk_2450m8_121 rfl rfl ?_
  refine Wk.bipush (pc' := 125) C d_jdk_2450m8_123 (v := (12 : Int32)) rfl rfl ?_
  obtain ⟨v22, hv22⟩ : ∃ z : Int32, u1 <<< ((12 : Int32) &&& 31) = z := ⟨_, rfl⟩
  refine Wk.ishl (pc' := 126) C d_jdk_2450m8_125 hv22 rfl ?_
  obtain ⟨v23, hv23⟩ : ∃ z : Int32, v21 ||| v22 = z := ⟨_, rfl⟩
  refine Wk.ior (pc' := 127) C d_jdk_2450m8_126 hv23 rfl ?_
  refine Wk.iload (pc' := 129) C d_jdk_2450m8_127 rfl rfl ?_
  refine Wk.bipush (pc' := 131) C d_jdk_2450m8_129 (v := (6 : Int32)) rfl rfl ?_
  obtain ⟨v24, hv24⟩ : ∃ z : Int32, u2 <<< ((6 : Int32) &&& 31) = z := ⟨_, rfl⟩
  refine Wk.ishl (pc' := 132) C d_jdk_2450m8_131 hv24 rfl ?_
  obtain ⟨v25, hv25⟩ : ∃ z : Int32, v23 ||| v24 = z := ⟨_, rfl⟩
  refine Wk.ior (pc' := 133) C d_jdk_2450m8_132 hv25 rfl ?_
  refine Wk.iload (pc' := 135) C d_jdk_2450m8_133 rfl rfl ?_
  obtain ⟨v26, hv26⟩ : ∃ z : Int32, v25 ||| u3 = z := ⟨_, rfl⟩
  refine Wk.ior (pc' := 136) C d_jdk_2450m8_135 hv26 rfl ?_
  refine Wk.istore (pc' := 138) C d_jdk_2450m8_136 (Ls' := #[.val (.ref aD), .val (.ref b), .val (.int (4 : Int32)), .val (.int (6 : Int32)), .val (.ref d), .val (.int (0 : Int32)), .val (.int (1 : Int32)), .val (.int (0 : Int32)), .val (.ref aT), .val (.int (4 : Int32)), .val (.int (0 : Int32)), .val (.int u0), .val (.int u1), .val (.int u2), .val (.int u3), .val (.int v26)]) rfl rfl ?_
  refine Wk.aload (pc' := 140) C d_jdk_2450m8_138 rfl rfl rfl ?_
  refine Wk.iload (pc' := 142) C d_jdk_2450m8_140 rfl rfl ?_
  refine Wk.iinc (pc' := 145) C d_jdk_2450m8_142 rfl (v := (1 : Int32)) (by decide) (Ls' := #[.val (.ref aD), .val (.ref b), .val (.int (4 : Int32)), .val (.int (6 : Int32)), .val (.ref d), .val (.int (0 : Int32)), .val (.int (1 : Int32)), .val (.int (0 : Int32)), .val (.ref aT), .val (.int (4 : Int32)), .val (.int (1 : Int32)), .val (.int u0), .val (.int u1), .val (.int u2), .val (.int u3), .val (.int v26)]) rfl rfl ?_
  refine Wk.iload (pc' := 147) C d_jdk_2450m8_145 rfl rfl ?_
  refine Wk.bipush (pc' := 149) C d_jdk_2450m8_147 (v := (16 : Int32)) rfl rfl ?_
  obtain ⟨v27, hv27⟩ : ∃ z : Int32, v26 >>> ((16 : Int32) &&& 31) = z := ⟨_, rfl⟩
  refine Wk.ishr (pc' := 150) C d_jdk_2450m8_149 hv27 rfl ?_
  obtain ⟨v28, hv28⟩ : ∃ z : Int32, v27.toInt8.toInt32 = z := ⟨_, rfl⟩
  refine Wk.i2b (pc' := 151) C d_jdk_2450m8_150 hv28 rfl ?_
  refine Wk.bastore (pc' := 152) C d_jdk_2450m8_151 D (by decide) (show _ < _ from Nat.le_of_ble_eq_true rfl) (vs' := [(.int v28), (.int (0 : Int32)), (.int (0 : Int32)), (.int (0 : Int32))]) (by rw [Wk.nar_i2b hv28]; rfl) gd rfl ?_
  intro h29 W29 V29 O29
  refine Wk.aload (pc' := 154) C d_jdk_2450m8_152 rfl rfl rfl ?_
  refine Wk.iload (pc' := 156) C d_jdk_2450m8_154 rfl rfl ?_
  refine Wk.iinc (pc' := 159) C d_jdk_2450m8_156 rfl (v := (2 : Int32)) (by decide) (Ls' := #[.val (.ref aD), .val (.ref b), .val (.int (4 : Int32)), .val (.int (6 : Int32)), .val (.ref d), .val (.int (0 : Int32)), .val (.int (1 : Int32)), .val (.int (0 : Int32)), .val (.ref aT), .val (.int (4 : Int32)), .val (.int (2 : Int32)), .val (.int u0), .val (.int u1), .val (.int u2), .val (.int u3), .val (.int v26)]) rfl rfl ?_
  refine Wk.iload (pc' := 161) C d_jdk_2450m8_159 rfl rfl ?_
  refine Wk.bipush (pc' := 163) C d_jdk_2450m8_161 (v := (8 : Int32)) rfl rfl ?_
  obtain ⟨v30, hv30⟩ : ∃ z : Int32, v26 >>> ((8 : Int32) &&& 31) = z := ⟨_, rfl⟩
  refine Wk.ishr (pc' := 164) C d_jdk_2450m8_163 hv30 rfl ?_
  obtain ⟨v31, hv31⟩ : ∃ z : Int32, v30.toInt8.toInt32 = z := ⟨_, rfl⟩
  refine Wk.i2b (pc' := 165) C d_jdk_2450m8_164 hv31 rfl ?_
  refine Wk.bastore (pc' := 166) C d_jdk_2450m8_165 V29 (by decide) (show _ < _ from Nat.le_of_ble_eq_true rfl) (vs' := [(.int v28), (.int v31), (.int (0 : Int32)), (.int (0 : Int32))]) (by rw [Wk.nar_i2b hv31]; rfl) gd rfl ?_
  intro h32 W32 V32 O32
  refine Wk.aload (pc' := 168) C d_jdk_2450m8_166 rfl rfl rfl ?_
  refine Wk.iload (pc' := 170) C d_jdk_2450m8_168 rfl rfl ?_
  refine Wk.iinc (pc' := 173) C d_jdk_2450m8_170 rfl (v := (3 : Int32)) (by decide) (Ls' := #[.val (.ref aD), .val (.ref b), .val (.int (4 : Int32)), .val (.int (6 : Int32)), .val (.ref d), .val (.int (0 : Int32)), .val (.int (1 : Int32)), .val (.int (0 : Int32)), .val (.ref aT), .val (.int (4 : Int32)), .val (.int (3 : Int32)), .val (.int u0), .val (.int u1), .val (.int u2), .val (.int u3), .val (.int v26)]) rfl rfl ?_
  refine Wk.iload (pc' := 175) C d_jdk_2450m8_173 rfl rfl ?_
  obtain ⟨v33, hv33⟩ : ∃ z : Int32, v26.toInt8.toInt32 = z := ⟨_, rfl⟩
  refine Wk.i2b (pc' := 176) C d_jdk_2450m8_175 hv33 rfl ?_
  refine Wk.bastore (pc' := 177) C d_jdk_2450m8_176 V32 (by decide) (show _ < _ from Nat.le_of_ble_eq_true rfl) (vs' := [(.int v28), (.int v31), (.int v33), (.int (0 : Int32))]) (by rw [Wk.nar_i2b hv33]; rfl) gd rfl ?_
  intro h34 W34 V34 O34
  refine Wk.goto C d_jdk_2450m8_177 (by decide) (pc' := 30) (by decide) ?_
  refine Wk.iloadN (pc' := 31) C d_jdk_2450m8_30 rfl rfl ?_
  refine Wk.iload (pc' := 33) C d_jdk_2450m8_31 rfl rfl ?_
  refine Wk.icmp_ge C d_jdk_2450m8_33 (by decide) (pcT := 180) (by decide) (pc' := 36) rfl (fun q35 => ?_) (fun q => absurd q (by decide))
  refine Wk.iload (pc' := 182) C d_jdk_2450m8_180 rfl rfl ?_
  refine Wk.iload (pc' := 184) C d_jdk_2450m8_182 rfl rfl ?_
  refine Wk.isub (pc' := 185) C d_jdk_2450m8_184 (v := (3 : Int32)) (by decide) rfl ?_
  have VD := V34
  have KP : Keep h0 h34 [d] := ((((Keep.refl _ _).wr W29 (Or.inl (List.mem_singleton.mpr rfl))).wr W32 (Or.inl (List.mem_singleton.mpr rfl))).wr W34 (Or.inl (List.mem_singleton.mpr rfl)))
  subst hv13 hv14 hv15 hv16 hv17 hv18 hv19 hv21 hv22 hv23 hv24 hv25 hv26 hv27 hv28 hv30 hv31 hv33
  exact Wk.retI C d_jdk_2450m8_185 (by decide) (by decide) ⟨rfl, KP, VD⟩
set_option maxRecDepth 65536 in
set_option maxHeartbeats 40000000 in
theorem own_blk_7 (l : Launch) {Z : State} {a0 : Array Value} (hw : Ws a0 Z) {h0 : Heap} (O0 : Ext Z.heap h0) {aD aT aI aU : Addr} (bs : BS Z aD aT aI aU) (b d : Addr) (x0 x1 x2 x3 x4 x5 x6 : Int32) {u0 u1 u2 u3 u4 u5 u6 : Int32}  (V : Wk.Ary Z h0 b .byte [(.int x0), (.int x1), (.int x2), (.int x3), (.int x4), (.int x5), (.int x6)]) (t0 : Tb x0 u0) (t1 : Tb x1 u1) (t2 : Tb x2 u2) (t3 : Tb x3 u3) (t4 : Tb x4 u4) (t5 : Tb x5 u5) (t6 : Tb x6 u6) (D : Wk.Ary Z h0 d .byte [(.int (0 : Int32)), (.int (0 : Int32)), (.int (0 : Int32)), (.int (0 : Int32)), (.int (0 : Int32))]) (gd : Z.heap.size ≤ d) (nbd : b ≠ d) (nTd : aT ≠ d)  :
    Wk.Con l Z (⟨"java/util/Base64$Decoder", "decodeBlock", "([BII[BIZZ)I"⟩ : MethodName) jdk_2450_method_8_code 16 (some .int) ({ frames := 0, cells := 0, slots := 0, locals := 0 } : Room) #[(.ref aD), (.ref b), (.int (0 : Int32)), (.int (7 : Int32)), (.ref d), (.int (0 : Int32)), (.int (1 : Int32)), (.int (0 : Int32))] h0 (fun v h' => v = some (.int (3 : Int32)) ∧ Keep h0 h' [d] ∧ Wk.Ary Z h' d .byte [(.int (((dW u0 u1 u2 u3) >>> ((16 : Int32) &&& 31)).toInt8.toInt32)), (.int (((dW u0 u1 u2 u3) >>> ((8 : Int32) &&& 31)).toInt8.toInt32)), (.int ((dW u0 u1 u2 u3).toInt8.toInt32)), (.int (0 : Int32)), (.int (0 : Int32))]) := by
  refine Wk.Con.intro (plainFor_of_name pn1) O0 (fun m => ef13 m aD b d) ?_
  intro W C
  replace C : Wk.Cx Z W "java/util/Base64$Decoder" "decodeBlock" jdk_2450_method_8_code 16 (some .int) := C
  refine Wk.iload (pc' := 2) C d_jdk_2450m8_0 rfl rfl ?_
  refine Wk.if_eq C d_jdk_2450m8_2 (by decide) (pcT := 11) (by decide) (pc' := 5) rfl (fun q => absurd q (by decide)) (fun q11 => ?_)
  refine Wk.getS (pc' := 8) C d_jdk_2450m8_5 (w125 hw) Via.refl (bs.2.1.ext O0) rfl ?_
  refine Wk.goto C d_jdk_2450m8_8 (by decide) (pc' := 14) (by decide) ?_
  refine Wk.astore (pc' := 16) C d_jdk_2450m8_14 rfl (Ls' := #[.val (.ref aD), .val (.ref b), .val (.int (0 : Int32)), .val (.int (7 : Int32)), .val (.ref d), .val (.int (0 : Int32)), .val (.int (1 : Int32)), .val (.int (0 : Int32)), .val (.ref aT), .unset, .unset, .unset, .unset, .unset, .unset, .unset]) rfl rfl ?_
  refine Wk.iloadN (pc' := 17) C d_jdk_2450m8_16 rfl rfl ?_
  refine Wk.iloadN (pc' := 18) C d_jdk_2450m8_17 rfl rfl ?_
  refine Wk.iloadN (pc' := 19) C d_jdk_2450m8_18 rfl rfl ?_
  refine Wk.isub (pc' := 20) C d_jdk_2450m8_19 (v := (7 : Int32)) (by decide) rfl ?_
  refine Wk.bipush (pc' := 22) C d_jdk_2450m8_20 (v := (-4 : Int32)) rfl rfl ?_
  refine Wk.iand (pc' := 23) C d_jdk_2450m8_22 (v := (4 : Int32)) (by decide) rfl ?_
  refine Wk.iadd (pc' := 24) C d_jdk_2450m8_23 (v := (4 : Int32)) (by decide) rfl ?_
  refine Wk.istore (pc' := 26) C d_jdk_2450m8_24 (Ls' := #[.val (.ref aD), .val (.ref b), .val (.int (0 : Int32)), .val (.int (7 : Int32)), .val (.ref d), .val (.int (0 : Int32)), .val (.int (1 : Int32)), .val (.int (0 : Int32)), .val (.ref aT), .val (.int (4 : Int32)), .unset, .unset, .unset, .unset, .unset, .unset]) rfl rfl ?_
  refine Wk.iload (pc' := 28) C d_jdk_2450m8_26 rfl rfl ?_
  refine Wk.istore (pc' := 30) C d_jdk_2450m8_28 (Ls' := #[.val (.ref aD), .val (.ref b), .val (.int (0 : Int32)), .val (.int (7 : Int32)), .val (.ref d), .val (.int (0 : Int32)), .val (.int (1 : Int32)), .val (.int (0 : Int32)), .val (.ref aT), .val (.int (4 : Int32)), .val (.int (0 : Int32)), .unset, .unset, .unset, .unset, .unset]) rfl rfl ?_
  refine Wk.iloadN (pc' := 31) C d_jdk_2450m8_30 rfl rfl ?_
  refine Wk.iload (pc' := 33) C d_jdk_2450m8_31 rfl rfl ?_
  refine Wk.icmp_ge C d_jdk_2450m8_33 (by decide) (pcT := 180) (by decide) (pc' := 36) rfl (fun q => absurd q (by decide)) (fun q12 => ?_)
  refine Wk.aload (pc' := 38) C d_jdk_2450m8_36 rfl rfl rfl ?_
  refine Wk.aloadN (pc' := 39) C d_jdk_2450m8_38 rfl rfl rfl ?_
  refine Wk.iloadN (pc' := 40) C d_jdk_2450m8_39 rfl rfl ?_
  refine Wk.iinc (pc' := 43) C d_jdk_2450m8_40 rfl (v := (1 : Int32)) (by decide) (Ls' := #[.val (.ref aD), .val (.ref b), .val (.int (1 : Int32)), .val (.int (7 : Int32)), .val (.ref d), .val (.int (0 : Int32)), .val (.int (1 : Int32)), .val (.int (0 : Int32)), .val (.ref aT), .val (.int (4 : Int32)), .val (.int (0 : Int32)), .unset, .unset, .unset, .unset, .unset]) rfl rfl ?_
  refine Wk.baload (pc' := 44) C d_jdk_2450m8_43 V (by decide) (v := (.int x0)) rfl rfl ?_
  refine Wk.sipush (pc' := 47) C d_jdk_2450m8_44 (v := (255 : Int32)) rfl rfl ?_
  obtain ⟨v13, hv13⟩ : ∃ z : Int32, x0 &&& (255 : Int32) = z := ⟨_, rfl⟩
  refine Wk.iand (pc' := 48) C d_jdk_2450m8_47 hv13 rfl ?_
  refine Wk.iaload (pc' := 49) C d_jdk_2450m8_48 (bs.2.2.2.2.2.2.2.1.ext O0) (own_tab hv13 t0).1 (v := (.int u0)) (own_tab hv13 t0).2 rfl ?_
  refine Wk.istore (pc' := 51) C d_jdk_2450m8_49 (Ls' := #[.val (.ref aD), .val (.ref b), .val (.int (1 : Int32)), .val (.int (7 : Int32)), .val (.ref d), .val (.int (0 : Int32)), .val (.int (1 : Int32)), .val (.int (0 : Int32)), .val (.ref aT), .val (.int (4 : Int32)), .val (.int (0 : Int32)), .val (.int u0), .unset, .unset, .unset, .unset]) rfl rfl ?_
  refine Wk.aload (pc' := 53) C d_jdk_2450m8_51 rfl rfl rfl ?_
  refine Wk.aloadN (pc' := 54) C d_jdk_2450m8_53 rfl rfl rfl ?_
  refine Wk.iloadN (pc' := 55) C d_jdk_2450m8_54 rfl rfl ?_
  refine Wk.iinc (pc' := 58) C d_jdk_2450m8_55 rfl (v := (2 : Int32)) (by decide) (Ls' := #[.val (.ref aD), .val (.ref b), .val (.int (2 : Int32)), .val (.int (7 : Int32)), .val (.ref d), .val (.int (0 : Int32)), .val (.int (1 : Int32)), .val (.int (0 : Int32)), .val (.ref aT), .val (.int (4 : Int32)), .val (.int (0 : Int32)), .val (.int u0), .unset, .unset, .unset, .unset]) rfl rfl ?_
  refine Wk.baload (pc' := 59) C d_jdk_2450m8_58 V (by decide) (v := (.int x1)) rfl rfl ?_
  refine Wk.sipush (pc' := 62) C d_jdk_2450m8_59 (v := (255 : Int32)) rfl rfl ?_
  obtain ⟨v14, hv14⟩ : ∃ z : Int32, x1 &&& (255 : Int32) = z := ⟨_, rfl⟩
  refine Wk.iand (pc' := 63) C d_jdk_2450m8_62 hv14 rfl ?_
  refine Wk.iaload (pc' := 64) C d_jdk_2450m8_63 (bs.2.2.2.2.2.2.2.1.ext O0) (own_tab hv14 t1).1 (v := (.int u1)) (own_tab hv14 t1).2 rfl ?_
  refine Wk.istore (pc' := 66) C d_jdk_2450m8_64 (Ls' := #[.val (.ref aD), .val (.ref b), .val (.int (2 : Int32)), .val (.int (7 : Int32)), .val (.ref d), .val (.int (0 : Int32)), .val (.int (1 : Int32)), .val (.int (0 : Int32)), .val (.ref aT), .val (.int (4 : Int32)), .val (.int (0 : Int32)), .val (.int u0), .val (.int u1), .unset, .unset, .unset]) rfl rfl ?_
  refine Wk.aload (pc' := 68) C d_jdk_2450m8_66 rfl rfl rfl ?_
  refine Wk.aloadN (pc' := 69) C d_jdk_2450m8_68 rfl rfl rfl ?_
  refine Wk.iloadN (pc' := 70) C d_jdk_2450m8_69 rfl rfl ?_
  refine Wk.iinc (pc' := 73) C d_jdk_2450m8_70 rfl (v := (3 : Int32)) (by decide) (Ls' := #[.val (.ref aD), .val (.ref b), .val (.int (3 : Int32)), .val (.int (7 : Int32)), .val (.ref d), .val (.int (0 : Int32)), .val (.int (1 : Int32)), .val (.int (0 : Int32)), .val (.ref aT), .val (.int (4 : Int32)), .val (.int (0 : Int32)), .val (.int u0), .val (.int u1), .unset, .unset, .unset]) rfl rfl ?_
  refine Wk.baload (pc' := 74) C d_jdk_2450m8_73 V (by decide) (v := (.int x2)) rfl rfl ?_
  refine Wk.sipush (pc' := 77) C d_jdk_2450m8_74 (v := (255 : Int32)) rfl rfl ?_
  obtain ⟨v15, hv15⟩ : ∃ z : Int32, x2 &&& (255 : Int32) = z := ⟨_, rfl⟩
  refine Wk.iand (pc' := 78) C d_jdk_2450m8_77 hv15 rfl ?_
  refine Wk.iaload (pc' := 79) C d_jdk_2450m8_78 (bs.2.2.2.2.2.2.2.1.ext O0) (own_tab hv15 t2).1 (v := (.int u2)) (own_tab hv15 t2).2 rfl ?_
  refine Wk.istore (pc' := 81) C d_jdk_2450m8_79 (Ls' := #[.val (.ref aD), .val (.ref b), .val (.int (3 : Int32)), .val (.int (7 : Int32)), .val (.ref d), .val (.int (0 : Int32)), .val (.int (1 : Int32)), .val (.int (0 : Int32)), .val (.ref aT), .val (.int (4 : Int32)), .val (.int (0 : Int32)), .val (.int u0), .val (.int u1), .val (.int u2), .unset, .unset]) rfl rfl ?_
  refine Wk.aload (pc' := 83) C d_jdk_2450m8_81 rfl rfl rfl ?_
  refine Wk.aloadN (pc' := 84) C d_jdk_2450m8_83 rfl rfl rfl ?_
  refine Wk.iloadN (pc' := 85) C d_jdk_2450m8_84 rfl rfl ?_
  refine Wk.iinc (pc' := 88) C d_jdk_2450m8_85 rfl (v := (4 : Int32)) (by decide) (Ls' := #[.val (.ref aD), .val (.ref b), .val (.int (4 : Int32)), .val (.int (7 : Int32)), .val (.ref d), .val (.int (0 : Int32)), .val (.int (1 : Int32)), .val (.int (0 : Int32)), .val (.ref aT), .val (.int (4 : Int32)), .val (.int (0 : Int32)), .val (.int u0), .val (.int u1), .val (.int u2), .unset, .unset]) rfl rfl ?_
  refine Wk.baload (pc' := 89) C d_jdk_2450m8_88 V (by decide) (v := (.int x3)) rfl rfl ?_
  refine Wk.sipush (pc' := 92) C d_jdk_2450m8_89 (v := (255 : Int32)) rfl rfl ?_
  obtain ⟨v16, hv16⟩ : ∃ z : Int32, x3 &&& (255 : Int32) = z := ⟨_, rfl⟩
  refine Wk.iand (pc' := 93) C d_jdk_2450m8_92 hv16 rfl ?_
  refine Wk.iaload (pc' := 94) C d_jdk_2450m8_93 (bs.2.2.2.2.2.2.2.1.ext O0) (own_tab hv16 t3).1 (v := (.int u3)) (own_tab hv16 t3).2 rfl ?_
  refine Wk.istore (pc' := 96) C d_jdk_2450m8_94 (Ls' := #[.val (.ref aD), .val (.ref b), .val (.int (4 : Int32)), .val (.int (7 : Int32)), .val (.ref d), .val (.int (0 : Int32)), .val (.int (1 : Int32)), .val (.int (0 : Int32)), .val (.ref aT), .val (.int (4 : Int32)), .val (.int (0 : Int32)), .val (.int u0), .val (.int u1), .val (.int u2), .val (.int u3), .unset]) rfl rfl ?_
  refine Wk.iload (pc' := 98) C d_jdk_2450m8_96 rfl rfl ?_
  refine Wk.iload (pc' := 100) C d_jdk_2450m8_98 rfl rfl ?_
  obtain ⟨v17, hv17⟩ : ∃ z : Int32, u0 ||| u1 = z := ⟨_, rfl⟩
  refine Wk.ior (pc' := 101) C d_jdk_2450m8_100 hv17 rfl ?_
  refine Wk.iload (pc' := 103) C d_jdk_2450m8_101 rfl rfl ?_
  obtain ⟨v18, hv18⟩ : ∃ z : Int32, v17 ||| u2 = z := ⟨_, rfl⟩
  refine Wk.ior (pc' := 104) C d_jdk_2450m8_103 hv18 rfl ?_
  refine Wk.iload (pc' := 106) C d_jdk_2450m8_104 rfl rfl ?_
  obtain ⟨v19, hv19⟩ : ∃ z : Int32, v18 ||| u3 = z := ⟨_, rfl⟩
  refine Wk.ior (pc' := 107) C d_jdk_2450m8_106 hv19 rfl ?_
  refine Wk.if_ge C d_jdk_2450m8_107 (by decide) (pcT := 116) (by decide) (pc' := 110) rfl (fun q20 => ?_) (fun q => absurd q (own_orN hv19 (own_orN hv18 (own_orN hv17 t0.2.2.1 t1.2.2.1) t2.2.2.1) t3.2.2.1))
  refine Wk.iload (pc' := 118) C d_jdk_2450m8_116 rfl rfl ?_
  refine Wk.bipush (pc' := 120) C d_jdk_2450m8_118 (v := (18 : Int32)) rfl rfl ?_
  obtain ⟨v21, hv21⟩ : ∃ z : Int32, u0 <<< ((18 : Int32) &&& 31) = z := ⟨_, rfl⟩
  refine Wk.ishl (pc' := 121) C d_jdk_2450m8_120 hv21 rfl ?_
  refine Wk.iload (pc' := 123) C d_jdk_2450m8_121 rfl rfl ?_
  refine Wk.bipush (pc' := 125) C d_jdk_2450m8_123 (v := (12 : Int32)) rfl rfl ?_
  obtain ⟨v22, hv22⟩ : ∃ z : Int32, u1 <<< ((12 : Int32) &&& 31) = z := ⟨_, rfl⟩
  refine Wk.ishl (pc' := 126) C d_jdk_2450m8_125 hv22 rfl ?_
  obtain ⟨v23, hv23⟩ : ∃ z : Int32, v21 ||| v22 = z := ⟨_, rfl⟩
  refine Wk.ior (pc' := 127) C d_jdk_2450m8_126 hv23 rfl ?_
  refine Wk.iload (pc' := 129) C d_jdk_2450m8_127 rfl rfl ?_
  refine Wk.bipush (pc' := 131) C d_jdk_2450m8_129 (v := (6 : Int32)) rfl rfl ?_
  obtain ⟨v24, hv24⟩ : ∃ z : Int32, u2 <<< ((6 : Int32) &&& 31) = z := ⟨_, rfl⟩
  refine Wk.ishl (pc' := 132) C d_jdk_2450m8_131 hv24 rfl ?_
  obtain ⟨v25, hv25⟩ : ∃ z : Int32, v23 ||| v24 = z := ⟨_, rfl⟩
  refine Wk.ior (pc' := 133) C d_jdk_2450m8_132 hv25 rfl ?_
  refine Wk.iload (pc' := 135) C d_jdk_2450m8_133 rfl rfl ?_
  obtain ⟨v26, hv26⟩ : ∃ z : Int32, v25 ||| u3 = z := ⟨_, rfl⟩
  refine Wk.ior (pc' := 136) C d_jdk_2450m8_135 hv26 rfl ?_
  refine Wk.istore (pc' := 138) C d_jdk_2450m8_136 (Ls' := #[.val (.ref aD), .val (.ref b), .val (.int (4 : Int32)), .val (.int (7 : Int32)), .val (.ref d), .val (.int (0 : Int32)), .val (.int (1 : Int32)), .val (.int (0 : Int32)), .val (.ref aT), .val (.int (4 : Int32)), .val (.int (0 : Int32)), .val (.int u0), .val (.int u1), .val (.int u2), .val (.int u3), .val (.int v26)]) rfl rfl ?_
  refine Wk.aload (pc' := 140) C d_jdk_2450m8_138 rfl rfl rfl ?_
  refine Wk.iload (pc' := 142) C d_jdk_2450m8_140 rfl rfl ?_
  refine Wk.iinc (pc' := 145) C d_jdk_2450m8_142 rfl (v := (1 : Int32)) (by decide) (Ls' := #[.val (.ref aD), .val (.ref b), .val (.int (4 : Int32)), .val (.int (7 : Int32)), .val (.ref d), .val (.int (0 : Int32)), .val (.int (1 : Int32)), .val (.int (0 : Int32)), .val (.ref aT), .val (.int (4 : Int32)), .val (.int (1 : Int32)), .val (.int u0), .val (.int u1), .val (.int u2), .val (.int u3), .val (.int v26)]) rfl rfl ?_
  refine Wk.iload (pc' := 147) C d_jdk_2450m8_145 rfl rfl ?_
  refine Wk.bipush (pc' := 149) C d_jdk_2450m8_147 (v := (16 : Int32)) rfl rfl ?_
  obtain ⟨v27, hv27⟩ : ∃ z : Int32, v26 >>> ((16 : Int32) &&& 31) = z := ⟨_, rfl⟩
  refine Wk.ishr (pc' := 150) C d_jdk_2450m8_149 hv27 rfl ?_
  obtain ⟨v28, hv28⟩ : ∃ z : Int32, v27.toInt8.toInt32 = z := ⟨_, rfl⟩
  refine Wk.i2b (pc' := 151) C d_jdk_2450m8_150 hv28 rfl ?_
  refine Wk.bastore (pc' := 152) C d_jdk_2450m8_151 D (by decide) (show _ < _ from Nat.le_of_ble_eq_true rfl) (vs' := [(.int v28), (.int (0 : Int32)), (.int (0 : Int32)), (.int (0 : Int32)), (.int (0 : Int32))]) (by rw [Wk.nar_i2b hv28]; rfl) gd rfl ?_
  intro h29 W29 V29 O29
  refine Wk.aload (pc' := 154) C d_jdk_2450m8_152 rfl rfl rfl ?_
  refine Wk.iload (pc' := 156) C d_jdk_2450m8_154 rfl rfl ?_
  refine Wk.iinc (pc' := 159) C d_jdk_2450m8_156 rfl (v := (2 : Int32)) (by decide) (Ls' := #[.val (.ref aD), .val (.ref b), .val (.int (4 : Int32)), .val (.int (7 : Int32)), .val (.ref d), .val (.int (0 : Int32)), .val (.int (1 : Int32)), .val (.int (0 : Int32)), .val (.ref aT), .val (.int (4 : Int32)), .val (.int (2 : Int32)), .val (.int u0), .val (.int u1), .val (.int u2), .val (.int u3), .val (.int v26)]) rfl rfl ?_
  refine Wk.iload (pc' := 161) C d_jdk_2450m8_159 rfl rfl ?_
  refine Wk.bipush (pc' := 163) C d_jdk_2450m8_161 (v := (8 : Int32)) rfl rfl ?_
  obtain ⟨v30, hv30⟩ : ∃ z : Int32, v26 >>> ((8 : Int32) &&& 31) = z := ⟨_, rfl⟩
  refine Wk.ishr (pc' := 164) C d_jdk_2450m8_163 hv30 rfl ?_
  obtain ⟨v31, hv31⟩ : ∃ z : Int32, v30.toInt8.toInt32 = z := ⟨_, rfl⟩
  refine Wk.i2b (pc' := 165) C d_jdk_2450m8_164 hv31 rfl ?_
  refine Wk.bastore (pc' := 166) C d_jdk_2450m8_165 V29 (by decide) (show _ < _ from Nat.le_of_ble_eq_true rfl) (vs' := [(.int v28), (.int v31), (.int (0 : Int32)), (.int (0 : Int32)), (.int (0 : Int32))]) (by rw [Wk.nar_i2b hv31]; rfl) gd rfl ?_
  intro h32 W32 V32 O32
  refine Wk.aload (pc' := 168) C d_jdk_2450m8_166 rfl rfl rfl ?_
  refine Wk.iload (pc' := 170) C d_jdk_2450m8_168 rfl rfl ?_
  refine Wk.iinc (pc' := 173) C d_jdk_2450m8_170 rfl (v := (3 : Int32)) (by decide) (Ls' := #[.val (.ref aD), .val (.ref b), .val (.int (4 : Int32)), .val (.int (7 : Int32)), .val (.ref d), .val (.int (0 : Int32)), .val (.int (1 : Int32)), .val (.int (0 : Int32)), .val (.ref aT), .val (.int (4 : Int32)), .val (.int (3 : Int32)), .val (.int u0), .val (.int u1), .val (.int u2), .val (.int u3), .val (.int v26)]) rfl rfl ?_
  refine Wk.iload (pc' := 175) C d_jdk_2450m8_173 rfl rfl ?_
  obtain ⟨v33, hv33⟩ : ∃ z : Int32, v26.toInt8.toInt32 = z := ⟨_, rfl⟩
  refine Wk.i2b (pc' := 176) C d_jdk_2450m8_175 hv33 rfl ?_
  refine Wk.bastore (pc' := 177) C d_jdk_2450m8_176 V32 (by decide) (show _ < _ from Nat.le_of_ble_eq_true rfl) (vs' := [(.int v28), (.int v31), (.int v33), (.int (0 : Int32)), (.int (0 : Int32))]) (by rw [Wk.nar_i2b hv33]; rfl) gd rfl ?_
  intro h34 W34 V34 O34
  refine Wk.goto C d_jdk_2450m8_177 (by decide) (pc' := 30) (by decide) ?_
  refine Wk.iloadN (pc' := 31) C d_jdk_2450m8_30 rfl rfl ?_
  refine Wk.iload (pc' := 33) C d_jdk_2450m8_31 rfl rfl ?_
  refine Wk.icmp_ge C d_jdk_2450m8_33 (by decide) (pcT := 180) (by decide) (pc' := 36) rfl (fun q35 => ?_) (fun q => absurd q (by decide))
  refine Wk.iload (pc' := 182) C d_jdk_2450m8_180 rfl rfl ?_
  refine Wk.iload (pc' := 184) C d_jdk_2450m8_182 rfl rfl ?_
  refine Wk.isub (pc' := 185) C d_jdk_2450m8_184 (v := (3 : Int32)) (by decide) rfl ?_
  have VD := V34
  have KP : Keep h0 h34 [d] := ((((Keep.refl _ _).wr W29 (Or.inl (List.mem_singleton.mpr rfl))).wr W32 (Or.inl (List.mem_singleton.mpr rfl))).wr W34 (Or.inl (List.mem_singleton.mpr rfl)))
  subst hv13 hv14 hv15 hv16 hv17 hv18 hv19 hv21 hv22 hv23 hv24 hv25 hv26 hv27 hv28 hv30 hv31 hv33
  exact Wk.retI C d_jdk_2450m8_185 (by decide) (by decide) ⟨rfl, KP, VD⟩
set_option maxRecDepth 65536 in
set_option maxHeartbeats 40000000 in
theorem own_blk_8 (l : Launch) {Z : State} {a0 : Array Value} (hw : Ws a0 Z) {h0 : Heap} (O0 : Ext Z.heap h0) {aD aT aI aU : Addr} (bs : BS Z aD aT aI aU) (b d : Addr) (x0 x1 x2 x3 x4 x5 x6 x7 : Int32) {u0 u1 u2 u3 u4 u5 u6 u7 : Int32}  (V : Wk.Ary Z h0 b .byte [(.int x0), (.int x1), (.int x2), (.int x3), (.int x4), (.int x5), (.int x6), (.int x7)]) (t0 : Tb x0 u0) (t1 : Tb x1 u1) (t2 : Tb x2 u2) (t3 : Tb x3 u3) (t4 : Tb x4 u4) (t5 : Tb x5 u5) (t6 : Tb x6 u6) (t7 : Tb x7 u7) (D : Wk.Ary Z h0 d .byte [(.int (0 : Int32)), (.int (0 : Int32)), (.int (0 : Int32)), (.int (0 : Int32)), (.int (0 : Int32)), (.int (0 : Int32))]) (gd : Z.heap.size ≤ d) (nbd : b ≠ d) (nTd : aT ≠ d)  :
    Wk.Con l Z (⟨"java/util/Base64$Decoder", "decodeBlock", "([BII[BIZZ)I"⟩ : MethodName) jdk_2450_method_8_code 16 (some .int) ({ frames := 0, cells := 0, slots := 0, locals := 0 } : Room) #[(.ref aD), (.ref b), (.int (0 : Int32)), (.int (8 : Int32)), (.ref d), (.int (0 : Int32)), (.int (1 : Int32)), (.int (0 : Int32))] h0 (fun v h' => v = some (.int (6 : Int32)) ∧ Keep h0 h' [d] ∧ Wk.Ary Z h' d .byte [(.int (((dW u0 u1 u2 u3) >>> ((16 : Int32) &&& 31)).toInt8.toInt32)), (.int (((dW u0 u1 u2 u3) >>> ((8 : Int32) &&& 31)).toInt8.toInt32)), (.int ((dW u0 u1 u2 u3).toInt8.toInt32)), (.int (((dW u4 u5 u6 u7) >>> ((16 : Int32) &&& 31)).toInt8.toInt32)), (.int (((dW u4 u5 u6 u7) >>> ((8 : Int32) &&& 31)).toInt8.toInt32)), (.int ((dW u4 u5 u6 u7).toInt8.toInt32))]) := by
  refine Wk.Con.intro (plainFor_of_name pn1) O0 (fun m => ef14 m aD b d) ?_
  intro W C
  replace C : Wk.Cx Z W "java/util/Base64$Decoder" "decodeBlock" jdk_2450_method_8_code 16 (some .int) := C
  refine Wk.iload (pc' := 2) C d_jdk_2450m8_0 rfl rfl ?_
  refine Wk.if_eq C d_jdk_2450m8_2 (by decide) (pcT := 11) (by decide) (pc' := 5) rfl (fun q => absurd q (by decide)) (fun q11 => ?_)
  refine Wk.getS (pc' := 8) C d_jdk_2450m8_5 (w125 hw) Via.refl (bs.2.1.ext O0) rfl ?_
  refine Wk.goto C d_jdk_2450m8_8 (by decide) (pc' := 14) (by decide) ?_
  refine Wk.astore (pc' := 16) C d_jdk_2450m8_14 rfl (Ls' := #[.val (.ref aD), .val (.ref b), .val (.int (0 : Int32)), .val (.int (8 : Int32)), .val (.ref d), .val (.int (0 : Int32)), .val (.int (1 : Int32)), .val (.int (0 : Int32)), .val (.ref aT), .unset, .unset, .unset, .unset, .unset, .unset, .unset]) rfl rfl ?_
  refine Wk.iloadN (pc' := 17) C d_jdk_2450m8_16 rfl rfl ?_
  refine Wk.iloadN (pc' := 18) C d_jdk_2450m8_17 rfl rfl ?_
  refine Wk.iloadN (pc' := 19) C d_jdk_2450m8_18 rfl rfl ?_
  refine Wk.isub (pc' := 20) C d_jdk_2450m8_19 (v := (8 : Int32)) (by decide) rfl ?_
  refine Wk.bipush (pc' := 22) C d_jdk_2450m8_20 (v := (-4 : Int32)) rfl rfl ?_
  refine Wk.iand (pc' := 23) C d_jdk_2450m8_22 (v := (8 : Int32)) (by decide) rfl ?_
  refine Wk.iadd (pc' := 24) C d_jdk_2450m8_23 (v := (8 : Int32)) (by decide) rfl ?_
  refine Wk.istore (pc' := 26) C d_jdk_2450m8_24 (Ls' := #[.val (.ref aD), .val (.ref b), .val (.int (0 : Int32)), .val (.int (8 : Int32)), .val (.ref d), .val (.int (0 : Int32)), .val (.int (1 : Int32)), .val (.int (0 : Int32)), .val (.ref aT), .val (.int (8 : Int32)), .unset, .unset, .unset, .unset, .unset, .unset]) rfl rfl ?_
  refine Wk.iload (pc' := 28) C d_jdk_2450m8_26 rfl rfl ?_
  refine Wk.istore (pc' := 30) C d_jdk_2450m8_28 (Ls' := #[.val (.ref aD), .val (.ref b), .val (.int (0 : Int32)), .val (.int (8 : Int32)), .val (.ref d), .val (.int (0 : Int32)), .val (.int (1 : Int32)), .val (.int (0 : Int32)), .val (.ref aT), .val (.int (8 : Int32)), .val (.int (0 : Int32)), .unset, .unset, .unset, .unset, .unset]) rfl rfl ?_
  refine Wk.iloadN (pc' := 31) C d_jdk_2450m8_30 rfl rfl ?_
  refine Wk.iload (pc' := 33) C d_jdk_2450m8_31 rfl rfl ?_
  refine Wk.icmp_ge C d_jdk_2450m8_33 (by decide) (pcT := 180) (by decide) (pc' := 36) rfl (fun q => absurd q (by decide)) (fun q12 => ?_)
  refine Wk.aload (pc' := 38) C d_jdk_2450m8_36 rfl rfl rfl ?_
  refine Wk.aloadN (pc' := 39) C d_jdk_2450m8_38 rfl rfl rfl ?_
  refine Wk.iloadN (pc' := 40) C d_jdk_2450m8_39 rfl rfl ?_
  refine Wk.iinc (pc' := 43) C d_jdk_2450m8_40 rfl (v := (1 : Int32)) (by decide) (Ls' := #[.val (.ref aD), .val (.ref b), .val (.int (1 : Int32)), .val (.int (8 : Int32)), .val (.ref d), .val (.int (0 : Int32)), .val (.int (1 : Int32)), .val (.int (0 : Int32)), .val (.ref aT), .val (.int (8 : Int32)), .val (.int (0 : Int32)), .unset, .unset, .unset, .unset, .unset]) rfl rfl ?_
  refine Wk.baload (pc' := 44) C d_jdk_2450m8_43 V (by decide) (v := (.int x0)) rfl rfl ?_
  refine Wk.sipush (pc' := 47) C d_jdk_2450m8_44 (v := (255 : Int32)) rfl rfl ?_
  obtain ⟨v13, hv13⟩ : ∃ z : Int32, x0 &&& (255 : Int32) = z := ⟨_, rfl⟩
  refine Wk.iand (pc' := 48) C d_jdk_2450m8_47 hv13 rfl ?_
  refine Wk.iaload (pc' := 49) C d_jdk_2450m8_48 (bs.2.2.2.2.2.2.2.1.ext O0) (own_tab hv13 t0).1 (v := (.int u0)) (own_tab hv13 t0).2 rfl ?_
  refine Wk.istore (pc' := 51) C d_jdk_2450m8_49 (Ls' := #[.val (.ref aD), .val (.ref b), .val (.int (1 : Int32)), .val (.int (8 : Int32)), .val (.ref d), .val (.int (0 : Int32)), .val (.int (1 : Int32)), .val (.int (0 : Int32)), .val (.ref aT), .val (.int (8 : Int32)), .val (.int (0 : Int32)), .val (.int u0), .unset, .unset, .unset, .unset]) rfl rfl ?_
  refine Wk.aload (pc' := 53) C d_jdk_2450m8_51 rfl rfl rfl ?_
  refine Wk.aloadN (pc' := 54) C d_jdk_2450m8_53 rfl rfl rfl ?_
  refine Wk.iloadN (pc' := 55) C d_jdk_2450m8_54 rfl rfl ?_
  refine Wk.iinc (pc' := 58) C d_jdk_2450m8_55 rfl (v := (2 : Int32)) (by decide) (Ls' := #[.val (.ref aD), .val (.ref b), .val (.int (2 : Int32)), .val (.int (8 : Int32)), .val (.ref d), .val (.int (0 : Int32)), .val (.int (1 : Int32)), .val (.int (0 : Int32)), .val (.ref aT), .val (.int (8 : Int32)), .val (.int (0 : Int32)), .val (.int u0), .unset, .unset, .unset, .unset]) rfl rfl ?_
  refine Wk.baload (pc' := 59) C d_jdk_2450m8_58 V (by decide) (v := (.int x1)) rfl rfl ?_
  refine Wk.sipush (pc' := 62) C d_jdk_2450m8_59 (v := (255 : Int32)) rfl rfl ?_
  obtain ⟨v14, hv14⟩ : ∃ z : Int32, x1 &&& (255 : Int32) = z := ⟨_, rfl⟩
  refine Wk.iand (pc' := 63) C d_jdk_2450m8_62 hv14 rfl ?_
  refine Wk.iaload (pc' := 64) C d_jdk_2450m8_63 (bs.2.2.2.2.2.2.2.1.ext O0) (own_tab hv14 t1).1 (v := (.int u1)) (own_tab hv14 t1).2 rfl ?_
  refine Wk.istore (pc' := 66) C d_jdk_2450m8_64 (Ls' := #[.val (.ref aD), .val (.ref b), .val (.int (2 : Int32)), .val (.int (8 : Int32)), .val (.ref d), .val (.int (0 : Int32)), .val (.int (1 : Int32)), .val (.int (0 : Int32)), .val (.ref aT), .val (.int (8 : Int32)), .val (.int (0 : Int32)), .val (.int u0), .val (.int u1), .unset, .unset, .unset]) rfl rfl ?_
  refine Wk.aload (pc' := 68) C d_jdk_2450m8_66 rfl rfl rfl ?_
  refine Wk.aloadN (pc' := 69) C d_jdk_2450m8_68 rfl rfl rfl ?_
  refine Wk.iloadN (pc' := 70) C d_jdk_2450m8_69 rfl rfl ?_
  refine Wk.iinc (pc' := 73) C d_jdk_2450m8_70 rfl (v := (3 : Int32)) (by decide) (Ls' := #[.val (.ref aD), .val (.ref b), .val (.int (3 : Int32)), .val (.int (8 : Int32)), .val (.ref d), .val (.int (0 : Int32)), .val (.int (1 : Int32)), .val (.int (0 : Int32)), .val (.ref aT), .val (.int (8 : Int32)), .val (.int (0 : Int32)), .val (.int u0), .val (.int u1), .unset, .unset, .unset]) rfl rfl ?_
  refine Wk.baload (pc' := 74) C d_jdk_2450m8_73 V (by decide) (v := (.int x2)) rfl rfl ?_
  refine Wk.sipush (pc' := 77) C d_jdk_2450m8_74 (v := (255 : Int32)) rfl rfl ?_
  obtain ⟨v15, hv15⟩ : ∃ z : Int32, x2 &&& (255 : Int32) = z := ⟨_, rfl⟩
  refine Wk.iand (pc' := 78) C d_jdk_2450m8_77 hv15 rfl ?_
  refine Wk.iaload (pc' := 79) C d_jdk_2450m8_78 (bs.2.2.2.2.2.2.2.1.ext O0) (own_tab hv15 t2).1 (v := (.int u2)) (own_tab hv15 t2).2 rfl ?_
  refine Wk.istore (pc' := 81) C d_jdk_2450m8_79 (Ls' := #[.val (.ref aD), .val (.ref b), .val (.int (3 : Int32)), .val (.int (8 : Int32)), .val (.ref d), .val (.int (0 : Int32)), .val (.int (1 : Int32)), .val (.int (0 : Int32)), .val (.ref aT), .val (.int (8 : Int32)), .val (.int (0 : Int32)), .val (.int u0), .val (.int u1), .val (.int u2), .unset, .unset]) rfl rfl ?_
  refine Wk.aload (pc' := 83) C d_jdk_2450m8_81 rfl rfl rfl ?_
  refine Wk.aloadN (pc' := 84) C d_jdk_2450m8_83 rfl rfl rfl ?_
  refine Wk.iloadN (pc' := 85) C d_jdk_2450m8_84 rfl rfl ?_
  refine Wk.iinc (pc' := 88) C d_jdk_2450m8_85 rfl (v := (4 : Int32)) (by decide) (Ls' := #[.val (.ref aD), .val (.ref b), .val (.int (4 : Int32)), .val (.int (8 : Int32)), .val (.ref d), .val (.int (0 : Int32)), .val (.int (1 : Int32)), .val (.int (0 : Int32)), .val (.ref aT), .val (.int (8 : Int32)), .val (.int (0 : Int32)), .val (.int u0), .val (.int u1), .val (.int u2), .unset, .unset]) rfl rfl ?_
  refine Wk.baload (pc' := 89) C d_jdk_2450m8_88 V (by decide) (v := (.int x3)) rfl rfl ?_
  refine Wk.sipush (pc' := 92) C d_jdk_2450m8_89 (v := (255 : Int32)) rfl rfl ?_
  obtain ⟨v16, hv16⟩ : ∃ z : Int32, x3 &&& (255 : Int32) = z := ⟨_, rfl⟩
  refine Wk.iand (pc' := 93) C d_jdk_2450m8_92 hv16 rfl ?_
  refine Wk.iaload (pc' := 94) C d_jdk_2450m8_93 (bs.2.2.2.2.2.2.2.1.ext O0) (own_tab hv16 t3).1 (v := (.int u3)) (own_tab hv16 t3).2 rfl ?_
  refine Wk.istore (pc' := 96) C d_jdk_2450m8_94 (Ls' := #[.val (.ref aD), .val (.ref b), .val (.int (4 : Int32)), .val (.int (8 : Int32)), .val (.ref d), .val (.int (0 : Int32)), .val (.int (1 : Int32)), .val (.int (0 : Int32)), .val (.ref aT), .val (.int (8 : Int32)), .val (.int (0 : Int32)), .val (.int u0), .val (.int u1), .val (.int u2), .val (.int u3), .unset]) rfl rfl ?_
  refine Wk.iload (pc' := 98) C d_jdk_2450m8_96 rfl rfl ?_
  refine Wk.iload (pc' := 100) C d_jdk_2450m8_98 rfl rfl ?_
  obtain ⟨v17, hv17⟩ : ∃ z : Int32, u0 ||| u1 = z := ⟨_, rfl⟩
  refine Wk.ior (pc' := 101) C d_jdk_2450m8_100 hv17 rfl ?_
  refine Wk.iload (pc' := 103) C d_jdk_2450m8_101 rfl rfl ?_
  obtain ⟨v18, hv18⟩ : ∃ z : Int32, v17 ||| u2 = z := ⟨_, rfl⟩
  refine Wk.ior (pc' := 104) C d_jdk_2450m8_103 hv18 rfl ?_
  refine Wk.iload (pc' := 106) C d_jdk_2450m8_104 rfl rfl ?_
  obtain ⟨v19, hv19⟩ : ∃ z : Int32, v18 ||| u3 = z := ⟨_, rfl⟩
  refine Wk.ior (pc' := 107) C d_jdk_2450m8_106 hv19 rfl ?_
  refine Wk.if_ge C d_jdk_2450m8_107 (by decide) (pcT := 116) (by decide) (pc' := 110) rfl (fun q20 => ?_) (fun q => absurd q (own_orN hv19 (own_orN hv18 (own_orN hv17 t0.2.2.1 t1.2.2.1) t2.2.2.1) t3.2.2.1))
  refine Wk.iload (pc' := 118) C d_jdk_2450m8_116 rfl rfl ?_
  refine Wk.bipush (pc' := 120) C d_jdk_2450m8_118 (v := (18 : Int32)) rfl rfl ?_
  obtain ⟨v21, hv21⟩ : ∃ z : Int32, u0 <<< ((18 : Int32) &&& 31) = z := ⟨_, rfl⟩
  refine Wk.ishl (pc' := 121) C d_jdk_2450m8_120 hv21 rfl ?_
  refine Wk.iload (pc' := 123) C d_jdk_2450m8_121 rfl rfl ?_
  refine Wk.bipush (pc' := 125) C d_jdk_2450m8_123 (v := (12 : Int32)) rfl rfl ?_
  obtain ⟨v22, hv22⟩ : ∃ z : Int32, u1 <<< ((12 : Int32) &&& 31) = z := ⟨_, rfl⟩
  refine Wk.ishl (pc' := 126) C d_jdk_2450m8_125 hv22 rfl ?_
  obtain ⟨v23, hv23⟩ : ∃ z : Int32, v21 ||| v22 = z := ⟨_, rfl⟩
  refine Wk.ior (pc' := 127) C d_jdk_2450m8_126 hv23 rfl ?_
  refine Wk.iload (pc' := 129) C d_jdk_2450m8_127 rfl rfl ?_
  refine Wk.bipush (pc' := 131) C d_jdk_2450m8_129 (v := (6 : Int32)) rfl rfl ?_
  obtain ⟨v24, hv24⟩ : ∃ z : Int32, u2 <<< ((6 : Int32) &&& 31) = z := ⟨_, rfl⟩
  refine Wk.ishl (pc' := 132) C d_jdk_2450m8_131 hv24 rfl ?_
  obtain ⟨v25, hv25⟩ : ∃ z : Int32, v23 ||| v24 = z := ⟨_, rfl⟩
  refine Wk.ior (pc' := 133) C d_jdk_2450m8_132 hv25 rfl ?_
  refine Wk.iload (pc' := 135) C d_jdk_2450m8_133 rfl rfl ?_
  obtain ⟨v26, hv26⟩ : ∃ z : Int32, v25 ||| u3 = z := ⟨_, rfl⟩
  refine Wk.ior (pc' := 136) C d_jdk_2450m8_135 hv26 rfl ?_
  refine Wk.istore (pc' := 138) C d_jdk_2450m8_136 (Ls' := #[.val (.ref aD), .val (.ref b), .val (.int (4 : Int32)), .val (.int (8 : Int32)), .val (.ref d), .val (.int (0 : Int32)), .val (.int (1 : Int32)), .val (.int (0 : Int32)), .val (.ref aT), .val (.int (8 : Int32)), .val (.int (0 : Int32)), .val (.int u0), .val (.int u1), .val (.int u2), .val (.int u3), .val (.int v26)]) rfl rfl ?_
  refine Wk.aload (pc' := 140) C d_jdk_2450m8_138 rfl rfl rfl ?_
  refine Wk.iload (pc' := 142) C d_jdk_2450m8_140 rfl rfl ?_
  refine Wk.iinc (pc' := 145) C d_jdk_2450m8_142 rfl (v := (1 : Int32)) (by decide) (Ls' := #[.val (.ref aD), .val (.ref b), .val (.int (4 : Int32)), .val (.int (8 : Int32)), .val (.ref d), .val (.int (0 : Int32)), .val (.int (1 : Int32)), .val (.int (0 : Int32)), .val (.ref aT), .val (.int (8 : Int32)), .val (.int (1 : Int32)), .val (.int u0), .val (.int u1), .val (.int u2), .val (.int u3), .val (.int v26)]) rfl rfl ?_
  refine Wk.iload (pc' := 147) C d_jdk_2450m8_145 rfl rfl ?_
  refine Wk.bipush (pc' := 149) C d_jdk_2450m8_147 (v := (16 : Int32)) rfl rfl ?_
  obtain ⟨v27, hv27⟩ : ∃ z : Int32, v26 >>> ((16 : Int32) &&& 31) = z := ⟨_, rfl⟩
  refine Wk.ishr (pc' := 150) C d_jdk_2450m8_149 hv27 rfl ?_
  obtain ⟨v28, hv28⟩ : ∃ z : Int32, v27.toInt8.toInt32 = z := ⟨_, rfl⟩
  refine Wk.i2b (pc' := 151) C d_jdk_2450m8_150 hv28 rfl ?_
  refine Wk.bastore (pc' := 152) C d_jdk_2450m8_151 D (by decide) (show _ < _ from Nat.le_of_ble_eq_true rfl) (vs' := [(.int v28), (.int (0 : Int32)), (.int (0 : Int32)), (.int (0 : Int32)), (.int (0 : Int32)), (.int (0 : Int32))]) (by rw [Wk.nar_i2b hv28]; rfl) gd rfl ?_
  intro h29 W29 V29 O29
  refine Wk.aload (pc' := 154) C d_jdk_2450m8_152 rfl rfl rfl ?_
  refine Wk.iload (pc' := 156) C d_jdk_2450m8_154 rfl rfl ?_
  refine Wk.iinc (pc' := 159) C d_jdk_2450m8_156 rfl (v := (2 : Int32)) (by decide) (Ls' := #[.val (.ref aD), .val (.ref b), .val (.int (4 : Int32)), .val (.int (8 : Int32)), .val (.ref d), .val (.int (0 : Int32)), .val (.int (1 : Int32)), .val (.int (0 : Int32)), .val (.ref aT), .val (.int (8 : Int32)), .val (.int (2 : Int32)), .val (.int u0), .val (.int u1), .val (.int u2), .val (.int u3), .val (.int v26)]) rfl rfl ?_
  refine Wk.iload (pc' := 161) C d_jdk_2450m8_159 rfl rfl ?_
  refine Wk.bipush (pc' := 163) C d_jdk_2450m8_161 (v := (8 : Int32)) rfl rfl ?_
  obtain ⟨v30, hv30⟩ : ∃ z : Int32, v26 >>> ((8 : Int32) &&& 31) = z := ⟨_, rfl⟩
  refine Wk.ishr (pc' := 164) C d_jdk_2450m8_163 hv30 rfl ?_
  obtain ⟨v31, hv31⟩ : ∃ z : Int32, v30.toInt8.toInt32 = z := ⟨_, rfl⟩
  refine Wk.i2b (pc' := 165) C d_jdk_2450m8_164 hv31 rfl ?_
  refine Wk.bastore (pc' := 166) C d_jdk_2450m8_165 V29 (by decide) (show _ < _ from Nat.le_of_ble_eq_true rfl) (vs' := [(.int v28), (.int v31), (.int (0 : Int32)), (.int (0 : Int32)), (.int (0 : Int32)), (.int (0 : Int32))]) (by rw [Wk.nar_i2b hv31]; rfl) gd rfl ?_
  intro h32 W32 V32 O32
  refine Wk.aload (pc' := 168) C d_jdk_2450m8_166 rfl rfl rfl ?_
  refine Wk.iload (pc' := 170) C d_jdk_2450m8_168 rfl rfl ?_
  refine Wk.iinc (pc' := 173) C d_jdk_2450m8_170 rfl (v := (3 : Int32)) (by decide) (Ls' := #[.val (.ref aD), .val (.ref b), .val (.int (4 : Int32)), .val (.int (8 : Int32)), .val (.ref d), .val (.int (0 : Int32)), .val (.int (1 : Int32)), .val (.int (0 : Int32)), .val (.ref aT), .val (.int (8 : Int32)), .val (.int (3 : Int32)), .val (.int u0), .val (.int u1), .val (.int u2), .val (.int u3), .val (.int v26)]) rfl rfl ?_
  refine Wk.iload (pc' := 175) C d_jdk_2450m8_173 rfl rfl ?_
  obtain ⟨v33, hv33⟩ : ∃ z : Int32, v26.toInt8.toInt32 = z := ⟨_, rfl⟩
  refine Wk.i2b (pc' := 176) C d_jdk_2450m8_175 hv33 rfl ?_
  refine Wk.bastore (pc' := 177) C d_jdk_2450m8_176 V32 (by decide) (show _ < _ from Nat.le_of_ble_eq_true rfl) (vs' := [(.int v28), (.int v31), (.int v33), (.int (0 : Int32)), (.int (0 : Int32)), (.int (0 : Int32))]) (by rw [Wk.nar_i2b hv33]; rfl) gd rfl ?_
  intro h34 W34 V34 O34
  refine Wk.goto C d_jdk_2450m8_177 (by decide) (pc' := 30) (by decide) ?_
  refine Wk.iloadN (pc' := 31) C d_jdk_2450m8_30 rfl rfl ?_
  refine Wk.iload (pc' := 33) C d_jdk_2450m8_31 rfl rfl ?_
  refine Wk.icmp_ge C d_jdk_2450m8_33 (by decide) (pcT := 180) (by decide) (pc' := 36) rfl (fun q => absurd q (by decide)) (fun q35 => ?_)
  refine Wk.aload (pc' := 38) C d_jdk_2450m8_36 rfl rfl rfl ?_
  refine Wk.aloadN (pc' := 39) C d_jdk_2450m8_38 rfl rfl rfl ?_
  refine Wk.iloadN (pc' := 40) C d_jdk_2450m8_39 rfl rfl ?_
  refine Wk.iinc (pc' := 43) C d_jdk_2450m8_40 rfl (v := (5 : Int32)) (by decide) (Ls' := #[.val (.ref aD), .val (.ref b), .val (.int (5 : Int32)), .val (.int (8 : Int32)), .val (.ref d), .val (.int (0 : Int32)), .val (.int (1 : Int32)), .val (.int (0 : Int32)), .val (.ref aT), .val (.int (8 : Int32)), .val (.int (3 : Int32)), .val (.int u0), .val (.int u1), .val (.int u2), .val (.int u3), .val (.int v26)]) rfl rfl ?_
  refine Wk.baload (pc' := 44) C d_jdk_2450m8_43 (((V.other W29 nbd).other W32 nbd).other W34 nbd) (by decide) (v := (.int x4)) rfl rfl ?_
  refine Wk.sipush (pc' := 47) C d_jdk_2450m8_44 (v := (255 : Int32)) rfl rfl ?_
  obtain ⟨v36, hv36⟩ : ∃ z : Int32, x4 &&& (255 : Int32) = z := ⟨_, rfl⟩
  refine Wk.iand (pc' := 48) C d_jdk_2450m8_47 hv36 rfl ?_
  refine Wk.iaload (pc' := 49) C d_jdk_2450m8_48 ((((bs.2.2.2.2.2.2.2.1.ext O0).other W29 nTd).other W32 nTd).other W34 nTd) (own_tab hv36 t4).1 (v := (.int u4)) (own_tab hv36 t4).2 rfl ?_
  refine Wk.istore (pc' := 51) C d_jdk_2450m8_49 (Ls' := #[.val (.ref aD), .val (.ref b), .val (.int (5 : Int32)), .val (.int (8 : Int32)), .val (.ref d), .val (.int (0 : Int32)), .val (.int (1 : Int32)), .val (.int (0 : Int32)), .val (.ref aT), .val (.int (8 : Int32)), .val (.int (3 : Int32)), .val (.int u4), .val (.int u1), .val (.int u2), .val (.int u3), .val (.int v26)]) rfl rfl ?_
  refine Wk.aload (pc' := 53) C d_jdk_2450m8_51 rfl rfl rfl ?_
  refine Wk.aloadN (pc' := 54) C d_jdk_2450m8_53 rfl rfl rfl ?_
  refine Wk.iloadN (pc' := 55) C d_jdk_2450m8_54 rfl rfl ?_
  refine Wk.iinc (pc' := 58) C d_jdk_2450m8_55 rfl (v := (6 : Int32)) (by decide) (Ls' := #[.val (.ref aD), .val (.ref b), .val (.int (6 : Int32)), .val (.int (8 : Int32)), .val (.ref d), .val (.int (0 : Int32)), .val (.int (1 : Int32)), .val (.int (0 : Int32)), .val (.ref aT), .val (.int (8 : Int32)), .val (.int (3 : Int32)), .val (.int u4), .val (.int u1), .val (.int u2), .val (.int u3), .val (.int v26)]) rfl rfl ?_
  refine Wk.baload (pc' := 59) C d_jdk_2450m8_58 (((V.other W29 nbd).other W32 nbd).other W34 nbd) (by decide) (v := (.int x5)) rfl rfl ?_
  refine Wk.sipush (pc' := 62) C d_jdk_2450m8_59 (v := (255 : Int32)) rfl rfl ?_
  obtain ⟨v37, hv37⟩ : ∃ z : Int32, x5 &&& (255 : Int32) = z := ⟨_, rfl⟩
  refine Wk.iand (pc' := 63) C d_jdk_2450m8_62 hv37 rfl ?_
  refine Wk.iaload (pc' := 64) C d_jdk_2450m8_63 ((((bs.2.2.2.2.2.2.2.1.ext O0).other W29 nTd).other W32 nTd).other W34 nTd) (own_tab hv37 t5).1 (v := (.int u5)) (own_tab hv37 t5).2 rfl ?_
  refine Wk.istore (pc' := 66) C d_jdk_2450m8_64 (Ls' := #[.val (.ref aD), .val (.ref b), .val (.int (6 : Int32)), .val (.int (8 : Int32)), .val (.ref d), .val (.int (0 : Int32)), .val (.int (1 : Int32)), .val (.int (0 : Int32)), .val (.ref aT), .val (.int (8 : Int32)), .val (.int (3 : Int32)), .val (.int u4), .val (.int u5), .val (.int u2), .val (.int u3), .val (.int v26)]) rfl rfl ?_
  refine Wk.aload (pc' := 68) C d_jdk_2450m8_66 rfl rfl rfl ?_
  refine Wk.aloadN (pc' := 69) C d_jdk_2450m8_68 rfl rfl rfl ?_
  refine Wk.iloadN (pc' := 70) C d_jdk_2450m8_69 rfl rfl ?_
  refine Wk.iinc (pc' := 73) C d_jdk_2450m8_70 rfl (v := (7 : Int32)) (by decide) (Ls' := #[.val (.ref aD), .val (.ref b), .val (.int (7 : Int32)), .val (.int (8 : Int32)), .val (.ref d), .val (.int (0 : Int32)), .val (.int (1 : Int32)), .val (.int (0 : Int32)), .val (.ref aT), .val (.int (8 : Int32)), .val (.int (3 : Int32)), .val (.int u4), .val (.int u5), .val (.int u2), .val (.int u3), .val (.int v26)]) rfl rfl ?_
  refine Wk.baload (pc' := 74) C d_jdk_2450m8_73 (((V.other W29 nbd).other W32 nbd).other W34 nbd) (by decide) (v := (.int x6)) rfl rfl ?_
  refine Wk.sipush (pc' := 77) C d_jdk_2450m8_74 (v := (255 : Int32)) rfl rfl ?_
  obtain ⟨v38, hv38⟩ : ∃ z : Int32, x6 &&& (255 : Int32) = z := ⟨_, rfl⟩
  refine Wk.iand (pc' := 78) C d_jdk_2450m8_77 hv38 rfl ?_
  refine Wk.iaload (pc' := 79) C d_jdk_2450m8_78 ((((bs.2.2.2.2.2.2.2.1.ext O0).other W29 nTd).other W32 nTd).other W34 nTd) (own_tab hv38 t6).1 (v := (.int u6)) (own_tab hv38 t6).2 rfl ?_
  refine Wk.istore (pc' := 81) C d_jdk_2450m8_79 (Ls' := #[.val (.ref aD), .val (.ref b), .val (.int (7 : Int32)), .val (.int (8 : Int32)), .val (.ref d), .val (.int (0 : Int32)), .val (.int (1 : Int32)), .val (.int (0 : Int32)), .val (.ref aT), .val (.int (8 : Int32)), .val (.int (3 : Int32)), .val (.int u4), .val (.int u5), .val (.int u6), .val (.int u3), .val (.int v26)]) rfl rfl ?_
  refine Wk.aload (pc' := 83) C d_jdk_2450m8_81 rfl rfl rfl ?_
  refine Wk.aloadN (pc' := 84) C d_jdk_2450m8_83 rfl rfl rfl ?_
  refine Wk.iloadN (pc' := 85) C d_jdk_2450m8_84 rfl rfl ?_
  refine Wk.iinc (pc' := 88) C d_jdk_2450m8_85 rfl (v := (8 : Int32)) (by decide) (Ls' := #[.val (.ref aD), .val (.ref b), .val (.int (8 : Int32)), .val (.int (8 : Int32)), .val (.ref d), .val (.int (0 : Int32)), .val (.int (1 : Int32)), .val (.int (0 : Int32)), .val (.ref aT), .val (.int (8 : Int32)), .val (.int (3 : Int32)), .val (.int u4), .val (.int u5), .val (.int u6), .val (.int u3), .val (.int v26)]) rfl rfl ?_
  refine Wk.baload (pc' := 89) C d_jdk_2450m8_88 (((V.other W29 nbd).other W32 nbd).other W34 nbd) (by decide) (v := (.int x7)) rfl rfl ?_
  refine Wk.sipush (pc' := 92) C d_jdk_2450m8_89 (v := (255 : Int32)) rfl rfl ?_
  obtain ⟨v39, hv39⟩ : ∃ z : Int32, x7 &&& (255 : Int32) = z := ⟨_, rfl⟩
  refine Wk.iand (pc' := 93) C d_jdk_2450m8_92 hv39 rfl ?_
  refine Wk.iaload (pc' := 94) C d_jdk_2450m8_93 ((((bs.2.2.2.2.2.2.2.1.ext O0).other W29 nTd).other W32 nTd).other W34 nTd) (own_tab hv39 t7).1 (v := (.int u7)) (own_tab hv39 t7).2 rfl ?_
  refine Wk.istore (pc' := 96) C d_jdk_2450m8_94 (Ls' := #[.val (.ref aD), .val (.ref b), .val (.int (8 : Int32)), .val (.int (8 : Int32)), .val (.ref d), .val (.int (0 : Int32)), .val (.int (1 : Int32)), .val (.int (0 : Int32)), .val (.ref aT), .val (.int (8 : Int32)), .val (.int (3 : Int32)), .val (.int u4), .val (.int u5), .val (.int u6), .val (.int u7), .val (.int v26)]) rfl rfl ?_
  refine Wk.iload (pc' := 98) C d_jdk_2450m8_96 rfl rfl ?_
  refine Wk.iload (pc' := 100) C d_jdk_2450m8_98 rfl rfl ?_
  obtain ⟨v40, hv40⟩ : ∃ z : Int32, u4 ||| u5 = z := ⟨_, rfl⟩
  refine Wk.ior (pc' := 101) C d_jdk_2450m8_100 hv40 rfl ?_
  refine Wk.iload (pc' := 103) C d_jdk_2450m8_101 rfl rfl ?_
  obtain ⟨v41, hv41⟩ : ∃ z : Int32, v40 ||| u6 = z := ⟨_, rfl⟩
  refine Wk.ior (pc' := 104) C d_jdk_2450m8_103 hv41 rfl ?_
  refine Wk.iload (pc' := 106) C d_jdk_2450m8_104 rfl rfl ?_
  obtain ⟨v42, hv42⟩ : ∃ z : Int32, v41 ||| u7 = z := ⟨_, rfl⟩
  refine Wk.ior (pc' := 107) C d_jdk_2450m8_106 hv42 rfl ?_
  refine Wk.if_ge C d_jdk_2450m8_107 (by decide) (pcT := 116) (by decide) (pc' := 110) rfl (fun q43 => ?_) (fun q => absurd q (own_orN hv42 (own_orN hv41 (own_orN hv40 t4.2.2.1 t5.2.2.1) t6.2.2.1) t7.2.2.1))
  refine Wk.iload (pc' := 118) C d_jdk_2450m8_116 rfl rfl ?_
  refine Wk.bipush (pc' := 120) C d_jdk_2450m8_118 (v := (18 : Int32)) rfl rfl ?_
  obtain ⟨v44, hv44⟩ : ∃ z : Int32, u4 <<< ((18 : Int32) &&& 31) = z := ⟨_, rfl⟩
  refine Wk.ishl (pc' := 121) C d_jdk_2450m8_120 hv44 rfl ?_
  refine Wk.iload (pc' := 123) C d_jdk_2450m8_121 rfl rfl ?_
  refine Wk.bipush (pc' := 125) C d_jdk_2450m8_123 (v := (12 : Int32)) rfl rfl ?_
  obtain ⟨v45, hv45⟩ : ∃ z : Int32, u5 <<< ((12 : Int32) &&& 31) = z := ⟨_, rfl⟩
  refine Wk.ishl (pc' := 126) C d_jdk_2450m8_125 hv45 rfl ?_
  obtain ⟨v46, hv46⟩ : ∃ z : Int32, v44 ||| v45 = z := ⟨_, rfl⟩
  refine Wk.ior (pc' := 127) C d_jdk_2450m8_126 hv46 rfl ?_
  refine Wk.iload (pc' := 129) C d_jdk_2450m8_127 rfl rfl ?_
  refine Wk.bipush (pc' := 131) C d_jdk_2450m8_129 (v := (6 : Int32)) rfl rfl ?_
  obtain ⟨v47, hv47⟩ : ∃ z : Int32, u6 <<< ((6 : Int32) &&& 31) = z := ⟨_, rfl⟩
  refine Wk.ishl (pc' := 132) C d_jdk_2450m8_131 hv47 rfl ?_
  obtain ⟨v48, hv48⟩ : ∃ z : Int32, v46 ||| v47 = z := ⟨_, rfl⟩
  refine Wk.ior (pc' := 133) C d_jdk_2450m8_132 hv48 rfl ?_
  refine Wk.iload (pc' := 135) C d_jdk_2450m8_133 rfl rfl ?_
  obtain ⟨v49, hv49⟩ : ∃ z : Int32, v48 ||| u7 = z := ⟨_, rfl⟩
  refine Wk.ior (pc' := 136) C d_jdk_2450m8_135 hv49 rfl ?_
  refine Wk.istore (pc' := 138) C d_jdk_2450m8_136 (Ls' := #[.val (.ref aD), .val (.ref b), .val (.int (8 : Int32)), .val (.int (8 : Int32)), .val (.ref d), .val (.int (0 : Int32)), .val (.int (1 : Int32)), .val (.int (0 : Int32)), .val (.ref aT), .val (.int (8 : Int32)), .val (.int (3 : Int32)), .val (.int u4), .val (.int u5), .val (.int u6), .val (.int u7), .val (.int v49)]) rfl rfl ?_
  refine Wk.aload (pc' := 140) C d_jdk_2450m8_138 rfl rfl rfl ?_
  refine Wk.iload (pc' := 142) C d_jdk_2450m8_140 rfl rfl ?_
  refine Wk.iinc (pc' := 145) C d_jdk_2450m8_142 rfl (v := (4 : Int32)) (by decide) (Ls' := #[.val (.ref aD), .val (.ref b), .val (.int (8 : Int32)), .val (.int (8 : Int32)), .val (.ref d), .val (.int (0 : Int32)), .val (.int (1 : Int32)), .val (.int (0 : Int32)), .val (.ref aT), .val (.int (8 : Int32)), .val (.int (4 : Int32)), .val (.int u4), .val (.int u5), .val (.int u6), .val (.int u7), .val (.int v49)]) rfl rfl ?_
  refine Wk.iload (pc' := 147) C d_jdk_2450m8_145 rfl rfl ?_
  refine Wk.bipush (pc' := 149) C d_jdk_2450m8_147 (v := (16 : Int32)) rfl rfl ?_
  obtain ⟨v50, hv50⟩ : ∃ z : Int32, v49 >>> ((16 : Int32) &&& 31) = z := ⟨_, rfl⟩
  refine Wk.ishr (pc' := 150) C d_jdk_2450m8_149 hv50 rfl ?_
  obtain ⟨v51, hv51⟩ : ∃ z : Int32, v50.toInt8.toInt32 = z := ⟨_, rfl⟩
  refine Wk.i2b (pc' := 151) C d_jdk_2450m8_150 hv51 rfl ?_
  refine Wk.bastore (pc' := 152) C d_jdk_2450m8_151 V34 (by decide) (show _ < _ from Nat.le_of_ble_eq_true rfl) (vs' := [(.int v28), (.int v31), (.int v33), (.int v51), (.int (0 : Int32)), (.int (0 : Int32))]) (by rw [Wk.nar_i2b hv51]; rfl) gd rfl ?_
  intro h52 W52 V52 O52
  refine Wk.aload (pc' := 154) C d_jdk_2450m8_152 rfl rfl rfl ?_
  refine Wk.iload (pc' := 156) C d_jdk_2450m8_154 rfl rfl ?_
  refine Wk.iinc (pc' := 159) C d_jdk_2450m8_156 rfl (v := (5 : Int32)) (by decide) (Ls' := #[.val (.ref aD), .val (.ref b), .val (.int (8 : Int32)), .val (.int (8 : Int32)), .val (.ref d), .val (.int (0 : Int32)), .val (.int (1 : Int32)), .val (.int (0 : Int32)), .val (.ref aT), .val (.int (8 : Int32)), .val (.int (5 : Int32)), .val (.int u4), .val (.int u5), .val (.int u6), .val (.int u7), .val (.int v49)]) rfl rfl ?_
  refine Wk.iload (pc' := 161) C d_jdk_2450m8_159 rfl rfl ?_
  refine Wk.bipush (pc' := 163) C d_jdk_2450m8_161 (v := (8 : Int32)) rfl rfl ?_
  obtain ⟨v53, hv53⟩ : ∃ z : Int32, v49 >>> ((8 : Int32) &&& 31) = z := ⟨_, rfl⟩
  refine Wk.ishr (pc' := 164) C d_jdk_2450m8_163 hv53 rfl ?_
  obtain ⟨v54, hv54⟩ : ∃ z : Int32, v53.toInt8.toInt32 = z := ⟨_, rfl⟩
  refine Wk.i2b (pc' := 165) C d_jdk_2450m8_164 hv54 rfl ?_
  refine Wk.bastore (pc' := 166) C d_jdk_2450m8_165 V52 (by decide) (show _ < _ from Nat.le_of_ble_eq_true rfl) (vs' := [(.int v28), (.int v31), (.int v33), (.int v51), (.int v54), (.int (0 : Int32))]) (by rw [Wk.nar_i2b hv54]; rfl) gd rfl ?_
  intro h55 W55 V55 O55
  refine Wk.aload (pc' := 168) C d_jdk_2450m8_166 rfl rfl rfl ?_
  refine Wk.iload (pc' := 170) C d_jdk_2450m8_168 rfl rfl ?_
  refine Wk.iinc (pc' := 173) C d_jdk_2450m8_170 rfl (v := (6 : Int32)) (by decide) (Ls' := #[.val (.ref aD), .val (.ref b), .val (.int (8 : Int32)), .val (.int (8 : Int32)), .val (.ref d), .val (.int (0 : Int32)), .val (.int (1 : Int32)), .val (.int (0 : Int32)), .val (.ref aT), .val (.int (8 : Int32)), .val (.int (6 : Int32)), .val (.int u4), .val (.int u5), .val (.int u6), .val (.int u7), .val (.int v49)]) rfl rfl ?_
  refine Wk.iload (pc' := 175) C d_jdk_2450m8_173 rfl rfl ?_
  obtain ⟨v56, hv56⟩ : ∃ z : Int32, v49.toInt8.toInt32 = z := ⟨_, rfl⟩
  refine Wk.i2b (pc' := 176) C d_jdk_2450m8_175 hv56 rfl ?_
  refine Wk.bastore (pc' := 177) C d_jdk_2450m8_176 V55 (by decide) (show _ < _ from Nat.le_of_ble_eq_true rfl) (vs' := [(.int v28), (.int v31), (.int v33), (.int v51), (.int v54), (.int v56)]) (by rw [Wk.nar_i2b hv56]; rfl) gd rfl ?_
  intro h57 W57 V57 O57
  refine Wk.goto C d_jdk_2450m8_177 (by decide) (pc' := 30) (by decide) ?_
  refine Wk.iloadN (pc' := 31) C d_jdk_2450m8_30 rfl rfl ?_
  refine Wk.iload (pc' := 33) C d_jdk_2450m8_31 rfl rfl ?_
  refine Wk.icmp_ge C d_jdk_2450m8_33 (by decide) (pcT := 180) (by decide) (pc' := 36) rfl (fun q58 => ?_) (fun q => absurd q (by decide))
  refine Wk.iload (pc' := 182) C d_jdk_2450m8_180 rfl rfl ?_
  refine Wk.iload (pc' := 184) C d_jdk_2450m8_182 rfl rfl ?_
  refine Wk.isub (pc' := 185) C d_jdk_2450m8_184 (v := (6 : Int32)) (by decide) rfl ?_
  have VD := V57
  have KP : Keep h0 h57 [d] := (((((((Keep.refl _ _).wr W29 (Or.inl (List.mem_singleton.mpr rfl))).wr W32 (Or.inl (List.mem_singleton.mpr rfl))).wr W34 (Or.inl (List.mem_singleton.mpr rfl))).wr W52 (Or.inl (List.mem_singleton.mpr rfl))).wr W55 (Or.inl (List.mem_singleton.mpr rfl))).wr W57 (Or.inl (List.mem_singleton.mpr rfl)))
  subst hv13 hv14 hv15 hv16 hv17 hv18 hv19 hv21 hv22 hv23 hv24 hv25 hv26 hv27 hv28 hv30 hv31 hv33 hv36 hv37 hv38 hv39 hv40 hv41 hv42 hv44 hv45 hv46 hv47 hv48 hv49 hv50 hv51 hv53 hv54 hv56
  exact Wk.retI C d_jdk_2450m8_185 (by decide) (by decide) ⟨rfl, KP, VD⟩
set_option maxRecDepth 65536 in
set_option maxHeartbeats 40000000 in
theorem own_dec0_0 (l : Launch) {Z : State} {a0 : Array Value} (hw : Ws a0 Z) {h0 : Heap} (O0 : Ext Z.heap h0) {aD aT aI aU : Addr} (bs : BS Z aD aT aI aU) (b d : Addr)  (V : Wk.Ary Z h0 b .byte [])  (D : Wk.Ary Z h0 d .byte []) (gd : Z.heap.size ≤ d) (nbd : b ≠ d) (nTd : aT ≠ d)  :
    Wk.Con l Z (⟨"java/util/Base64$Decoder", "decode0", "([BII[B)I"⟩ : MethodName) jdk_2450_method_9_code 11 (some .int) ({ frames := 1, cells := 0, slots := 0, locals := 40 } : Room) #[(.ref aD), (.ref b), (.int (0 : Int32)), (.int (0 : Int32)), (.ref d)] h0 (fun v h' => v = some (.int (0 : Int32)) ∧ Keep h0 h' [d] ∧ Wk.Ary Z h' d .byte []) := by
  refine Wk.Con.intro (plainFor_of_name pn1) O0 (fun m => ef15 m aD b d) ?_
  intro W C
  replace C : Wk.Cx Z W "java/util/Base64$Decoder" "decode0" jdk_2450_method_9_code 11 (some .int) := C
  refine Wk.aloadN (pc' := 1) C d_jdk_2450m9_0 rfl rfl rfl ?_
  refine Wk.getF (pc' := 4) C d_jdk_2450m9_1 (w123 hw) Via.refl (bs.2.2.2.2.2.1.ext O0) rfl ?_
  refine Wk.if_eq C d_jdk_2450m9_4 (by decide) (pcT := 13) (by decide) (pc' := 7) rfl (fun q => absurd q (by decide)) (fun q11 => ?_)
  refine Wk.getS (pc' := 10) C d_jdk_2450m9_7 (w125 hw) Via.refl (bs.2.1.ext O0) rfl ?_
  refine Wk.goto C d_jdk_2450m9_10 (by decide) (pc' := 16) (by decide) ?_
  refine Wk.astore (pc' := 18) C d_jdk_2450m9_16 rfl (Ls' := #[.val (.ref aD), .val (.ref b), .val (.int (0 : Int32)), .val (.int (0 : Int32)), .val (.ref d), .val (.ref aT), .unset, .unset, .unset, .unset, .unset]) rfl rfl ?_
  refine Wk.iconst (pc' := 19) C d_jdk_2450m9_18 (v := (0 : Int32)) rfl rfl ?_
  refine Wk.istore (pc' := 21) C d_jdk_2450m9_19 (Ls' := #[.val (.ref aD), .val (.ref b), .val (.int (0 : Int32)), .val (.int (0 : Int32)), .val (.ref d), .val (.ref aT), .val (.int (0 : Int32)), .unset, .unset, .unset, .unset]) rfl rfl ?_
  refine Wk.iconst (pc' := 22) C d_jdk_2450m9_21 (v := (0 : Int32)) rfl rfl ?_
  refine Wk.istore (pc' := 24) C d_jdk_2450m9_22 (Ls' := #[.val (.ref aD), .val (.ref b), .val (.int (0 : Int32)), .val (.int (0 : Int32)), .val (.ref d), .val (.ref aT), .val (.int (0 : Int32)), .val (.int (0 : Int32)), .unset, .unset, .unset]) rfl rfl ?_
  refine Wk.bipush (pc' := 26) C d_jdk_2450m9_24 (v := (18 : Int32)) rfl rfl ?_
  refine Wk.istore (pc' := 28) C d_jdk_2450m9_26 (Ls' := #[.val (.ref aD), .val (.ref b), .val (.int (0 : Int32)), .val (.int (0 : Int32)), .val (.ref d), .val (.ref aT), .val (.int (0 : Int32)), .val (.int (0 : Int32)), .val (.int (18 : Int32)), .unset, .unset]) rfl rfl ?_
  refine Wk.iloadN (pc' := 29) C d_jdk_2450m9_28 rfl rfl ?_
  refine Wk.iloadN (pc' := 30) C d_jdk_2450m9_29 rfl rfl ?_
  refine Wk.icmp_ge C d_jdk_2450m9_30 (by decide) (pcT := 281) (by decide) (pc' := 33) rfl (fun q12 => ?_) (fun q => absurd q (by decide))
  refine Wk.iload (pc' := 283) C d_jdk_2450m9_281 rfl rfl ?_
  refine Wk.bipush (pc' := 285) C d_jdk_2450m9_283 (v := (6 : Int32)) rfl rfl ?_
  refine Wk.icmp_ne C d_jdk_2450m9_285 (by decide) (pcT := 305) (by decide) (pc' := 288) rfl (fun q13 => ?_) (fun q => absurd q (by decide))
  refine Wk.iload (pc' := 307) C d_jdk_2450m9_305 rfl rfl ?_
  refine Wk.if_ne C d_jdk_2450m9_307 (by decide) (pcT := 341) (by decide) (pc' := 310) rfl (fun q14 => ?_) (fun q => absurd q (by decide))
  refine Wk.iload (pc' := 343) C d_jdk_2450m9_341 rfl rfl ?_
  refine Wk.bipush (pc' := 345) C d_jdk_2450m9_343 (v := (12 : Int32)) rfl rfl ?_
  refine Wk.icmp_ne C d_jdk_2450m9_345 (by decide) (pcT := 358) (by decide) (pc' := 348) rfl (fun q15 => ?_) (fun q => absurd q (by decide))
  refine Wk.iloadN (pc' := 359) C d_jdk_2450m9_358 rfl rfl ?_
  refine Wk.iloadN (pc' := 360) C d_jdk_2450m9_359 rfl rfl ?_
  refine Wk.icmp_ge C d_jdk_2450m9_360 (by decide) (pcT := 416) (by decide) (pc' := 363) rfl (fun q16 => ?_) (fun q => absurd q (by decide))
  refine Wk.iload (pc' := 418) C d_jdk_2450m9_416 rfl rfl ?_
  have VD := D
  have KP : Keep h0 h0 [d] := (Keep.refl _ _)
  exact Wk.retI C d_jdk_2450m9_418 (by decide) (by decide) ⟨rfl, KP, VD⟩
set_option maxRecDepth 65536 in
set_option maxHeartbeats 40000000 in
theorem own_dec0_2 (l : Launch) {Z : State} {a0 : Array Value} (hw : Ws a0 Z) {h0 : Heap} (O0 : Ext Z.heap h0) {aD aT aI aU : Addr} (bs : BS Z aD aT aI aU) (b d : Addr) (x0 x1 : Int32) {u0 u1 : Int32}  (V : Wk.Ary Z h0 b .byte [(.int x0), (.int x1)]) (t0 : Tb x0 u0) (t1 : Tb x1 u1) (D : Wk.Ary Z h0 d .byte [(.int (0 : Int32))]) (gd : Z.heap.size ≤ d) (nbd : b ≠ d) (nTd : aT ≠ d)  :
    Wk.Con l Z (⟨"java/util/Base64$Decoder", "decode0", "([BII[B)I"⟩ : MethodName) jdk_2450_method_9_code 11 (some .int) ({ frames := 1, cells := 0, slots := 0, locals := 40 } : Room) #[(.ref aD), (.ref b), (.int (0 : Int32)), (.int (2 : Int32)), (.ref d)] h0 (fun v h' => v = some (.int (1 : Int32)) ∧ Keep h0 h' [d] ∧ Wk.Ary Z h' d .byte [(.int (((dS2 u0 u1) >>> ((16 : Int32) &&& 31)).toInt8.toInt32))]) := by
  refine Wk.Con.intro (plainFor_of_name pn1) O0 (fun m => ef16 m aD b d) ?_
  intro W C
  replace C : Wk.Cx Z W "java/util/Base64$Decoder" "decode0" jdk_2450_method_9_code 11 (some .int) := C
  refine Wk.aloadN (pc' := 1) C d_jdk_2450m9_0 rfl rfl rfl ?_
  refine Wk.getF (pc' := 4) C d_jdk_2450m9_1 (w123 hw) Via.refl (bs.2.2.2.2.2.1.ext O0) rfl ?_
  refine Wk.if_eq C d_jdk_2450m9_4 (by decide) (pcT := 13) (by decide) (pc' := 7) rfl (fun q => absurd q (by decide)) (fun q11 => ?_)
  refine Wk.getS (pc' := 10) C d_jdk_2450m9_7 (w125 hw) Via.refl (bs.2.1.ext O0) rfl ?_
  refine Wk.goto C d_jdk_2450m9_10 (by decide) (pc' := 16) (by decide) ?_
  refine Wk.astore (pc' := 18) C d_jdk_2450m9_16 rfl (Ls' := #[.val (.ref aD), .val (.ref b), .val (.int (0 : Int32)), .val (.int (2 : Int32)), .val (.ref d), .val (.ref aT), .unset, .unset, .unset, .unset, .unset]) rfl rfl ?_
  refine Wk.iconst (pc' := 19) C d_jdk_2450m9_18 (v := (0 : Int32)) rfl rfl ?_
  refine Wk.istore (pc' := 21) C d_jdk_2450m9_19 (Ls' := #[.val (.ref aD), .val (.ref b), .val (.int (0 : Int32)), .val (.int (2 : Int32)), .val (.ref d), .val (.ref aT), .val (.int (0 : Int32)), .unset, .unset, .unset, .unset]) rfl rfl ?_
  refine Wk.iconst (pc' := 22) C d_jdk_2450m9_21 (v := (0 : Int32)) rfl rfl ?_
  refine Wk.istore (pc' := 24) C d_jdk_2450m9_22 (Ls' := #[.val (.ref aD), .val (.ref b), .val (.int (0 : Int32)), .val (.int (2 : Int32)), .val (.ref d), .val (.ref aT), .val (.int (0 : Int32)), .val (.int (0 : Int32)), .unset, .unset, .unset]) rfl rfl ?_
  refine Wk.bipush (pc' := 26) C d_jdk_2450m9_24 (v := (18 : Int32)) rfl rfl ?_
  refine Wk.istore (pc' := 28) C d_jdk_2450m9_26 (Ls' := #[.val (.ref aD), .val (.ref b), .val (.int (0 : Int32)), .val (.int (2 : Int32)), .val (.ref d), .val (.ref aT), .val (.int (0 : Int32)), .val (.int (0 : Int32)), .val (.int (18 : Int32)), .unset, .unset]) rfl rfl ?_
  refine Wk.iloadN (pc' := 29) C d_jdk_2450m9_28 rfl rfl ?_
  refine Wk.iloadN (pc' := 30) C d_jdk_2450m9_29 rfl rfl ?_
  refine Wk.icmp_ge C d_jdk_2450m9_30 (by decide) (pcT := 281) (by decide) (pc' := 33) rfl (fun q => absurd q (by decide)) (fun q12 => ?_)
  refine Wk.iload (pc' := 35) C d_jdk_2450m9_33 rfl rfl ?_
  refine Wk.bipush (pc' := 37) C d_jdk_2450m9_35 (v := (18 : Int32)) rfl rfl ?_
  refine Wk.icmp_ne C d_jdk_2450m9_37 (by decide) (pcT := 90) (by decide) (pc' := 40) rfl (fun q => absurd q (by decide)) (fun q13 => ?_)
  refine Wk.iloadN (pc' := 41) C d_jdk_2450m9_40 rfl rfl ?_
  refine Wk.iloadN (pc' := 42) C d_jdk_2450m9_41 rfl rfl ?_
  refine Wk.iconst (pc' := 43) C d_jdk_2450m9_42 (v := (4 : Int32)) rfl rfl ?_
  refine Wk.isub (pc' := 44) C d_jdk_2450m9_43 (v := (-2 : Int32)) (by decide) rfl ?_
  refine Wk.icmp_ge C d_jdk_2450m9_44 (by decide) (pcT := 90) (by decide) (pc' := 47) rfl (fun q14 => ?_) (fun q => absurd q (by decide))
  refine Wk.iloadN (pc' := 91) C d_jdk_2450m9_90 rfl rfl ?_
  refine Wk.iloadN (pc' := 92) C d_jdk_2450m9_91 rfl rfl ?_
  refine Wk.icmp_lt C d_jdk_2450m9_92 (by decide) (pcT := 98) (by decide) (pc' := 95) rfl (fun q15 => ?_) (fun q => absurd q (by decide))
  refine Wk.aloadN (pc' := 99) C d_jdk_2450m9_98 rfl rfl rfl ?_
  refine Wk.iloadN (pc' := 100) C d_jdk_2450m9_99 rfl rfl ?_
  refine Wk.iinc (pc' := 103) C d_jdk_2450m9_100 rfl (v := (1 : Int32)) (by decide) (Ls' := #[.val (.ref aD), .val (.ref b), .val (.int (1 : Int32)), .val (.int (2 : Int32)), .val (.ref d), .val (.ref aT), .val (.int (0 : Int32)), .val (.int (0 : Int32)), .val (.int (18 : Int32)), .unset, .unset]) rfl rfl ?_
  refine Wk.baload (pc' := 104) C d_jdk_2450m9_103 V (by decide) (v := (.int x0)) rfl rfl ?_
  refine Wk.sipush (pc' := 107) C d_jdk_2450m9_104 (v := (255 : Int32)) rfl rfl ?_
  obtain ⟨v16, hv16⟩ : ∃ z : Int32, x0 &&& (255 : Int32) = z := ⟨_, rfl⟩
  refine Wk.iand (pc' := 108) C d_jdk_2450m9_107 hv16 rfl ?_
  refine Wk.istore (pc' := 110) C d_jdk_2450m9_108 (Ls' := #[.val (.ref aD), .val (.ref b), .val (.int (1 : Int32)), .val (.int (2 : Int32)), .val (.ref d), .val (.ref aT), .val (.int (0 : Int32)), .val (.int (0 : Int32)), .val (.int (18 : Int32)), .val (.int v16), .unset]) rfl rfl ?_
  refine Wk.aload (pc' := 112) C d_jdk_2450m9_110 rfl rfl rfl ?_
  refine Wk.iload (pc' := 114) C d_jdk_2450m9_112 rfl rfl ?_
  refine Wk.iaload (pc' := 115) C d_jdk_2450m9_114 (bs.2.2.2.2.2.2.2.1.ext O0) (own_tab hv16 t0).1 (v := (.int u0)) (own_tab hv16 t0).2 rfl ?_
  refine Wk.dup (pc' := 116) C d_jdk_2450m9_115 rfl rfl ?_
  refine Wk.istore (pc' := 118) C d_jdk_2450m9_116 (Ls' := #[.val (.ref aD), .val (.ref b), .val (.int (1 : Int32)), .val (.int (2 : Int32)), .val (.ref d), .val (.ref aT), .val (.int (0 : Int32)), .val (.int (0 : Int32)), .val (.int (18 : Int32)), .val (.int u0), .unset]) rfl rfl ?_
  refine Wk.if_ge C d_jdk_2450m9_118 (by decide) (pcT := 214) (by decide) (pc' := 121) rfl (fun q17 => ?_) (fun q => absurd q t0.2.2.1)
  refine Wk.iload (pc' := 216) C d_jdk_2450m9_214 rfl rfl ?_
  refine Wk.iload (pc' := 218) C d_jdk_2450m9_216 rfl rfl ?_
  refine Wk.iload (pc' := 220) C d_jdk_2450m9_218 rfl rfl ?_
  obtain ⟨v18, hv18⟩ : ∃ z : Int32, u0 <<< ((18 : Int32) &&& 31) = z := ⟨_, rfl⟩
  refine Wk.ishl (pc' := 221) C d_jdk_2450m9_220 hv18 rfl ?_
  obtain ⟨v19, hv19⟩ : ∃ z : Int32, (0 : Int32) ||| v18 = z := ⟨_, rfl⟩
  refine Wk.ior (pc' := 222) C d_jdk_2450m9_221 hv19 rfl ?_
  refine Wk.istore (pc' := 224) C d_jdk_2450m9_222 (Ls' := #[.val (.ref aD), .val (.ref b), .val (.int (1 : Int32)), .val (.int (2 : Int32)), .val (.ref d), .val (.ref aT), .val (.int (0 : Int32)), .val (.int v19), .val (.int (18 : Int32)), .val (.int u0), .unset]) rfl rfl ?_
  refine Wk.iinc (pc' := 227) C d_jdk_2450m9_224 rfl (v := (12 : Int32)) (by decide) (Ls' := #[.val (.ref aD), .val (.ref b), .val (.int (1 : Int32)), .val (.int (2 : Int32)), .val (.ref d), .val (.ref aT), .val (.int (0 : Int32)), .val (.int v19), .val (.int (12 : Int32)), .val (.int u0), .unset]) rfl rfl ?_
  refine Wk.iload (pc' := 229) C d_jdk_2450m9_227 rfl rfl ?_
  refine Wk.if_ge C d_jdk_2450m9_229 (by decide) (pcT := 278) (by decide) (pc' := 232) rfl (fun q20 => ?_) (fun q => absurd q (by decide))
  refine Wk.goto C d_jdk_2450m9_278 (by decide) (pc' := 28) (by decide) ?_
  refine Wk.iloadN (pc' := 29) C d_jdk_2450m9_28 rfl rfl ?_
  refine Wk.iloadN (pc' := 30) C d_jdk_2450m9_29 rfl rfl ?_
  refine Wk.icmp_ge C d_jdk_2450m9_30 (by decide) (pcT := 281) (by decide) (pc' := 33) rfl (fun q => absurd q (by decide)) (fun q21 => ?_)
  refine Wk.iload (pc' := 35) C d_jdk_2450m9_33 rfl rfl ?_
  refine Wk.bipush (pc' := 37) C d_jdk_2450m9_35 (v := (18 : Int32)) rfl rfl ?_
  refine Wk.icmp_ne C d_jdk_2450m9_37 (by decide) (pcT := 90) (by decide) (pc' := 40) rfl (fun q22 => ?_) (fun q => absurd q (by decide))
  refine Wk.iloadN (pc' := 91) C d_jdk_2450m9_90 rfl rfl ?_
  refine Wk.iloadN (pc' := 92) C d_jdk_2450m9_91 rfl rfl ?_
  refine Wk.icmp_lt C d_jdk_2450m9_92 (by decide) (pcT := 98) (by decide) (pc' := 95) rfl (fun q23 => ?_) (fun q => absurd q (by decide))
  refine Wk.aloadN (pc' := 99) C d_jdk_2450m9_98 rfl rfl rfl ?_
  refine Wk.iloadN (pc' := 100) C d_jdk_2450m9_99 rfl rfl ?_
  refine Wk.iinc (pc' := 103) C d_jdk_2450m9_100 rfl (v := (2 : Int32)) (by decide) (Ls' := #[.val (.ref aD), .val (.ref b), .val (.int (2 : Int32)), .val (.int (2 : Int32)), .val (.ref d), .val (.ref aT), .val (.int (0 : Int32)), .val (.int v19), .val (.int (12 : Int32)), .val (.int u0), .unset]) rfl rfl ?_
  refine Wk.baload (pc' := 104) C d_jdk_2450m9_103 V (by decide) (v := (.int x1)) rfl rfl ?_
  refine Wk.sipush (pc' := 107) C d_jdk_2450m9_104 (v := (255 : Int32)) rfl rfl ?_
  obtain ⟨v24, hv24⟩ : ∃ z : Int32, x1 &&& (255 : Int32) = z := ⟨_, rfl⟩
  refine Wk.iand (pc' := 108) C d_jdk_2450m9_107 hv24 rfl ?_
  refine Wk.istore (pc' := 110) C d_jdk_2450m9_108 (Ls' := #[.val (.ref aD), .val (.ref b), .val (.int (2 : Int32)), .val (.int (2 : Int32)), .val (.ref d), .val (.ref aT), .val (.int (0 : Int32)), .val (.int v19), .val (.int (12 : Int32)), .val (.int v24), .unset]) rfl rfl ?_
  refine Wk.aload (pc' := 112) C d_jdk_2450m9_110 rfl rfl rfl ?_
  refine Wk.iload (pc' := 114) C d_jdk_2450m9_112 rfl rfl ?_
  refine Wk.iaload (pc' := 115) C d_jdk_2450m9_114 (bs.2.2.2.2.2.2.2.1.ext O0) (own_tab hv24 t1).1 (v := (.int u1)) (own_tab hv24 t1).2 rfl ?_
  refine Wk.dup (pc' := 116) C d_jdk_2450m9_115 rfl rfl ?_
  refine Wk.istore (pc' := 118) C d_jdk_2450m9_116 (Ls' := #[.val (.ref aD), .val (.ref b), .val (.int (2 : Int32)), .val (.int (2 : Int32)), .val (.ref d), .val (.ref aT), .val (.int (0 : Int32)), .val (.int v19), .val (.int (12 : Int32)), .val (.int u1), .unset]) rfl rfl ?_
  refine Wk.if_ge C d_jdk_2450m9_118 (by decide) (pcT := 214) (by decide) (pc' := 121) rfl (fun q25 => ?_) (fun q => absurd q t1.2.2.1)
  refine Wk.iload (pc' := 216) C d_jdk_2450m9_214 rfl rfl ?_
  refine Wk.iload (pc' := 218) C d_jdk_2450m9_216 rfl rfl ?_
  refine Wk.iload (pc' := 220) C d_jdk_2450m9_218 rfl rfl ?_
  obtain ⟨v26, hv26⟩ : ∃ z : Int32, u1 <<< ((12 : Int32) &&& 31) = z := ⟨_, rfl⟩
  refine Wk.ishl (pc' := 221) C d_jdk_2450m9_220 hv26 rfl ?_
  obtain ⟨v27, hv27⟩ : ∃ z : Int32, v19 ||| v26 = z := ⟨_, rfl⟩
  refine Wk.ior (pc' := 222) C d_jdk_2450m9_221 hv27 rfl ?_
  refine Wk.istore (pc' := 224) C d_jdk_2450m9_222 (Ls' := #[.val (.ref aD), .val (.ref b), .val (.int (2 : Int32)), .val (.int (2 : Int32)), .val (.ref d), .val (.ref aT), .val (.int (0 : Int32)), .val (.int v27), .val (.int (12 : Int32)), .val (.int u1), .unset]) rfl rfl ?_
  refine Wk.iinc (pc' := 227) C d_jdk_2450m9_224 rfl (v := (6 : Int32)) (by decide) (Ls' := #[.val (.ref aD), .val (.ref b), .val (.int (2 : Int32)), .val (.int (2 : Int32)), .val (.ref d), .val (.ref aT), .val (.int (0 : Int32)), .val (.int v27), .val (.int (6 : Int32)), .val (.int u1), .unset]) rfl rfl ?_
  refine Wk.iload (pc' := 229) C d_jdk_2450m9_227 rfl rfl ?_
  refine Wk.if_ge C d_jdk_2450m9_229 (by decide) (pcT := 278) (by decide) (pc' := 232) rfl (fun q28 => ?_) (fun q => absurd q (by decide))
  refine Wk.goto C d_jdk_2450m9_278 (by decide) (pc' := 28) (by decide) ?_
  refine Wk.iloadN (pc' := 29) C d_jdk_2450m9_28 rfl rfl ?_
  refine Wk.iloadN (pc' := 30) C d_jdk_2450m9_29 rfl rfl ?_
  refine Wk.icmp_ge C d_jdk_2450m9_30 (by decide) (pcT := 281) (by decide) (pc' := 33) rfl (fun q29 => ?_) (fun q => absurd q (by decide))
  refine Wk.iload (pc' := 283) C d_jdk_2450m9_281 rfl rfl ?_
  refine Wk.bipush (pc' := 285) C d_jdk_2450m9_283 (v := (6 : Int32)) rfl rfl ?_
  refine Wk.icmp_ne C d_jdk_2450m9_285 (by decide) (pcT := 305) (by decide) (pc' := 288) rfl (fun q => absurd q (by decide)) (fun q30 => ?_)
  refine Wk.aload (pc' := 290) C d_jdk_2450m9_288 rfl rfl rfl ?_
  refine Wk.iload (pc' := 292) C d_jdk_2450m9_290 rfl rfl ?_
  refine Wk.iinc (pc' := 295) C d_jdk_2450m9_292 rfl (v := (1 : Int32)) (by decide) (Ls' := #[.val (.ref aD), .val (.ref b), .val (.int (2 : Int32)), .val (.int (2 : Int32)), .val (.ref d), .val (.ref aT), .val (.int (1 : Int32)), .val (.int v27), .val (.int (6 : Int32)), .val (.int u1), .unset]) rfl rfl ?_
  refine Wk.iload (pc' := 297) C d_jdk_2450m9_295 rfl rfl ?_
  refine Wk.bipush (pc' := 299) C d_jdk_2450m9_297 (v := (16 : Int32)) rfl rfl ?_
  obtain ⟨v31, hv31⟩ : ∃ z : Int32, v27 >>> ((16 : Int32) &&& 31) = z := ⟨_, rfl⟩
  refine Wk.ishr (pc' := 300) C d_jdk_2450m9_299 hv31 rfl ?_
  obtain ⟨v32, hv32⟩ : ∃ z : Int32, v31.toInt8.toInt32 = z := ⟨_, rfl⟩
  refine Wk.i2b (pc' := 301) C d_jdk_2450m9_300 hv32 rfl ?_
  refine Wk.bastore (pc' := 302) C d_jdk_2450m9_301 D (by decide) (show _ < _ from Nat.le_of_ble_eq_true rfl) (vs' := [(.int v32)]) (by rw [Wk.nar_i2b hv32]; rfl) gd rfl ?_
  intro h33 W33 V33 O33
  refine Wk.goto C d_jdk_2450m9_302 (by decide) (pc' := 358) (by decide) ?_
  refine Wk.iloadN (pc' := 359) C d_jdk_2450m9_358 rfl rfl ?_
  refine Wk.iloadN (pc' := 360) C d_jdk_2450m9_359 rfl rfl ?_
  refine Wk.icmp_ge C d_jdk_2450m9_360 (by decide) (pcT := 416) (by decide) (pc' := 363) rfl (fun q34 => ?_) (fun q => absurd q (by decide))
  refine Wk.iload (pc' := 418) C d_jdk_2450m9_416 rfl rfl ?_
  have VD := V33
  have KP : Keep h0 h33 [d] := ((Keep.refl _ _).wr W33 (Or.inl (List.mem_singleton.mpr rfl)))
  subst hv16 hv18 hv19 hv24 hv26 hv27 hv31 hv32
  exact Wk.retI C d_jdk_2450m9_418 (by decide) (by decide) ⟨rfl, KP, VD⟩
set_option maxRecDepth 65536 in
set_option maxHeartbeats 40000000 in
theorem own_dec0_3 (l : Launch) {Z : State} {a0 : Array Value} (hw : Ws a0 Z) {h0 : Heap} (O0 : Ext Z.heap h0) {aD aT aI aU : Addr} (bs : BS Z aD aT aI aU) (b d : Addr) (x0 x1 x2 : Int32) {u0 u1 u2 : Int32}  (V : Wk.Ary Z h0 b .byte [(.int x0), (.int x1), (.int x2)]) (t0 : Tb x0 u0) (t1 : Tb x1 u1) (t2 : Tb x2 u2) (D : Wk.Ary Z h0 d .byte [(.int (0 : Int32)), (.int (0 : Int32))]) (gd : Z.heap.size ≤ d) (nbd : b ≠ d) (nTd : aT ≠ d)  :
    Wk.Con l Z (⟨"java/util/Base64$Decoder", "decode0", "([BII[B)I"⟩ : MethodName) jdk_2450_method_9_code 11 (some .int) ({ frames := 1, cells := 0, slots := 0, locals := 40 } : Room) #[(.ref aD), (.ref b), (.int (0 : Int32)), (.int (3 : Int32)), (.ref d)] h0 (fun v h' => v = some (.int (2 : Int32)) ∧ Keep h0 h' [d] ∧ Wk.Ary Z h' d .byte [(.int (((dS3 u0 u1 u2) >>> ((16 : Int32) &&& 31)).toInt8.toInt32)), (.int (((dS3 u0 u1 u2) >>> ((8 : Int32) &&& 31)).toInt8.toInt32))]) := by
  refine Wk.Con.intro (plainFor_of_name pn1) O0 (fun m => ef17 m aD b d) ?_
  intro W C
  replace C : Wk.Cx Z W "java/util/Base64$Decoder" "decode0" jdk_2450_method_9_code 11 (some .int) := C
  refine Wk.aloadN (pc' := 1) C d_jdk_2450m9_0 rfl rfl rfl ?_
  refine Wk.getF (pc' := 4) C d_jdk_2450m9_1 (w123 hw) Via.refl (bs.2.2.2.2.2.1.ext O0) rfl ?_
  refine Wk.if_eq C d_jdk_2450m9_4 (by decide) (pcT := 13) (by decide) (pc' := 7) rfl (fun q => absurd q (by decide)) (fun q11 => ?_)
  refine Wk.getS (pc' := 10) C d_jdk_2450m9_7 (w125 hw) Via.refl (bs.2.1.ext O0) rfl ?_
  refine Wk.goto C d_jdk_2450m9_10 (by decide) (pc' := 16) (by decide) ?_
  refine Wk.astore (pc' := 18) C d_jdk_2450m9_16 rfl (Ls' := #[.val (.ref aD), .val (.ref b), .val (.int (0 : Int32)), .val (.int (3 : Int32)), .val (.ref d), .val (.ref aT), .unset, .unset, .unset, .unset, .unset]) rfl rfl ?_
  refine Wk.iconst (pc' := 19) C d_jdk_2450m9_18 (v := (0 : Int32)) rfl rfl ?_
  refine Wk.istore (pc' := 21) C d_jdk_2450m9_19 (Ls' := #[.val (.ref aD), .val (.ref b), .val (.int (0 : Int32)), .val (.int (3 : Int32)), .val (.ref d), .val (.ref aT), .val (.int (0 : Int32)), .unset, .unset, .unset, .unset]) rfl rfl ?_
  refine Wk.iconst (pc' := 22) C d_jdk_2450m9_21 (v := (0 : Int32)) rfl rfl ?_
  refine Wk.istore (pc' := 24) C d_jdk_2450m9_22 (Ls' := #[.val (.ref aD), .val (.ref b), .val (.int (0 : Int32)), .val (.int (3 : Int32)), .val (.ref d), .val (.ref aT), .val (.int (0 : Int32)), .val (.int (0 : Int32)), .unset, .unset, .unset]) rfl rfl ?_
  refine Wk.bipush (pc' := 26) C d_jdk_2450m9_24 (v := (18 : Int32)) rfl rfl ?_
  refine Wk.istore (pc' := 28) C d_jdk_2450m9_26 (Ls' := #[.val (.ref aD), .val (.ref b), .val (.int (0 : Int32)), .val (.int (3 : Int32)), .val (.ref d), .val (.ref aT), .val (.int (0 : Int32)), .val (.int (0 : Int32)), .val (.int (18 : Int32)), .unset, .unset]) rfl rfl ?_
  refine Wk.iloadN (pc' := 29) C d_jdk_2450m9_28 rfl rfl ?_
  refine Wk.iloadN (pc' := 30) C d_jdk_2450m9_29 rfl rfl ?_
  refine Wk.icmp_ge C d_jdk_2450m9_30 (by decide) (pcT := 281) (by decide) (pc' := 33) rfl (fun q => absurd q (by decide)) (fun q12 => ?_)
  refine Wk.iload (pc' := 35) C d_jdk_2450m9_33 rfl rfl ?_
  refine Wk.bipush (pc' := 37) C d_jdk_2450m9_35 (v := (18 : Int32)) rfl rfl ?_
  refine Wk.icmp_ne C d_jdk_2450m9_37 (by decide) (pcT := 90) (by decide) (pc' := 40) rfl (fun q => absurd q (by decide)) (fun q13 => ?_)
  refine Wk.iloadN (pc' := 41) C d_jdk_2450m9_40 rfl rfl ?_
  refine Wk.iloadN (pc' := 42) C d_jdk_2450m9_41 rfl rfl ?_
  refine Wk.iconst (pc' := 43) C d_jdk_2450m9_42 (v := (4 : Int32)) rfl rfl ?_
  refine Wk.isub (pc' := 44) C d_jdk_2450m9_43 (v := (-1 : Int32)) (by decide) rfl ?_
  refine Wk.icmp_ge C d_jdk_2450m9_44 (by decide) (pcT := 90) (by decide) (pc' := 47) rfl (fun q14 => ?_) (fun q => absurd q (by decide))
  refine Wk.iloadN (pc' := 91) C d_jdk_2450m9_90 rfl rfl ?_
  refine Wk.iloadN (pc' := 92) C d_jdk_2450m9_91 rfl rfl ?_
  refine Wk.icmp_lt C d_jdk_2450m9_92 (by decide) (pcT := 98) (by decide) (pc' := 95) rfl (fun q15 => ?_) (fun q => absurd q (by decide))
  refine Wk.aloadN (pc' := 99) C d_jdk_2450m9_98 rfl rfl rfl ?_
  refine Wk.iloadN (pc' := 100) C d_jdk_2450m9_99 rfl rfl ?_
  refine Wk.iinc (pc' := 103) C d_jdk_2450m9_100 rfl (v := (1 : Int32)) (by decide) (Ls' := #[.val (.ref aD), .val (.ref b), .val (.int (1 : Int32)), .val (.int (3 : Int32)), .val (.ref d), .val (.ref aT), .val (.int (0 : Int32)), .val (.int (0 : Int32)), .val (.int (18 : Int32)), .unset, .unset]) rfl rfl ?_
  refine Wk.baload (pc' := 104) C d_jdk_2450m9_103 V (by decide) (v := (.int x0)) rfl rfl ?_
  refine Wk.sipush (pc' := 107) C d_jdk_2450m9_104 (v := (255 : Int32)) rfl rfl ?_
  obtain ⟨v16, hv16⟩ : ∃ z : Int32, x0 &&& (255 : Int32) = z := ⟨_, rfl⟩
  refine Wk.iand (pc' := 108) C d_jdk_2450m9_107 hv16 rfl ?_
  refine Wk.istore (pc' := 110) C d_jdk_2450m9_108 (Ls' := #[.val (.ref aD), .val (.ref b), .val (.int (1 : Int32)), .val (.int (3 : Int32)), .val (.ref d), .val (.ref aT), .val (.int (0 : Int32)), .val (.int (0 : Int32)), .val (.int (18 : Int32)), .val (.int v16), .unset]) rfl rfl ?_
  refine Wk.aload (pc' := 112) C d_jdk_2450m9_110 rfl rfl rfl ?_
  refine Wk.iload (pc' := 114) C d_jdk_2450m9_112 rfl rfl ?_
  refine Wk.iaload (pc' := 115) C d_jdk_2450m9_114 (bs.2.2.2.2.2.2.2.1.ext O0) (own_tab hv16 t0).1 (v := (.int u0)) (own_tab hv16 t0).2 rfl ?_
  refine Wk.dup (pc' := 116) C d_jdk_2450m9_115 rfl rfl ?_
  refine Wk.istore (pc' := 118) C d_jdk_2450m9_116 (Ls' := #[.val (.ref aD), .val (.ref b), .val (.int (1 : Int32)), .val (.int (3 : Int32)), .val (.ref d), .val (.ref aT), .val (.int (0 : Int32)), .val (.int (0 : Int32)), .val (.int (18 : Int32)), .val (.int u0), .unset]) rfl rfl ?_
  refine Wk.if_ge C d_jdk_2450m9_118 (by decide) (pcT := 214) (by decide) (pc' := 121) rfl (fun q17 => ?_) (fun q => absurd q t0.2.2.1)
  refine Wk.iload (pc' := 216) C d_jdk_2450m9_214 rfl rfl ?_
  refine Wk.iload (pc' := 218) C d_jdk_2450m9_216 rfl rfl ?_
  refine Wk.iload (pc' := 220) C d_jdk_2450m9_218 rfl rfl ?_
  obtain ⟨v18, hv18⟩ : ∃ z : Int32, u0 <<< ((18 : Int32) &&& 31) = z := ⟨_, rfl⟩
  refine Wk.ishl (pc' := 221) C d_jdk_2450m9_220 hv18 rfl ?_
  obtain ⟨v19, hv19⟩ : ∃ z : Int32, (0 : Int32) ||| v18 = z := ⟨_, rfl⟩
  refine Wk.ior (pc' := 222) C d_jdk_2450m9_221 hv19 rfl ?_
  refine Wk.istore (pc' := 224) C d_jdk_2450m9_222 (Ls' := #[.val (.ref aD), .val (.ref b), .val (.int (1 : Int32)), .val (.int (3 : Int32)), .val (.ref d), .val (.ref aT), .val (.int (0 : Int32)), .val (.int v19), .val (.int (18 : Int32)), .val (.int u0), .unset]) rfl rfl ?_
  refine Wk.iinc (pc' := 227) C d_jdk_2450m9_224 rfl (v := (12 : Int32)) (by decide) (Ls' := #[.val (.ref aD), .val (.ref b), .val (.int (1 : Int32)), .val (.int (3 : Int32)), .val (.ref d), .val (.ref aT), .val (.int (0 : Int32)), .val (.int v19), .val (.int (12 : Int32)), .val (.int u0), .unset]) rfl rfl ?_
  refine Wk.iload (pc' := 229) C d_jdk_2450m9_227 rfl rfl ?_
  refine Wk.if_ge C d_jdk_2450m9_229 (by decide) (pcT := 278) (by decide) (pc' := 232) rfl (fun q20 => ?_) (fun q => absurd q (by decide))
  refine Wk.goto C d_jdk_2450m9_278 (by decide) (pc' := 28) (by decide) ?_
  refine Wk.iloadN (pc' := 29) C d_jdk_2450m9_28 rfl rfl ?_
  refine Wk.iloadN (pc' := 30) C d_jdk_2450m9_29 rfl rfl ?_
  refine Wk.icmp_ge C d_jdk_2450m9_30 (by decide) (pcT := 281) (by decide) (pc' := 33) rfl (fun q => absurd q (by decide)) (fun q21 => ?_)
  refine Wk.iload (pc' := 35) C d_jdk_2450m9_33 rfl rfl ?_
  refine Wk.bipush (pc' := 37) C d_jdk_2450m9_35 (v := (18 : Int32)) rfl rfl ?_
  refine Wk.icmp_ne C d_jdk_2450m9_37 (by decide) (pcT := 90) (by decide) (pc' := 40) rfl (fun q22 => ?_) (fun q => absurd q (by decide))
  refine Wk.iloadN (pc' := 91) C d_jdk_2450m9_90 rfl rfl ?_
  refine Wk.iloadN (pc' := 92) C d_jdk_2450m9_91 rfl rfl ?_
  refine Wk.icmp_lt C d_jdk_2450m9_92 (by decide) (pcT := 98) (by decide) (pc' := 95) rfl (fun q23 => ?_) (fun q => absurd q (by decide))
  refine Wk.aloadN (pc' := 99) C d_jdk_2450m9_98 rfl rfl rfl ?_
  refine Wk.iloadN (pc' := 100) C d_jdk_2450m9_99 rfl rfl ?_
  refine Wk.iinc (pc' := 103) C d_jdk_2450m9_100 rfl (v := (2 : Int32)) (by decide) (Ls' := #[.val (.ref aD), .val (.ref b), .val (.int (2 : Int32)), .val (.int (3 : Int32)), .val (.ref d), .val (.ref aT), .val (.int (0 : Int32)), .val (.int v19), .val (.int (12 : Int32)), .val (.int u0), .unset]) rfl rfl ?_
  refine Wk.baload (pc' := 104) C d_jdk_2450m9_103 V (by decide) (v := (.int x1)) rfl rfl ?_
  refine Wk.sipush (pc' := 107) C d_jdk_2450m9_104 (v := (255 : Int32)) rfl rfl ?_
  obtain ⟨v24, hv24⟩ : ∃ z : Int32, x1 &&& (255 : Int32) = z := ⟨_, rfl⟩
  refine Wk.iand (pc' := 108) C d_jdk_2450m9_107 hv24 rfl ?_
  refine Wk.istore (pc' := 110) C d_jdk_2450m9_108 (Ls' := #[.val (.ref aD), .val (.ref b), .val (.int (2 : Int32)), .val (.int (3 : Int32)), .val (.ref d), .val (.ref aT), .val (.int (0 : Int32)), .val (.int v19), .val (.int (12 : Int32)), .val (.int v24), .unset]) rfl rfl ?_
  refine Wk.aload (pc' := 112) C d_jdk_2450m9_110 rfl rfl rfl ?_
  refine Wk.iload (pc' := 114) C d_jdk_2450m9_112 rfl rfl ?_
  refine Wk.iaload (pc' := 115) C d_jdk_2450m9_114 (bs.2.2.2.2.2.2.2.1.ext O0) (own_tab hv24 t1).1 (v := (.int u1)) (own_tab hv24 t1).2 rfl ?_
  refine Wk.dup (pc' := 116) C d_jdk_2450m9_115 rfl rfl ?_
  refine Wk.istore (pc' := 118) C d_jdk_2450m9_116 (Ls' := #[.val (.ref aD), .val (.ref b), .val (.int (2 : Int32)), .val (.int (3 : Int32)), .val (.ref d), .val (.ref aT), .val (.int (0 : Int32)), .val (.int v19), .val (.int (12 : Int32)), .val (.int u1), .unset]) rfl rfl ?_
  refine Wk.if_ge C d_jdk_2450m9_118 (by decide) (pcT := 214) (by decide) (pc' := 121) rfl (fun q25 => ?_) (fun q => absurd q t1.2.2.1)
  refine Wk.iload (pc' := 216) C d_jdk_2450m9_214 rfl rfl ?_
  refine Wk.iload (pc' := 218) C d_jdk_2450m9_216 rfl rfl ?_
  refine Wk.iload (pc' := 220) C d_jdk_2450m9_218 rfl rfl ?_
  obtain ⟨v26, hv26⟩ : ∃ z : Int32, u1 <<< ((12 : Int32) &&& 31) = z := ⟨_, rfl⟩
  refine Wk.ishl (pc' := 221) C d_jdk_2450m9_220 hv26 rfl ?_
  obtain ⟨v27, hv27⟩ : ∃ z : Int32, v19 ||| v26 = z := ⟨_, rfl⟩
  refine Wk.ior (pc' := 222) C d_jdk_2450m9_221 hv27 rfl ?_
  refine Wk.istore (pc' := 224) C d_jdk_2450m9_222 (Ls' := #[.val (.ref aD), .val (.ref b), .val (.int (2 : Int32)), .val (.int (3 : Int32)), .val (.ref d), .val (.ref aT), .val (.int (0 : Int32)), .val (.int v27), .val (.int (12 : Int32)), .val (.int u1), .unset]) rfl rfl ?_
  refine Wk.iinc (pc' := 227) C d_jdk_2450m9_224 rfl (v := (6 : Int32)) (by decide) (Ls' := #[.val (.ref aD), .val (.ref b), .val (.int (2 : Int32)), .val (.int (3 : Int32)), .val (.ref d), .val (.ref aT), .val (.int (0 : Int32)), .val (.int v27), .val (.int (6 : Int32)), .val (.int u1), .unset]) rfl rfl ?_
  refine Wk.iload (pc' := 229) C d_jdk_2450m9_227 rfl rfl ?_
  refine Wk.if_ge C d_jdk_2450m9_229 (by decide) (pcT := 278) (by decide) (pc' := 232) rfl (fun q28 => ?_) (fun q => absurd q (by decide))
  refine Wk.goto C d_jdk_2450m9_278 (by decide) (pc' := 28) (by decide) ?_
  refine Wk.iloadN (pc' := 29) C d_jdk_2450m9_28 rfl rfl ?_
  refine Wk.iloadN (pc' := 30) C d_jdk_2450m9_29 rfl rfl ?_
  refine Wk.icmp_ge C d_jdk_2450m9_30 (by decide) (pcT := 281) (by decide) (pc' := 33) rfl (fun q => absurd q (by decide)) (fun q29 => ?_)
  refine Wk.iload (pc' := 35) C d_jdk_2450m9_33 rfl rfl ?_
  refine Wk.bipush (pc' := 37) C d_jdk_2450m9_35 (v := (18 : Int32)) rfl rfl ?_
  refine Wk.icmp_ne C d_jdk_2450m9_37 (by decide) (pcT := 90) (by decide) (pc' := 40) rfl (fun q30 => ?_) (fun q => absurd q (by decide))
  refine Wk.iloadN (pc' := 91) C d_jdk_2450m9_90 rfl rfl ?_
  refine Wk.iloadN (pc' := 92) C d_jdk_2450m9_91 rfl rfl ?_
  refine Wk.icmp_lt C d_jdk_2450m9_92 (by decide) (pcT := 98) (by decide) (pc' := 95) rfl (fun q31 => ?_) (fun q => absurd q (by decide))
  refine Wk.aloadN (pc' := 99) C d_jdk_2450m9_98 rfl rfl rfl ?_
  refine Wk.iloadN (pc' := 100) C d_jdk_2450m9_99 rfl rfl ?_
  refine Wk.iinc (pc' := 103) C d_jdk_2450m9_100 rfl (v := (3 : Int32)) (by decide) (Ls' := #[.val (.ref aD), .val (.ref b), .val (.int (3 : Int32)), .val (.int (3 : Int32)), .val (.ref d), .val (.ref aT), .val (.int (0 : Int32)), .val (.int v27), .val (.int (6 : Int32)), .val (.int u1), .unset]) rfl rfl ?_
  refine Wk.baload (pc' := 104) C d_jdk_2450m9_103 V (by decide) (v := (.int x2)) rfl rfl ?_
  refine Wk.sipush (pc' := 107) C d_jdk_2450m9_104 (v := (255 : Int32)) rfl rfl ?_
  obtain ⟨v32, hv32⟩ : ∃ z : Int32, x2 &&& (255 : Int32) = z := ⟨_, rfl⟩
  refine Wk.iand (pc' := 108) C d_jdk_2450m9_107 hv32 rfl ?_
  refine Wk.istore (pc' := 110) C d_jdk_2450m9_108 (Ls' := #[.val (.ref aD), .val (.ref b), .val (.int (3 : Int32)), .val (.int (3 : Int32)), .val (.ref d), .val (.ref aT), .val (.int (0 : Int32)), .val (.int v27), .val (.int (6 : Int32)), .val (.int v32), .unset]) rfl rfl ?_
  refine Wk.aload (pc' := 112) C d_jdk_2450m9_110 rfl rfl rfl ?_
  refine Wk.iload (pc' := 114) C d_jdk_2450m9_112 rfl rfl ?_
  refine Wk.iaload (pc' := 115) C d_jdk_2450m9_114 (bs.2.2.2.2.2.2.2.1.ext O0) (own_tab hv32 t2).1 (v := (.int u2)) (own_tab hv32 t2).2 rfl ?_
  refine Wk.dup (pc' := 116) C d_jdk_2450m9_115 rfl rfl ?_
  refine Wk.istore (pc' := 118) C d_jdk_2450m9_116 (Ls' := #[.val (.ref aD), .val (.ref b), .val (.int (3 : Int32)), .val (.int (3 : Int32)), .val (.ref d), .val (.ref aT), .val (.int (0 : Int32)), .val (.int v27), .val (.int (6 : Int32)), .val (.int u2), .unset]) rfl rfl ?_
  refine Wk.if_ge C d_jdk_2450m9_118 (by decide) (pcT := 214) (by decide) (pc' := 121) rfl (fun q33 => ?_) (fun q => absurd q t2.2.2.1)
  refine Wk.iload (pc' := 216) C d_jdk_2450m9_214 rfl rfl ?_
  refine Wk.iload (pc' := 218) C d_jdk_2450m9_216 rfl rfl ?_
  refine Wk.iload (pc' := 220) C d_jdk_2450m9_218 rfl rfl ?_
  obtain ⟨v34, hv34⟩ : ∃ z : Int32, u2 <<< ((6 : Int32) &&& 31) = z := ⟨_, rfl⟩
  refine Wk.ishl (pc' := 221) C d_jdk_2450m9_220 hv34 rfl ?_
  obtain ⟨v35, hv35⟩ : ∃ z : Int32, v27 ||| v34 = z := ⟨_, rfl⟩
  refine Wk.ior (pc' := 222) C d_jdk_2450m9_221 hv35 rfl ?_
  refine Wk.istore (pc' := 224) C d_jdk_2450m9_222 (Ls' := #[.val (.ref aD), .val (.ref b), .val (.int (3 : Int32)), .val (.int (3 : Int32)), .val (.ref d), .val (.ref aT), .val (.int (0 : Int32)), .val (.int v35), .val (.int (6 : Int32)), .val (.int u2), .unset]) rfl rfl ?_
  refine Wk.iinc (pc' := 227) C d_jdk_2450m9_224 rfl (v := (0 : Int32)) (by decide) (Ls' := #[.val (.ref aD), .val (.ref b), .val (.int (3 : Int32)), .val (.int (3 : Int32)), .val (.ref d), .val (.ref aT), .val (.int (0 : Int32)), .val (.int v35), .val (.int (0 : Int32)), .val (.int u2), .unset]) rfl rfl ?_
  refine Wk.iload (pc' := 229) C d_jdk_2450m9_227 rfl rfl ?_
  refine Wk.if_ge C d_jdk_2450m9_229 (by decide) (pcT := 278) (by decide) (pc' := 232) rfl (fun q36 => ?_) (fun q => absurd q (by decide))
  refine Wk.goto C d_jdk_2450m9_278 (by decide) (pc' := 28) (by decide) ?_
  refine Wk.iloadN (pc' := 29) C d_jdk_2450m9_28 rfl rfl ?_
  refine Wk.iloadN (pc' := 30) C d_jdk_2450m9_29 rfl rfl ?_
  refine Wk.icmp_ge C d_jdk_2450m9_30 (by decide) (pcT := 281) (by decide) (pc' := 33) rfl (fun q37 => ?_) (fun q => absurd q (by decide))
  refine Wk.iload (pc' := 283) C d_jdk_2450m9_281 rfl rfl ?_
  refine Wk.bipush (pc' := 285) C d_jdk_2450m9_283 (v := (6 : Int32)) rfl rfl ?_
  refine Wk.icmp_ne C d_jdk_2450m9_285 (by decide) (pcT := 305) (by decide) (pc' := 288) rfl (fun q38 => ?_) (fun q => absurd q (by decide))
  refine Wk.iload (pc' := 307) C d_jdk_2450m9_305 rfl rfl ?_
  refine Wk.if_ne C d_jdk_2450m9_307 (by decide) (pcT := 341) (by decide) (pc' := 310) rfl (fun q => absurd q (by decide)) (fun q39 => ?_)
  refine Wk.aload (pc' := 312) C d_jdk_2450m9_310 rfl rfl rfl ?_
  refine Wk.iload (pc' := 314) C d_jdk_2450m9_312 rfl rfl ?_
  refine Wk.iinc (pc' := 317) C d_jdk_2450m9_314 rfl (v := (1 : Int32)) (by decide) (Ls' := #[.val (.ref aD), .val (.ref b), .val (.int (3 : Int32)), .val (.int (3 : Int32)), .val (.ref d), .val (.ref aT), .val (.int (1 : Int32)), .val (.int v35), .val (.int (0 : Int32)), .val (.int u2), .unset]) rfl rfl ?_
  refine Wk.iload (pc' := 319) C d_jdk_2450m9_317 rfl rfl ?_
  refine Wk.bipush (pc' := 321) C d_jdk_2450m9_319 (v := (16 : Int32)) rfl rfl ?_
  obtain ⟨v40, hv40⟩ : ∃ z : Int32, v35 >>> ((16 : Int32) &&& 31) = z := ⟨_, rfl⟩
  refine Wk.ishr (pc' := 322) C d_jdk_2450m9_321 hv40 rfl ?_
  obtain ⟨v41, hv41⟩ : ∃ z : Int32, v40.toInt8.toInt32 = z := ⟨_, rfl⟩
  refine Wk.i2b (pc' := 323) C d_jdk_2450m9_322 hv41 rfl ?_
  refine Wk.bastore (pc' := 324) C d_jdk_2450m9_323 D (by decide) (show _ < _ from Nat.le_of_ble_eq_true rfl) (vs' := [(.int v41), (.int (0 : Int32))]) (by rw [Wk.nar_i2b hv41]; rfl) gd rfl ?_
  intro h42 W42 V42 O42
  refine Wk.aload (pc' := 326) C d_jdk_2450m9_324 rfl rfl rfl ?_
  refine Wk.iload (pc' := 328) C d_jdk_2450m9_326 rfl rfl ?_
  refine Wk.iinc (pc' := 331) C d_jdk_2450m9_328 rfl (v := (2 : Int32)) (by decide) (Ls' := #[.val (.ref aD), .val (.ref b), .val (.int (3 : Int32)), .val (.int (3 : Int32)), .val (.ref d), .val (.ref aT), .val (.int (2 : Int32)), .val (.int v35), .val (.int (0 : Int32)), .val (.int u2), .unset]) rfl rfl ?_
  refine Wk.iload (pc' := 333) C d_jdk_2450m9_331 rfl rfl ?_
  refine Wk.bipush (pc' := 335) C d_jdk_2450m9_333 (v := (8 : Int32)) rfl rfl ?_
  obtain ⟨v43, hv43⟩ : ∃ z : Int32, v35 >>> ((8 : Int32) &&& 31) = z := ⟨_, rfl⟩
  refine Wk.ishr (pc' := 336) C d_jdk_2450m9_335 hv43 rfl ?_
  obtain ⟨v44, hv44⟩ : ∃ z : Int32, v43.toInt8.toInt32 = z := ⟨_, rfl⟩
  refine Wk.i2b (pc' := 337) C d_jdk_2450m9_336 hv44 rfl ?_
  refine Wk.bastore (pc' := 338) C d_jdk_2450m9_337 V42 (by decide) (show _ < _ from Nat.le_of_ble_eq_true rfl) (vs' := [(.int v41), (.int v44)]) (by rw [Wk.nar_i2b hv44]; rfl) gd rfl ?_
  intro h45 W45 V45 O45
  refine Wk.goto C d_jdk_2450m9_338 (by decide) (pc' := 358) (by decide) ?_
  refine Wk.iloadN (pc' := 359) C d_jdk_2450m9_358 rfl rfl ?_
  refine Wk.iloadN (pc' := 360) C d_jdk_2450m9_359 rfl rfl ?_
  refine Wk.icmp_ge C d_jdk_2450m9_360 (by decide) (pcT := 416) (by decide) (pc' := 363) rfl (fun q46 => ?_) (fun q => absurd q (by decide))
  refine Wk.iload (pc' := 418) C d_jdk_2450m9_416 rfl rfl ?_
  have VD := V45
  have KP : Keep h0 h45 [d] := (((Keep.refl _ _).wr W42 (Or.inl (List.mem_singleton.mpr rfl))).wr W45 (Or.inl (List.mem_singleton.mpr rfl)))
  subst hv16 hv18 hv19 hv24 hv26 hv27 hv32 hv34 hv35 hv40 hv41 hv43 hv44
  exact Wk.retI C d_jdk_2450m9_418 (by decide) (by decide) ⟨rfl, KP, VD⟩
set_option maxRecDepth 65536 in
set_option maxHeartbeats 40000000 in
theorem own_dec0_4 (l : Launch) {Z : State} {a0 : Array Value} (hw : Ws a0 Z) {h0 : Heap} (O0 : Ext Z.heap h0) {aD aT aI aU : Addr} (bs : BS Z aD aT aI aU) (b d : Addr) (x0 x1 x2 x3 : Int32) {u0 u1 u2 u3 : Int32}  (V : Wk.Ary Z h0 b .byte [(.int x0), (.int x1), (.int x2), (.int x3)]) (t0 : Tb x0 u0) (t1 : Tb x1 u1) (t2 : Tb x2 u2) (t3 : Tb x3 u3) (D : Wk.Ary Z h0 d .byte [(.int (0 : Int32)), (.int (0 : Int32)), (.int (0 : Int32))]) (gd : Z.heap.size ≤ d) (nbd : b ≠ d) (nTd : aT ≠ d)  :
    Wk.Con l Z (⟨"java/util/Base64$Decoder", "decode0", "([BII[B)I"⟩ : MethodName) jdk_2450_method_9_code 11 (some .int) ({ frames := 1, cells := 0, slots := 0, locals := 40 } : Room) #[(.ref aD), (.ref b), (.int (0 : Int32)), (.int (4 : Int32)), (.ref d)] h0 (fun v h' => v = some (.int (3 : Int32)) ∧ Keep h0 h' [d] ∧ Wk.Ary Z h' d .byte [(.int (((dS4 u0 u1 u2 u3) >>> ((16 : Int32) &&& 31)).toInt8.toInt32)), (.int (((dS4 u0 u1 u2 u3) >>> ((8 : Int32) &&& 31)).toInt8.toInt32)), (.int ((dS4 u0 u1 u2 u3).toInt8.toInt32))]) := by
  refine Wk.Con.intro (plainFor_of_name pn1) O0 (fun m => ef18 m aD b d) ?_
  intro W C
  replace C : Wk.Cx Z W "java/util/Base64$Decoder" "decode0" jdk_2450_method_9_code 11 (some .int) := C
  refine Wk.aloadN (pc' := 1) C d_jdk_2450m9_0 rfl rfl rfl ?_
  refine Wk.getF (pc' := 4) C d_jdk_2450m9_1 (w123 hw) Via.refl (bs.2.2.2.2.2.1.ext O0) rfl ?_
  refine Wk.if_eq C d_jdk_2450m9_4 (by decide) (pcT := 13) (by decide) (pc' := 7) rfl (fun q => absurd q (by decide)) (fun q11 => ?_)
  refine Wk.getS (pc' := 10) C d_jdk_2450m9_7 (w125 hw) Via.refl (bs.2.1.ext O0) rfl ?_
  refine Wk.goto C d_jdk_2450m9_10 (by decide) (pc' := 16) (by decide) ?_
  refine Wk.astore (pc' := 18) C d_jdk_2450m9_16 rfl (Ls' := #[.val (.ref aD), .val (.ref b), .val (.int (0 : Int32)), .val (.int (4 : Int32)), .val (.ref d), .val (.ref aT), .unset, .unset, .unset, .unset, .unset]) rfl rfl ?_
  refine Wk.iconst (pc' := 19) C d_jdk_2450m9_18 (v := (0 : Int32)) rfl rfl ?_
  refine Wk.istore (pc' := 21) C d_jdk_2450m9_19 (Ls' := #[.val (.ref aD), .val (.ref b), .val (.int (0 : Int32)), .val (.int (4 : Int32)), .val (.ref d), .val (.ref aT), .val (.int (0 : Int32)), .unset, .unset, .unset, .unset]) rfl rfl ?_
  refine Wk.iconst (pc' := 22) C d_jdk_2450m9_21 (v := (0 : Int32)) rfl rfl ?_
  refine Wk.istore (pc' := 24) C d_jdk_2450m9_22 (Ls' := #[.val (.ref aD), .val (.ref b), .val (.int (0 : Int32)), .val (.int (4 : Int32)), .val (.ref d), .val (.ref aT), .val (.int (0 : Int32)), .val (.int (0 : Int32)), .unset, .unset, .unset]) rfl rfl ?_
  refine Wk.bipush (pc' := 26) C d_jdk_2450m9_24 (v := (18 : Int32)) rfl rfl ?_
  refine Wk.istore (pc' := 28) C d_jdk_2450m9_26 (Ls' := #[.val (.ref aD), .val (.ref b), .val (.int (0 : Int32)), .val (.int (4 : Int32)), .val (.ref d), .val (.ref aT), .val (.int (0 : Int32)), .val (.int (0 : Int32)), .val (.int (18 : Int32)), .unset, .unset]) rfl rfl ?_
  refine Wk.iloadN (pc' := 29) C d_jdk_2450m9_28 rfl rfl ?_
  refine Wk.iloadN (pc' := 30) C d_jdk_2450m9_29 rfl rfl ?_
  refine Wk.icmp_ge C d_jdk_2450m9_30 (by decide) (pcT := 281) (by decide) (pc' := 33) rfl (fun q => absurd q (by decide)) (fun q12 => ?_)
  refine Wk.iload (pc' := 35) C d_jdk_2450m9_33 rfl rfl ?_
  refine Wk.bipush (pc' := 37) C d_jdk_2450m9_35 (v := (18 : Int32)) rfl rfl ?_
  refine Wk.icmp_ne C d_jdk_2450m9_37 (by decide) (pcT := 90) (by decide) (pc' := 40) rfl (fun q => absurd q (by decide)) (fun q13 => ?_)
  refine Wk.iloadN (pc' := 41) C d_jdk_2450m9_40 rfl rfl ?_
  refine Wk.iloadN (pc' := 42) C d_jdk_2450m9_41 rfl rfl ?_
  refine Wk.iconst (pc' := 43) C d_jdk_2450m9_42 (v := (4 : Int32)) rfl rfl ?_
  refine Wk.isub (pc' := 44) C d_jdk_2450m9_43 (v := (0 : Int32)) (by decide) rfl ?_
  refine Wk.icmp_ge C d_jdk_2450m9_44 (by decide) (pcT := 90) (by decide) (pc' := 47) rfl (fun q14 => ?_) (fun q => absurd q (by decide))
  refine Wk.iloadN (pc' := 91) C d_jdk_2450m9_90 rfl rfl ?_
  refine Wk.iloadN (pc' := 92) C d_jdk_2450m9_91 rfl rfl ?_
  refine Wk.icmp_lt C d_jdk_2450m9_92 (by decide) (pcT := 98) (by decide) (pc' := 95) rfl (fun q15 => ?_) (fun q => absurd q (by decide))
  refine Wk.aloadN (pc' := 99) C d_jdk_2450m9_98 rfl rfl rfl ?_
  refine Wk.iloadN (pc' := 100) C d_jdk_2450m9_99 rfl rfl ?_
  refine Wk.iinc (pc' := 103) C d_jdk_2450m9_100 rfl (v := (1 : Int32)) (by decide) (Ls' := #[.val (.ref aD), .val (.ref b), .val (.int (1 : Int32)), .val (.int (4 : Int32)), .val (.ref d), .val (.ref aT), .val (.int (0 : Int32)), .val (.int (0 : Int32)), .val (.int (18 : Int32)), .unset, .unset]) rfl rfl ?_
  refine Wk.baload (pc' := 104) C d_jdk_2450m9_103 V (by decide) (v := (.int x0)) rfl rfl ?_
  refine Wk.sipush (pc' := 107) C d_jdk_2450m9_104 (v := (255 : Int32)) rfl rfl ?_
  obtain ⟨v16, hv16⟩ : ∃ z : Int32, x0 &&& (255 : Int32) = z := ⟨_, rfl⟩
  refine Wk.iand (pc' := 108) C d_jdk_2450m9_107 hv16 rfl ?_
  refine Wk.istore (pc' := 110) C d_jdk_2450m9_108 (Ls' := #[.val (.ref aD), .val (.ref b), .val (.int (1 : Int32)), .val (.int (4 : Int32)), .val (.ref d), .val (.ref aT), .val (.int (0 : Int32)), .val (.int (0 : Int32)), .val (.int (18 : Int32)), .val (.int v16), .unset]) rfl rfl ?_
  refine Wk.aload (pc' := 112) C d_jdk_2450m9_110 rfl rfl rfl ?_
  refine Wk.iload (pc' := 114) C d_jdk_2450m9_112 rfl rfl ?_
  refine Wk.iaload (pc' := 115) C d_jdk_2450m9_114 (bs.2.2.2.2.2.2.2.1.ext O0) (own_tab hv16 t0).1 (v := (.int u0)) (own_tab hv16 t0).2 rfl ?_
  refine Wk.dup (pc' := 116) C d_jdk_2450m9_115 rfl rfl ?_
  refine Wk.istore (pc' := 118) C d_jdk_2450m9_116 (Ls' := #[.val (.ref aD), .val (.ref b), .val (.int (1 : Int32)), .val (.int (4 : Int32)), .val (.ref d), .val (.ref aT), .val (.int (0 : Int32)), .val (.int (0 : Int32)), .val (.int (18 : Int32)), .val (.int u0), .unset]) rfl rfl ?_
  refine Wk.if_ge C d_jdk_2450m9_118 (by decide) (pcT := 214) (by decide) (pc' := 121) rfl (fun q17 => ?_) (fun q => absurd q t0.2.2.1)
  refine Wk.iload (pc' := 216) C d_jdk_2450m9_214 rfl rfl ?_
  refine Wk.iload (pc' := 218) C d_jdk_2450m9_216 rfl rfl ?_
  refine Wk.iload (pc' := 220) C d_jdk_2450m9_218 rfl rfl ?_
  obtain ⟨v18, hv18⟩ : ∃ z : Int32, u0 <<< ((18 : Int32) &&& 31) = z := ⟨_, rfl⟩
  refine Wk.ishl (pc' := 221) C d_jdk_2450m9_220 hv18 rfl ?_
  obtain ⟨v19, hv19⟩ : ∃ z : Int32, (0 : Int32) ||| v18 = z := ⟨_, rfl⟩
  refine Wk.ior (pc' := 222) C d_jdk_2450m9_221 hv19 rfl ?_
  refine Wk.istore (pc' := 224) C d_jdk_2450m9_222 (Ls' := #[.val (.ref aD), .val (.ref b), .val (.int (1 : Int32)), .val (.int (4 : Int32)), .val (.ref d), .val (.ref aT), .val (.int (0 : Int32)), .val (.int v19), .val (.int (18 : Int32)), .val (.int u0), .unset]) rfl rfl ?_
  refine Wk.iinc (pc' := 227) C d_jdk_2450m9_224 rfl (v := (12 : Int32)) (by decide) (Ls' := #[.val (.ref aD), .val (.ref b), .val (.int (1 : Int32)), .val (.int (4 : Int32)), .val (.ref d), .val (.ref aT), .val (.int (0 : Int32)), .val (.int v19), .val (.int (12 : Int32)), .val (.int u0), .unset]) rfl rfl ?_
  refine Wk.iload (pc' := 229) C d_jdk_2450m9_227 rfl rfl ?_
  refine Wk.if_ge C d_jdk_2450m9_229 (by decide) (pcT := 278) (by decide) (pc' := 232) rfl (fun q20 => ?_) (fun q => absurd q (by decide))
  refine Wk.goto C d_jdk_2450m9_278 (by decide) (pc' := 28) (by decide) ?_
  refine Wk.iloadN (pc' := 29) C d_jdk_2450m9_28 rfl rfl ?_
  refine Wk.iloadN (pc' := 30) C d_jdk_2450m9_29 rfl rfl ?_
  refine Wk.icmp_ge C d_jdk_2450m9_30 (by decide) (pcT := 281) (by decide) (pc' := 33) rfl (fun q => absurd q (by decide)) (fun q21 => ?_)
  refine Wk.iload (pc' := 35) C d_jdk_2450m9_33 rfl rfl ?_
  refine Wk.bipush (pc' := 37) C d_jdk_2450m9_35 (v := (18 : Int32)) rfl rfl ?_
  refine Wk.icmp_ne C d_jdk_2450m9_37 (by decide) (pcT := 90) (by decide) (pc' := 40) rfl (fun q22 => ?_) (fun q => absurd q (by decide))
  refine Wk.iloadN (pc' := 91) C d_jdk_2450m9_90 rfl rfl ?_
  refine Wk.iloadN (pc' := 92) C d_jdk_2450m9_91 rfl rfl ?_
  refine Wk.icmp_lt C d_jdk_2450m9_92 (by decide) (pcT := 98) (by decide) (pc' := 95) rfl (fun q23 => ?_) (fun q => absurd q (by decide))
  refine Wk.aloadN (pc' := 99) C d_jdk_2450m9_98 rfl rfl rfl ?_
  refine Wk.iloadN (pc' := 100) C d_jdk_2450m9_99 rfl rfl ?_
  refine Wk.iinc (pc' := 103) C d_jdk_2450m9_100 rfl (v := (2 : Int32)) (by decide) (Ls' := #[.val (.ref aD), .val (.ref b), .val (.int (2 : Int32)), .val (.int (4 : Int32)), .val (.ref d), .val (.ref aT), .val (.int (0 : Int32)), .val (.int v19), .val (.int (12 : Int32)), .val (.int u0), .unset]) rfl rfl ?_
  refine Wk.baload (pc' := 104) C d_jdk_2450m9_103 V (by decide) (v := (.int x1)) rfl rfl ?_
  refine Wk.sipush (pc' := 107) C d_jdk_2450m9_104 (v := (255 : Int32)) rfl rfl ?_
  obtain ⟨v24, hv24⟩ : ∃ z : Int32, x1 &&& (255 : Int32) = z := ⟨_, rfl⟩
  refine Wk.iand (pc' := 108) C d_jdk_2450m9_107 hv24 rfl ?_
  refine Wk.istore (pc' := 110) C d_jdk_2450m9_108 (Ls' := #[.val (.ref aD), .val (.ref b), .val (.int (2 : Int32)), .val (.int (4 : Int32)), .val (.ref d), .val (.ref aT), .val (.int (0 : Int32)), .val (.int v19), .val (.int (12 : Int32)), .val (.int v24), .unset]) rfl rfl ?_
  refine Wk.aload (pc' := 112) C d_jdk_2450m9_110 rfl rfl rfl ?_
  refine Wk.iload (pc' := 114) C d_jdk_2450m9_112 rfl rfl ?_
  refine Wk.iaload (pc' := 115) C d_jdk_2450m9_114 (bs.2.2.2.2.2.2.2.1.ext O0) (own_tab hv24 t1).1 (v := (.int u1)) (own_tab hv24 t1).2 rfl ?_
  refine Wk.dup (pc' := 116) C d_jdk_2450m9_115 rfl rfl ?_
  refine Wk.istore (pc' := 118) C d_jdk_2450m9_116 (Ls' := #[.val (.ref aD), .val (.ref b), .val (.int (2 : Int32)), .val (.int (4 : Int32)), .val (.ref d), .val (.ref aT), .val (.int (0 : Int32)), .val (.int v19), .val (.int (12 : Int32)), .val (.int u1), .unset]) rfl rfl ?_
  refine Wk.if_ge C d_jdk_2450m9_118 (by decide) (pcT := 214) (by decide) (pc' := 121) rfl (fun q25 => ?_) (fun q => absurd q t1.2.2.1)
  refine Wk.iload (pc' := 216) C d_jdk_2450m9_214 rfl rfl ?_
  refine Wk.iload (pc' := 218) C d_jdk_2450m9_216 rfl rfl ?_
  refine Wk.iload (pc' := 220) C d_jdk_2450m9_218 rfl rfl ?_
  obtain ⟨v26, hv26⟩ : ∃ z : Int32, u1 <<< ((12 : Int32) &&& 31) = z := ⟨_, rfl⟩
  refine Wk.ishl (pc' := 221) C d_jdk_2450m9_220 hv26 rfl ?_
  obtain ⟨v27, hv27⟩ : ∃ z : Int32, v19 ||| v26 = z := ⟨_, rfl⟩
  refine Wk.ior (pc' := 222) C d_jdk_2450m9_221 hv27 rfl ?_
  refine Wk.istore (pc' := 224) C d_jdk_2450m9_222 (Ls' := #[.val (.ref aD), .val (.ref b), .val (.int (2 : Int32)), .val (.int (4 : Int32)), .val (.ref d), .val (.ref aT), .val (.int (0 : Int32)), .val (.int v27), .val (.int (12 : Int32)), .val (.int u1), .unset]) rfl rfl ?_
  refine Wk.iinc (pc' := 227) C d_jdk_2450m9_224 rfl (v := (6 : Int32)) (by decide) (Ls' := #[.val (.ref aD), .val (.ref b), .val (.int (2 : Int32)), .val (.int (4 : Int32)), .val (.ref d), .val (.ref aT), .val (.int (0 : Int32)), .val (.int v27), .val (.int (6 : Int32)), .val (.int u1), .unset]) rfl rfl ?_
  refine Wk.iload (pc' := 229) C d_jdk_2450m9_227 rfl rfl ?_
  refine Wk.if_ge C d_jdk_2450m9_229 (by decide) (pcT := 278) (by decide) (pc' := 232) rfl (fun q28 => ?_) (fun q => absurd q (by decide))
  refine Wk.goto C d_jdk_2450m9_278 (by decide) (pc' := 28) (by decide) ?_
  refine Wk.iloadN (pc' := 29) C d_jdk_2450m9_28 rfl rfl ?_
  refine Wk.iloadN (pc' := 30) C d_jdk_2450m9_29 rfl rfl ?_
  refine Wk.icmp_ge C d_jdk_2450m9_30 (by decide) (pcT := 281) (by decide) (pc' := 33) rfl (fun q => absurd q (by decide)) (fun q29 => ?_)
  refine Wk.iload (pc' := 35) C d_jdk_2450m9_33 rfl rfl ?_
  refine Wk.bipush (pc' := 37) C d_jdk_2450m9_35 (v := (18 : Int32)) rfl rfl ?_
  refine Wk.icmp_ne C d_jdk_2450m9_37 (by decide) (pcT := 90) (by decide) (pc' := 40) rfl (fun q30 => ?_) (fun q => absurd q (by decide))
  refine Wk.iloadN (pc' := 91) C d_jdk_2450m9_90 rfl rfl ?_
  refine Wk.iloadN (pc' := 92) C d_jdk_2450m9_91 rfl rfl ?_
  refine Wk.icmp_lt C d_jdk_2450m9_92 (by decide) (pcT := 98) (by decide) (pc' := 95) rfl (fun q31 => ?_) (fun q => absurd q (by decide))
  refine Wk.aloadN (pc' := 99) C d_jdk_2450m9_98 rfl rfl rfl ?_
  refine Wk.iloadN (pc' := 100) C d_jdk_2450m9_99 rfl rfl ?_
  refine Wk.iinc (pc' := 103) C d_jdk_2450m9_100 rfl (v := (3 : Int32)) (by decide) (Ls' := #[.val (.ref aD), .val (.ref b), .val (.int (3 : Int32)), .val (.int (4 : Int32)), .val (.ref d), .val (.ref aT), .val (.int (0 : Int32)), .val (.int v27), .val (.int (6 : Int32)), .val (.int u1), .unset]) rfl rfl ?_
  refine Wk.baload (pc' := 104) C d_jdk_2450m9_103 V (by decide) (v := (.int x2)) rfl rfl ?_
  refine Wk.sipush (pc' := 107) C d_jdk_2450m9_104 (v := (255 : Int32)) rfl rfl ?_
  obtain ⟨v32, hv32⟩ : ∃ z : Int32, x2 &&& (255 : Int32) = z := ⟨_, rfl⟩
  refine Wk.iand (pc' := 108) C d_jdk_2450m9_107 hv32 rfl ?_
  refine Wk.istore (pc' := 110) C d_jdk_2450m9_108 (Ls' := #[.val (.ref aD), .val (.ref b), .val (.int (3 : Int32)), .val (.int (4 : Int32)), .val (.ref d), .val (.ref aT), .val (.int (0 : Int32)), .val (.int v27), .val (.int (6 : Int32)), .val (.int v32), .unset]) rfl rfl ?_
  refine Wk.aload (pc' := 112) C d_jdk_2450m9_110 rfl rfl rfl ?_
  refine Wk.iload (pc' := 114) C d_jdk_2450m9_112 rfl rfl ?_
  refine Wk.iaload (pc' := 115) C d_jdk_2450m9_114 (bs.2.2.2.2.2.2.2.1.ext O0) (own_tab hv32 t2).1 (v := (.int u2)) (own_tab hv32 t2).2 rfl ?_
  refine Wk.dup (pc' := 116) C d_jdk_2450m9_115 rfl rfl ?_
  refine Wk.istore (pc' := 118) C d_jdk_2450m9_116 (Ls' := #[.val (.ref aD), .val (.ref b), .val (.int (3 : Int32)), .val (.int (4 : Int32)), .val (.ref d), .val (.ref aT), .val (.int (0 : Int32)), .val (.int v27), .val (.int (6 : Int32)), .val (.int u2), .unset]) rfl rfl ?_
  refine Wk.if_ge C d_jdk_2450m9_118 (by decide) (pcT := 214) (by decide) (pc' := 121) rfl (fun q33 => ?_) (fun q => absurd q t2.2.2.1)
  refine Wk.iload (pc' := 216) C d_jdk_2450m9_214 rfl rfl ?_
  refine Wk.iload (pc' := 218) C d_jdk_2450m9_216 rfl rfl ?_
  refine Wk.iload (pc' := 220) C d_jdk_2450m9_218 rfl rfl ?_
  obtain ⟨v34, hv34⟩ : ∃ z : Int32, u2 <<< ((6 : Int32) &&& 31) = z := ⟨_, rfl⟩
  refine Wk.ishl (pc' := 221) C d_jdk_2450m9_220 hv34 rfl ?_
  obtain ⟨v35, hv35⟩ : ∃ z : Int32, v27 ||| v34 = z := ⟨_, rfl⟩
  refine Wk.ior (pc' := 222) C d_jdk_2450m9_221 hv35 rfl ?_
  refine Wk.istore (pc' := 224) C d_jdk_2450m9_222 (Ls' := #[.val (.ref aD), .val (.ref b), .val (.int (3 : Int32)), .val (.int (4 : Int32)), .val (.ref d), .val (.ref aT), .val (.int (0 : Int32)), .val (.int v35), .val (.int (6 : Int32)), .val (.int u2), .unset]) rfl rfl ?_
  refine Wk.iinc (pc' := 227) C d_jdk_2450m9_224 rfl (v := (0 : Int32)) (by decide) (Ls' := #[.val (.ref aD), .val (.ref b), .val (.int (3 : Int32)), .val (.int (4 : Int32)), .val (.ref d), .val (.ref aT), .val (.int (0 : Int32)), .val (.int v35), .val (.int (0 : Int32)), .val (.int u2), .unset]) rfl rfl ?_
  refine Wk.iload (pc' := 229) C d_jdk_2450m9_227 rfl rfl ?_
  refine Wk.if_ge C d_jdk_2450m9_229 (by decide) (pcT := 278) (by decide) (pc' := 232) rfl (fun q36 => ?_) (fun q => absurd q (by decide))
  refine Wk.goto C d_jdk_2450m9_278 (by decide) (pc' := 28) (by decide) ?_
  refine Wk.iloadN (pc' := 29) C d_jdk_2450m9_28 rfl rfl ?_
  refine Wk.iloadN (pc' := 30) C d_jdk_2450m9_29 rfl rfl ?_
  refine Wk.icmp_ge C d_jdk_2450m9_30 (by decide) (pcT := 281) (by decide) (pc' := 33) rfl (fun q => absurd q (by decide)) (fun q37 => ?_)
  refine Wk.iload (pc' := 35) C d_jdk_2450m9_33 rfl rfl ?_
  refine Wk.bipush (pc' := 37) C d_jdk_2450m9_35 (v := (18 : Int32)) rfl rfl ?_
  refine Wk.icmp_ne C d_jdk_2450m9_37 (by decide) (pcT := 90) (by decide) (pc' := 40) rfl (fun q38 => ?_) (fun q => absurd q (by decide))
  refine Wk.iloadN (pc' := 91) C d_jdk_2450m9_90 rfl rfl ?_
  refine Wk.iloadN (pc' := 92) C d_jdk_2450m9_91 rfl rfl ?_
  refine Wk.icmp_lt C d_jdk_2450m9_92 (by decide) (pcT := 98) (by decide) (pc' := 95) rfl (fun q39 => ?_) (fun q => absurd q (by decide))
  refine Wk.aloadN (pc' := 99) C d_jdk_2450m9_98 rfl rfl rfl ?_
  refine Wk.iloadN (pc' := 100) C d_jdk_2450m9_99 rfl rfl ?_
  refine Wk.iinc (pc' := 103) C d_jdk_2450m9_100 rfl (v := (4 : Int32)) (by decide) (Ls' := #[.val (.ref aD), .val (.ref b), .val (.int (4 : Int32)), .val (.int (4 : Int32)), .val (.ref d), .val (.ref aT), .val (.int (0 : Int32)), .val (.int v35), .val (.int (0 : Int32)), .val (.int u2), .unset]) rfl rfl ?_
  refine Wk.baload (pc' := 104) C d_jdk_2450m9_103 V (by decide) (v := (.int x3)) rfl rfl ?_
  refine Wk.sipush (pc' := 107) C d_jdk_2450m9_104 (v := (255 : Int32)) rfl rfl ?_
  obtain ⟨v40, hv40⟩ : ∃ z : Int32, x3 &&& (255 : Int32) = z := ⟨_, rfl⟩
  refine Wk.iand (pc' := 108) C d_jdk_2450m9_107 hv40 rfl ?_
  refine Wk.istore (pc' := 110) C d_jdk_2450m9_108 (Ls' := #[.val (.ref aD), .val (.ref b), .val (.int (4 : Int32)), .val (.int (4 : Int32)), .val (.ref d), .val (.ref aT), .val (.int (0 : Int32)), .val (.int v35), .val (.int (0 : Int32)), .val (.int v40), .unset]) rfl rfl ?_
  refine Wk.aload (pc' := 112) C d_jdk_2450m9_110 rfl rfl rfl ?_
  refine Wk.iload (pc' := 114) C d_jdk_2450m9_112 rfl rfl ?_
  refine Wk.iaload (pc' := 115) C d_jdk_2450m9_114 (bs.2.2.2.2.2.2.2.1.ext O0) (own_tab hv40 t3).1 (v := (.int u3)) (own_tab hv40 t3).2 rfl ?_
  refine Wk.dup (pc' := 116) C d_jdk_2450m9_115 rfl rfl ?_
  refine Wk.istore (pc' := 118) C d_jdk_2450m9_116 (Ls' := #[.val (.ref aD), .val (.ref b), .val (.int (4 : Int32)), .val (.int (4 : Int32)), .val (.ref d), .val (.ref aT), .val (.int (0 : Int32)), .val (.int v35), .val (.int (0 : Int32)), .val (.int u3), .unset]) rfl rfl ?_
  refine Wk.if_ge C d_jdk_2450m9_118 (by decide) (pcT := 214) (by decide) (pc' := 121) rfl (fun q41 => ?_) (fun q => absurd q t3.2.2.1)
  refine Wk.iload (pc' := 216) C d_jdk_2450m9_214 rfl rfl ?_
  refine Wk.iload (pc' := 218) C d_jdk_2450m9_216 rfl rfl ?_
  refine Wk.iload (pc' := 220) C d_jdk_2450m9_218 rfl rfl ?_
  obtain ⟨v42, hv42⟩ : ∃ z : Int32, u3 <<< ((0 : Int32) &&& 31) = z := ⟨_, rfl⟩
  refine Wk.ishl (pc' := 221) C d_jdk_2450m9_220 hv42 rfl ?_
  obtain ⟨v43, hv43⟩ : ∃ z : Int32, v35 ||| v42 = z := ⟨_, rfl⟩
  refine Wk.ior (pc' := 222) C d_jdk_2450m9_221 hv43 rfl ?_
  refine Wk.istore (pc' := 224) C d_jdk_2450m9_222 (Ls' := #[.val (.ref aD), .val (.ref b), .val (.int (4 : Int32)), .val (.int (4 : Int32)), .val (.ref d), .val (.ref aT), .val (.int (0 : Int32)), .val (.int v43), .val (.int (0 : Int32)), .val (.int u3), .unset]) rfl rfl ?_
  refine Wk.iinc (pc' := 227) C d_jdk_2450m9_224 rfl (v := (-6 : Int32)) (by decide) (Ls' := #[.val (.ref aD), .val (.ref b), .val (.int (4 : Int32)), .val (.int (4 : Int32)), .val (.ref d), .val (.ref aT), .val (.int (0 : Int32)), .val (.int v43), .val (.int (-6 : Int32)), .val (.int u3), .unset]) rfl rfl ?_
  refine Wk.iload (pc' := 229) C d_jdk_2450m9_227 rfl rfl ?_
  refine Wk.if_ge C d_jdk_2450m9_229 (by decide) (pcT := 278) (by decide) (pc' := 232) rfl (fun q => absurd q (by decide)) (fun q44 => ?_)
  refine Wk.aload (pc' := 234) C d_jdk_2450m9_232 rfl rfl rfl ?_
  refine Wk.iload (pc' := 236) C d_jdk_2450m9_234 rfl rfl ?_
  refine Wk.iinc (pc' := 239) C d_jdk_2450m9_236 rfl (v := (1 : Int32)) (by decide) (Ls' := #[.val (.ref aD), .val (.ref b), .val (.int (4 : Int32)), .val (.int (4 : Int32)), .val (.ref d), .val (.ref aT), .val (.int (1 : Int32)), .val (.int v43), .val (.int (-6 : Int32)), .val (.int u3), .unset]) rfl rfl ?_
  refine Wk.iload (pc' := 241) C d_jdk_2450m9_239 rfl rfl ?_
  refine Wk.bipush (pc' := 243) C d_jdk_2450m9_241 (v := (16 : Int32)) rfl rfl ?_
  obtain ⟨v45, hv45⟩ : ∃ z : Int32, v43 >>> ((16 : Int32) &&& 31) = z := ⟨_, rfl⟩
  refine Wk.ishr (pc' := 244) C d_jdk_2450m9_243 hv45 rfl ?_
  obtain ⟨v46, hv46⟩ : ∃ z : Int32, v45.toInt8.toInt32 = z := ⟨_, rfl⟩
  refine Wk.i2b (pc' := 245) C d_jdk_2450m9_244 hv46 rfl ?_
  refine Wk.bastore (pc' := 246) C d_jdk_2450m9_245 D (by decide) (show _ < _ from Nat.le_of_ble_eq_true rfl) (vs' := [(.int v46), (.int (0 : Int32)), (.int (0 : Int32))]) (by rw [Wk.nar_i2b hv46]; rfl) gd rfl ?_
  intro h47 W47 V47 O47
  refine Wk.aload (pc' := 248) C d_jdk_2450m9_246 rfl rfl rfl ?_
  refine Wk.iload (pc' := 250) C d_jdk_2450m9_248 rfl rfl ?_
  refine Wk.iinc (pc' := 253) C d_jdk_2450m9_250 rfl (v := (2 : Int32)) (by decide) (Ls' := #[.val (.ref aD), .val (.ref b), .val (.int (4 : Int32)), .val (.int (4 : Int32)), .val (.ref d), .val (.ref aT), .val (.int (2 : Int32)), .val (.int v43), .val (.int (-6 : Int32)), .val (.int u3), .unset]) rfl rfl ?_
  refine Wk.iload (pc' := 255) C d_jdk_2450m9_253 rfl rfl ?_
  refine Wk.bipush (pc' := 257) C d_jdk_2450m9_255 (v := (8 : Int32)) rfl rfl ?_
  obtain ⟨v48, hv48⟩ : ∃ z : Int32, v43 >>> ((8 : Int32) &&& 31) = z := ⟨_, rfl⟩
  refine Wk.ishr (pc' := 258) C d_jdk_2450m9_257 hv48 rfl ?_
  obtain ⟨v49, hv49⟩ : ∃ z : Int32, v48.toInt8.toInt32 = z := ⟨_, rfl⟩
  refine Wk.i2b (pc' := 259) C d_jdk_2450m9_258 hv49 rfl ?_
  refine Wk.bastore (pc' := 260) C d_jdk_2450m9_259 V47 (by decide) (show _ < _ from Nat.le_of_ble_eq_true rfl) (vs' := [(.int v46), (.int v49), (.int (0 : Int32))]) (by rw [Wk.nar_i2b hv49]; rfl) gd rfl ?_
  intro h50 W50 V50 O50
  refine Wk.aload (pc' := 262) C d_jdk_2450m9_260 rfl rfl rfl ?_
  refine Wk.iload (pc' := 264) C d_jdk_2450m9_262 rfl rfl ?_
  refine Wk.iinc (pc' := 267) C d_jdk_2450m9_264 rfl (v := (3 : Int32)) (by decide) (Ls' := #[.val (.ref aD), .val (.ref b), .val (.int (4 : Int32)), .val (.int (4 : Int32)), .val (.ref d), .val (.ref aT), .val (.int (3 : Int32)), .val (.int v43), .val (.int (-6 : Int32)), .val (.int u3), .unset]) rfl rfl ?_
  refine Wk.iload (pc' := 269) C d_jdk_2450m9_267 rfl rfl ?_
  obtain ⟨v51, hv51⟩ : ∃ z : Int32, v43.toInt8.toInt32 = z := ⟨_, rfl⟩
  refine Wk.i2b (pc' := 270) C d_jdk_2450m9_269 hv51 rfl ?_
  refine Wk.bastore (pc' := 271) C d_jdk_2450m9_270 V50 (by decide) (show _ < _ from Nat.le_of_ble_eq_true rfl) (vs' := [(.int v46), (.int v49), (.int v51)]) (by rw [Wk.nar_i2b hv51]; rfl) gd rfl ?_
  intro h52 W52 V52 O52
  refine Wk.bipush (pc' := 273) C d_jdk_2450m9_271 (v := (18 : Int32)) rfl rfl ?_
  refine Wk.istore (pc' := 275) C d_jdk_2450m9_273 (Ls' := #[.val (.ref aD), .val (.ref b), .val (.int (4 : Int32)), .val (.int (4 : Int32)), .val (.ref d), .val (.ref aT), .val (.int (3 : Int32)), .val (.int v43), .val (.int (18 : Int32)), .val (.int u3), .unset]) rfl rfl ?_
  refine Wk.iconst (pc' := 276) C d_jdk_2450m9_275 (v := (0 : Int32)) rfl rfl ?_
  refine Wk.istore (pc' := 278) C d_jdk_2450m9_276 (Ls' := #[.val (.ref aD), .val (.ref b), .val (.int (4 : Int32)), .val (.int (4 : Int32)), .val (.ref d), .val (.ref aT), .val (.int (3 : Int32)), .val (.int (0 : Int32)), .val (.int (18 : Int32)), .val (.int u3), .unset]) rfl rfl ?_
  refine Wk.goto C d_jdk_2450m9_278 (by decide) (pc' := 28) (by decide) ?_
  refine Wk.iloadN (pc' := 29) C d_jdk_2450m9_28 rfl rfl ?_
  refine Wk.iloadN (pc' := 30) C d_jdk_2450m9_29 rfl rfl ?_
  refine Wk.icmp_ge C d_jdk_2450m9_30 (by decide) (pcT := 281) (by decide) (pc' := 33) rfl (fun q53 => ?_) (fun q => absurd q (by decide))
  refine Wk.iload (pc' := 283) C d_jdk_2450m9_281 rfl rfl ?_
  refine Wk.bipush (pc' := 285) C d_jdk_2450m9_283 (v := (6 : Int32)) rfl rfl ?_
  refine Wk.icmp_ne C d_jdk_2450m9_285 (by decide) (pcT := 305) (by decide) (pc' := 288) rfl (fun q54 => ?_) (fun q => absurd q (by decide))
  refine Wk.iload (pc' := 307) C d_jdk_2450m9_305 rfl rfl ?_
  refine Wk.if_ne C d_jdk_2450m9_307 (by decide) (pcT := 341) (by decide) (pc' := 310) rfl (fun q55 => ?_) (fun q => absurd q (by decide))
  refine Wk.iload (pc' := 343) C d_jdk_2450m9_341 rfl rfl ?_
  refine Wk.bipush (pc' := 345) C d_jdk_2450m9_343 (v := (12 : Int32)) rfl rfl ?_
  refine Wk.icmp_ne C d_jdk_2450m9_345 (by decide) (pcT := 358) (by decide) (pc' := 348) rfl (fun q56 => ?_) (fun q => absurd q (by decide))
  refine Wk.iloadN (pc' := 359) C d_jdk_2450m9_358 rfl rfl ?_
  refine Wk.iloadN (pc' := 360) C d_jdk_2450m9_359 rfl rfl ?_
  refine Wk.icmp_ge C d_jdk_2450m9_360 (by decide) (pcT := 416) (by decide) (pc' := 363) rfl (fun q57 => ?_) (fun q => absurd q (by decide))
  refine Wk.iload (pc' := 418) C d_jdk_2450m9_416 rfl rfl ?_
  have VD := V52
  have KP : Keep h0 h52 [d] := ((((Keep.refl _ _).wr W47 (Or.inl (List.mem_singleton.mpr rfl))).wr W50 (Or.inl (List.mem_singleton.mpr rfl))).wr W52 (Or.inl (List.mem_singleton.mpr rfl)))
  subst hv16 hv18 hv19 hv24 hv26 hv27 hv32 hv34 hv35 hv40 hv42 hv43 hv45 hv46 hv48 hv49 hv51
  exact Wk.retI C d_jdk_2450m9_418 (by decide) (by decide) ⟨rfl, KP, VD⟩
set_option maxRecDepth 65536 in
set_option maxHeartbeats 40000000 in
theorem own_dec0_6 (l : Launch) {Z : State} {a0 : Array Value} (hw : Ws a0 Z) {h0 : Heap} (O0 : Ext Z.heap h0) {aD aT aI aU : Addr} (bs : BS Z aD aT aI aU) (b d : Addr) (x0 x1 x2 x3 x4 x5 : Int32) {u0 u1 u2 u3 u4 u5 : Int32}  (V : Wk.Ary Z h0 b .byte [(.int x0), (.int x1), (.int x2), (.int x3), (.int x4), (.int x5)]) (t0 : Tb x0 u0) (t1 : Tb x1 u1) (t2 : Tb x2 u2) (t3 : Tb x3 u3) (t4 : Tb x4 u4) (t5 : Tb x5 u5) (D : Wk.Ary Z h0 d .byte [(.int (0 : Int32)), (.int (0 : Int32)), (.int (0 : Int32)), (.int (0 : Int32))]) (gd : Z.heap.size ≤ d) (nbd : b ≠ d) (nTd : aT ≠ d)  :
    Wk.Con l Z (⟨"java/util/Base64$Decoder", "decode0", "([BII[B)I"⟩ : MethodName) jdk_2450_method_9_code 11 (some .int) ({ frames := 1, cells := 0, slots := 0, locals := 40 } : Room) #[(.ref aD), (.ref b), (.int (0 : Int32)), (.int (6 : Int32)), (.ref d)] h0 (fun v h' => v = some (.int (4 : Int32)) ∧ Keep h0 h' [d] ∧ Wk.Ary Z h' d .byte [(.int (((dW u0 u1 u2 u3) >>> ((16 : Int32) &&& 31)).toInt8.toInt32)), (.int (((dW u0 u1 u2 u3) >>> ((8 : Int32) &&& 31)).toInt8.toInt32)), (.int ((dW u0 u1 u2 u3).toInt8.toInt32)), (.int (((dS2 u4 u5) >>> ((16 : Int32) &&& 31)).toInt8.toInt32))]) := by
  refine Wk.Con.intro (plainFor_of_name pn1) O0 (fun m => ef19 m aD b d) ?_
  intro W C
  replace C : Wk.Cx Z W "java/util/Base64$Decoder" "decode0" jdk_2450_method_9_code 11 (some .int) := C
  refine Wk.aloadN (pc' := 1) C d_jdk_2450m9_0 rfl rfl rfl ?_
  refine Wk.getF (pc' := 4) C d_jdk_2450m9_1 (w123 hw) Via.refl (bs.2.2.2.2.2.1.ext O0) rfl ?_
  refine Wk.if_eq C d_jdk_2450m9_4 (by decide) (pcT := 13) (by decide) (pc' := 7) rfl (fun q => absurd q (by decide)) (fun q11 => ?_)
  refine Wk.getS (pc' := 10) C d_jdk_2450m9_7 (w125 hw) Via.refl (bs.2.1.ext O0) rfl ?_
  refine Wk.goto C d_jdk_2450m9_10 (by decide) (pc' := 16) (by decide) ?_
  refine Wk.astore (pc' := 18) C d_jdk_2450m9_16 rfl (Ls' := #[.val (.ref aD), .val (.ref b), .val (.int (0 : Int32)), .val (.int (6 : Int32)), .val (.ref d), .val (.ref aT), .unset, .unset, .unset, .unset, .unset]) rfl rfl ?_
  refine Wk.iconst (pc' := 19) C d_jdk_2450m9_18 (v := (0 : Int32)) rfl rfl ?_
  refine Wk.istore (pc' := 21) C d_jdk_2450m9_19 (Ls' := #[.val (.ref aD), .val (.ref b), .val (.int (0 : Int32)), .val (.int (6 : Int32)), .val (.ref d), .val (.ref aT), .val (.int (0 : Int32)), .unset, .unset, .unset, .unset]) rfl rfl ?_
  refine Wk.iconst (pc' := 22) C d_jdk_2450m9_21 (v := (0 : Int32)) rfl rfl ?_
  refine Wk.istore (pc' := 24) C d_jdk_2450m9_22 (Ls' := #[.val (.ref aD), .val (.ref b), .val (.int (0 : Int32)), .val (.int (6 : Int32)), .val (.ref d), .val (.ref aT), .val (.int (0 : Int32)), .val (.int (0 : Int32)), .unset, .unset, .unset]) rfl rfl ?_
  refine Wk.bipush (pc' := 26) C d_jdk_2450m9_24 (v := (18 : Int32)) rfl rfl ?_
  refine Wk.istore (pc' := 28) C d_jdk_2450m9_26 (Ls' := #[.val (.ref aD), .val (.ref b), .val (.int (0 : Int32)), .val (.int (6 : Int32)), .val (.ref d), .val (.ref aT), .val (.int (0 : Int32)), .val (.int (0 : Int32)), .val (.int (18 : Int32)), .unset, .unset]) rfl rfl ?_
  refine Wk.iloadN (pc' := 29) C d_jdk_2450m9_28 rfl rfl ?_
  refine Wk.iloadN (pc' := 30) C d_jdk_2450m9_29 rfl rfl ?_
  refine Wk.icmp_ge C d_jdk_2450m9_30 (by decide) (pcT := 281) (by decide) (pc' := 33) rfl (fun q => absurd q (by decide)) (fun q12 => ?_)
  refine Wk.iload (pc' := 35) C d_jdk_2450m9_33 rfl rfl ?_
  refine Wk.bipush (pc' := 37) C d_jdk_2450m9_35 (v := (18 : Int32)) rfl rfl ?_
  refine Wk.icmp_ne C d_jdk_2450m9_37 (by decide) (pcT := 90) (by decide) (pc' := 40) rfl (fun q => absurd q (by decide)) (fun q13 => ?_)
  refine Wk.iloadN (pc' := 41) C d_jdk_2450m9_40 rfl rfl ?_
  refine Wk.iloadN (pc' := 42) C d_jdk_2450m9_41 rfl rfl ?_
  refine Wk.iconst (pc' := 43) C d_jdk_2450m9_42 (v := (4 : Int32)) rfl rfl ?_
  refine Wk.isub (pc' := 44) C d_jdk_2450m9_43 (v := (2 : Int32)) (by decide) rfl ?_
  refine Wk.icmp_ge C d_jdk_2450m9_44 (by decide) (pcT := 90) (by decide) (pc' := 47) rfl (fun q => absurd q (by decide)) (fun q14 => ?_)
  refine Wk.aloadN (pc' := 48) C d_jdk_2450m9_47 rfl rfl rfl ?_
  refine Wk.aloadN (pc' := 49) C d_jdk_2450m9_48 rfl rfl rfl ?_
  refine Wk.iloadN (pc' := 50) C d_jdk_2450m9_49 rfl rfl ?_
  refine Wk.iloadN (pc' := 51) C d_jdk_2450m9_50 rfl rfl ?_
  refine Wk.aload (pc' := 53) C d_jdk_2450m9_51 rfl rfl rfl ?_
  refine Wk.iload (pc' := 55) C d_jdk_2450m9_53 rfl rfl ?_
  refine Wk.aloadN (pc' := 56) C d_jdk_2450m9_55 rfl rfl rfl ?_
  refine Wk.getF (pc' := 59) C d_jdk_2450m9_56 (w123 hw) Via.refl (bs.2.2.2.2.2.1.ext O0) rfl ?_
  refine Wk.aloadN (pc' := 60) C d_jdk_2450m9_59 rfl rfl rfl ?_
  refine Wk.getF (pc' := 63) C d_jdk_2450m9_60 (w160 hw) Via.refl (bs.2.2.2.2.2.2.1.ext O0) rfl ?_
  refine Wk.callV (pc' := 66) C d_jdk_2450m9_63 (a := aD) (Wk.Con.pays C (Wn := 0) (own_blk_6 l hw O0 bs b d x0 x1 x2 x3 x4 x5 V t0 t1 t2 t3 t4 t5 D gd nbd nTd) (w168 hw) (w83 hw) (by decide) (by decide)) Wk.cleanC (bs.2.2.2.2.1.ext O0) (w164 hw) (Wk.declOf (w165 hw) (w168 hw)) (notFace_of_selects (args := #[]) (mvT C.hZ (w167 hw))) (w167 hw) (w165 hw) (by decide) (argsL := [(.ref b), (.int (0 : Int32)), (.int (6 : Int32)), (.ref d), (.int (0 : Int32)), (.int (1 : Int32)), (.int (0 : Int32))]) (st := []) rfl rfl (lenOf pd4 rfl) rfl (Nat.le_of_eq rfl) (k' := 0) rfl (n' := 0) rfl (by decide) (by decide) rfl ?_
  intro r15 h16 Q16 O16
  obtain ⟨rfl, K16, D16⟩ := Q16
  refine Wk.istore (pc' := 68) C d_jdk_2450m9_66 (Ls' := #[.val (.ref aD), .val (.ref b), .val (.int (0 : Int32)), .val (.int (6 : Int32)), .val (.ref d), .val (.ref aT), .val (.int (0 : Int32)), .val (.int (0 : Int32)), .val (.int (18 : Int32)), .val (.int (3 : Int32)), .unset]) rfl rfl ?_
  refine Wk.iload (pc' := 70) C d_jdk_2450m9_68 rfl rfl ?_
  refine Wk.iconst (pc' := 71) C d_jdk_2450m9_70 (v := (2 : Int32)) rfl rfl ?_
  refine Wk.iadd (pc' := 72) C d_jdk_2450m9_71 (v := (5 : Int32)) (by decide) rfl ?_
  refine Wk.iconst (pc' := 73) C d_jdk_2450m9_72 (v := (3 : Int32)) rfl rfl ?_
  refine Wk.idiv (pc' := 74) C d_jdk_2450m9_73 (by decide) (v := (1 : Int32)) (by decide) rfl ?_
  refine Wk.iconst (pc' := 75) C d_jdk_2450m9_74 (v := (4 : Int32)) rfl rfl ?_
  refine Wk.imul (pc' := 76) C d_jdk_2450m9_75 (v := (4 : Int32)) (by decide) rfl ?_
  refine Wk.istore (pc' := 78) C d_jdk_2450m9_76 (Ls' := #[.val (.ref aD), .val (.ref b), .val (.int (0 : Int32)), .val (.int (6 : Int32)), .val (.ref d), .val (.ref aT), .val (.int (0 : Int32)), .val (.int (0 : Int32)), .val (.int (18 : Int32)), .val (.int (3 : Int32)), .val (.int (4 : Int32))]) rfl rfl ?_
  refine Wk.iloadN (pc' := 79) C d_jdk_2450m9_78 rfl rfl ?_
  refine Wk.iload (pc' := 81) C d_jdk_2450m9_79 rfl rfl ?_
  refine Wk.iadd (pc' := 82) C d_jdk_2450m9_81 (v := (4 : Int32)) (by decide) rfl ?_
  refine Wk.istoreN (pc' := 83) C d_jdk_2450m9_82 (Ls' := #[.val (.ref aD), .val (.ref b), .val (.int (4 : Int32)), .val (.int (6 : Int32)), .val (.ref d), .val (.ref aT), .val (.int (0 : Int32)), .val (.int (0 : Int32)), .val (.int (18 : Int32)), .val (.int (3 : Int32)), .val (.int (4 : Int32))]) rfl rfl ?_
  refine Wk.iload (pc' := 85) C d_jdk_2450m9_83 rfl rfl ?_
  refine Wk.iload (pc' := 87) C d_jdk_2450m9_85 rfl rfl ?_
  refine Wk.iadd (pc' := 88) C d_jdk_2450m9_87 (v := (3 : Int32)) (by decide) rfl ?_
  refine Wk.istore (pc' := 90) C d_jdk_2450m9_88 (Ls' := #[.val (.ref aD), .val (.ref b), .val (.int (4 : Int32)), .val (.int (6 : Int32)), .val (.ref d), .val (.ref aT), .val (.int (3 : Int32)), .val (.int (0 : Int32)), .val (.int (18 : Int32)), .val (.int (3 : Int32)), .val (.int (4 : Int32))]) rfl rfl ?_
  refine Wk.iloadN (pc' := 91) C d_jdk_2450m9_90 rfl rfl ?_
  refine Wk.iloadN (pc' := 92) C d_jdk_2450m9_91 rfl rfl ?_
  refine Wk.icmp_lt C d_jdk_2450m9_92 (by decide) (pcT := 98) (by decide) (pc' := 95) rfl (fun q17 => ?_) (fun q => absurd q (by decide))
  refine Wk.aloadN (pc' := 99) C d_jdk_2450m9_98 rfl rfl rfl ?_
  refine Wk.iloadN (pc' := 100) C d_jdk_2450m9_99 rfl rfl ?_
  refine Wk.iinc (pc' := 103) C d_jdk_2450m9_100 rfl (v := (5 : Int32)) (by decide) (Ls' := #[.val (.ref aD), .val (.ref b), .val (.int (5 : Int32)), .val (.int (6 : Int32)), .val (.ref d), .val (.ref aT), .val (.int (3 : Int32)), .val (.int (0 : Int32)), .val (.int (18 : Int32)), .val (.int (3 : Int32)), .val (.int (4 : Int32))]) rfl rfl ?_
  refine Wk.baload (pc' := 104) C d_jdk_2450m9_103 (V.keep K16 (ninS nbd nin0)) (by decide) (v := (.int x4)) rfl rfl ?_
  refine Wk.sipush (pc' := 107) C d_jdk_2450m9_104 (v := (255 : Int32)) rfl rfl ?_
  obtain ⟨v18, hv18⟩ : ∃ z : Int32, x4 &&& (255 : Int32) = z := ⟨_, rfl⟩
  refine Wk.iand (pc' := 108) C d_jdk_2450m9_107 hv18 rfl ?_
  refine Wk.istore (pc' := 110) C d_jdk_2450m9_108 (Ls' := #[.val (.ref aD), .val (.ref b), .val (.int (5 : Int32)), .val (.int (6 : Int32)), .val (.ref d), .val (.ref aT), .val (.int (3 : Int32)), .val (.int (0 : Int32)), .val (.int (18 : Int32)), .val (.int v18), .val (.int (4 : Int32))]) rfl rfl ?_
  refine Wk.aload (pc' := 112) C d_jdk_2450m9_110 rfl rfl rfl ?_
  refine Wk.iload (pc' := 114) C d_jdk_2450m9_112 rfl rfl ?_
  refine Wk.iaload (pc' := 115) C d_jdk_2450m9_114 ((bs.2.2.2.2.2.2.2.1.ext O0).keep K16 (ninS nTd nin0)) (own_tab hv18 t4).1 (v := (.int u4)) (own_tab hv18 t4).2 rfl ?_
  refine Wk.dup (pc' := 116) C d_jdk_2450m9_115 rfl rfl ?_
  refine Wk.istore (pc' := 118) C d_jdk_2450m9_116 (Ls' := #[.val (.ref aD), .val (.ref b), .val (.int (5 : Int32)), .val (.int (6 : Int32)), .val (.ref d), .val (.ref aT), .val (.int (3 : Int32)), .val (.int (0 : Int32)), .val (.int (18 : Int32)), .val (.int u4), .val (.int (4 : Int32))]) rfl rfl ?_
  refine Wk.if_ge C d_jdk_2450m9_118 (by decide) (pcT := 214) (by decide) (pc' := 121) rfl (fun q19 => ?_) (fun q => absurd q t4.2.2.1)
  refine Wk.iload (pc' := 216) C d_jdk_2450m9_214 rfl rfl ?_
  refine Wk.iload (pc' := 218) C d_jdk_2450m9_216 rfl rfl ?_
  refine Wk.iload (pc' := 220) C d_jdk_2450m9_218 rfl rfl ?_
  obtain ⟨v20, hv20⟩ : ∃ z : Int32, u4 <<< ((18 : Int32) &&& 31) = z := ⟨_, rfl⟩
  refine Wk.ishl (pc' := 221) C d_jdk_2450m9_220 hv20 rfl ?_
  obtain ⟨v21, hv21⟩ : ∃ z : Int32, (0 : Int32) ||| v20 = z := ⟨_, rfl⟩
  refine Wk.ior (pc' := 222) C d_jdk_2450m9_221 hv21 rfl ?_
  refine Wk.istore (pc' := 224) C d_jdk_2450m9_222 (Ls' := #[.val (.ref aD), .val (.ref b), .val (.int (5 : Int32)), .val (.int (6 : Int32)), .val (.ref d), .val (.ref aT), .val (.int (3 : Int32)), .val (.int v21), .val (.int (18 : Int32)), .val (.int u4), .val (.int (4 : Int32))]) rfl rfl ?_
  refine Wk.iinc (pc' := 227) C d_jdk_2450m9_224 rfl (v := (12 : Int32)) (by decide) (Ls' := #[.val (.ref aD), .val (.ref b), .val (.int (5 : Int32)), .val (.int (6 : Int32)), .val (.ref d), .val (.ref aT), .val (.int (3 : Int32)), .val (.int v21), .val (.int (12 : Int32)), .val (.int u4), .val (.int (4 : Int32))]) rfl rfl ?_
  refine Wk.iload (pc' := 229) C d_jdk_2450m9_227 rfl rfl ?_
  refine Wk.if_ge C d_jdk_2450m9_229 (by decide) (pcT := 278) (by decide) (pc' := 232) rfl (fun q22 => ?_) (fun q => absurd q (by decide))
  refine Wk.goto C d_jdk_2450m9_278 (by decide) (pc' := 28) (by decide) ?_
  refine Wk.iloadN (pc' := 29) C d_jdk_2450m9_28 rfl rfl ?_
  refine Wk.iloadN (pc' := 30) C d_jdk_2450m9_29 rfl rfl ?_
  refine Wk.icmp_ge C d_jdk_2450m9_30 (by decide) (pcT := 281) (by decide) (pc' := 33) rfl (fun q => absurd q (by decide)) (fun q23 => ?_)
  refine Wk.iload (pc' := 35) C d_jdk_2450m9_33 rfl rfl ?_
  refine Wk.bipush (pc' := 37) C d_jdk_2450m9_35 (v := (18 : Int32)) rfl rfl ?_
  refine Wk.icmp_ne C d_jdk_2450m9_37 (by decide) (pcT := 90) (by decide) (pc' := 40) rfl (fun q24 => ?_) (fun q => absurd q (by decide))
  refine Wk.iloadN (pc' := 91) C d_jdk_2450m9_90 rfl rfl ?_
  refine Wk.iloadN (pc' := 92) C d_jdk_2450m9_91 rfl rfl ?_
  refine Wk.icmp_lt C d_jdk_2450m9_92 (by decide) (pcT := 98) (by decide) (pc' := 95) rfl (fun q25 => ?_) (fun q => absurd q (by decide))
  refine Wk.aloadN (pc' := 99) C d_jdk_2450m9_98 rfl rfl rfl ?_
  refine Wk.iloadN (pc' := 100) C d_jdk_2450m9_99 rfl rfl ?_
  refine Wk.iinc (pc' := 103) C d_jdk_2450m9_100 rfl (v := (6 : Int32)) (by decide) (Ls' := #[.val (.ref aD), .val (.ref b), .val (.int (6 : Int32)), .val (.int (6 : Int32)), .val (.ref d), .val (.ref aT), .val (.int (3 : Int32)), .val (.int v21), .val (.int (12 : Int32)), .val (.int u4), .val (.int (4 : Int32))]) rfl rfl ?_
  refine Wk.baload (pc' := 104) C d_jdk_2450m9_103 (V.keep K16 (ninS nbd nin0)) (by decide) (v := (.int x5)) rfl rfl ?_
  refine Wk.sipush (pc' := 107) C d_jdk_2450m9_104 (v := (255 : Int32)) rfl rfl ?_
  obtain ⟨v26, hv26⟩ : ∃ z : Int32, x5 &&& (255 : Int32) = z := ⟨_, rfl⟩
  refine Wk.iand (pc' := 108) C d_jdk_2450m9_107 hv26 rfl ?_
  refine Wk.istore (pc' := 110) C d_jdk_2450m9_108 (Ls' := #[.val (.ref aD), .val (.ref b), .val (.int (6 : Int32)), .val (.int (6 : Int32)), .val (.ref d), .val (.ref aT), .val (.int (3 : Int32)), .val (.int v21), .val (.int (12 : Int32)), .val (.int v26), .val (.int (4 : Int32))]) rfl rfl ?_
  refine Wk.aload (pc' := 112) C d_jdk_2450m9_110 rfl rfl rfl ?_
  refine Wk.iload (pc' := 114) C d_jdk_2450m9_112 rfl rfl ?_
  refine Wk.iaload (pc' := 115) C d_jdk_2450m9_114 ((bs.2.2.2.2.2.2.2.1.ext O0).keep K16 (ninS nTd nin0)) (own_tab hv26 t5).1 (v := (.int u5)) (own_tab hv26 t5).2 rfl ?_
  refine Wk.dup (pc' := 116) C d_jdk_2450m9_115 rfl rfl ?_
  refine Wk.istore (pc' := 118) C d_jdk_2450m9_116 (Ls' := #[.val (.ref aD), .val (.ref b), .val (.int (6 : Int32)), .val (.int (6 : Int32)), .val (.ref d), .val (.ref aT), .val (.int (3 : Int32)), .val (.int v21), .val (.int (12 : Int32)), .val (.int u5), .val (.int (4 : Int32))]) rfl rfl ?_
  refine Wk.if_ge C d_jdk_2450m9_118 (by decide) (pcT := 214) (by decide) (pc' := 121) rfl (fun q27 => ?_) (fun q => absurd q t5.2.2.1)
  refine Wk.iload (pc' := 216) C d_jdk_2450m9_214 rfl rfl ?_
  refine Wk.iload (pc' := 218) C d_jdk_2450m9_216 rfl rfl ?_
  refine Wk.iload (pc' := 220) C d_jdk_2450m9_218 rfl rfl ?_
  obtain ⟨v28, hv28⟩ : ∃ z : Int32, u5 <<< ((12 : Int32) &&& 31) = z := ⟨_, rfl⟩
  refine Wk.ishl (pc' := 221) C d_jdk_2450m9_220 hv28 rfl ?_
  obtain ⟨v29, hv29⟩ : ∃ z : Int32, v21 ||| v28 = z := ⟨_, rfl⟩
  refine Wk.ior (pc' := 222) C d_jdk_2450m9_221 hv29 rfl ?_
  refine Wk.istore (pc' := 224) C d_jdk_2450m9_222 (Ls' := #[.val (.ref aD), .val (.ref b), .val (.int (6 : Int32)), .val (.int (6 : Int32)), .val (.ref d), .val (.ref aT), .val (.int (3 : Int32)), .val (.int v29), .val (.int (12 : Int32)), .val (.int u5), .val (.int (4 : Int32))]) rfl rfl ?_
  refine Wk.iinc (pc' := 227) C d_jdk_2450m9_224 rfl (v := (6 : Int32)) (by decide) (Ls' := #[.val (.ref aD), .val (.ref b), .val (.int (6 : Int32)), .val (.int (6 : Int32)), .val (.ref d), .val (.ref aT), .val (.int (3 : Int32)), .val (.int v29), .val (.int (6 : Int32)), .val (.int u5), .val (.int (4 : Int32))]) rfl rfl ?_
  refine Wk.iload (pc' := 229) C d_jdk_2450m9_227 rfl rfl ?_
  refine Wk.if_ge C d_jdk_2450m9_229 (by decide) (pcT := 278) (by decide) (pc' := 232) rfl (fun q30 => ?_) (fun q => absurd q (by decide))
  refine Wk.goto C d_jdk_2450m9_278 (by decide) (pc' := 28) (by decide) ?_
  refine Wk.iloadN (pc' := 29) C d_jdk_2450m9_28 rfl rfl ?_
  refine Wk.iloadN (pc' := 30) C d_jdk_2450m9_29 rfl rfl ?_
  refine Wk.icmp_ge C d_jdk_2450m9_30 (by decide) (pcT := 281) (by decide) (pc' := 33) rfl (fun q31 => ?_) (fun q => absurd q (by decide))
  refine Wk.iload (pc' := 283) C d_jdk_2450m9_281 rfl rfl ?_
  refine Wk.bipush (pc' := 285) C d_jdk_2450m9_283 (v := (6 : Int32)) rfl rfl ?_
  refine Wk.icmp_ne C d_jdk_2450m9_285 (by decide) (pcT := 305) (by decide) (pc' := 288) rfl (fun q => absurd q (by decide)) (fun q32 => ?_)
  refine Wk.aload (pc' := 290) C d_jdk_2450m9_288 rfl rfl rfl ?_
  refine Wk.iload (pc' := 292) C d_jdk_2450m9_290 rfl rfl ?_
  refine Wk.iinc (pc' := 295) C d_jdk_2450m9_292 rfl (v := (4 : Int32)) (by decide) (Ls' := #[.val (.ref aD), .val (.ref b), .val (.int (6 : Int32)), .val (.int (6 : Int32)), .val (.ref d), .val (.ref aT), .val (.int (4 : Int32)), .val (.int v29), .val (.int (6 : Int32)), .val (.int u5), .val (.int (4 : Int32))]) rfl rfl ?_
  refine Wk.iload (pc' := 297) C d_jdk_2450m9_295 rfl rfl ?_
  refine Wk.bipush (pc' := 299) C d_jdk_2450m9_297 (v := (16 : Int32)) rfl rfl ?_
  obtain ⟨v33, hv33⟩ : ∃ z : Int32, v29 >>> ((16 : Int32) &&& 31) = z := ⟨_, rfl⟩
  refine Wk.ishr (pc' := 300) C d_jdk_2450m9_299 hv33 rfl ?_
  obtain ⟨v34, hv34⟩ : ∃ z : Int32, v33.toInt8.toInt32 = z := ⟨_, rfl⟩
  refine Wk.i2b (pc' := 301) C d_jdk_2450m9_300 hv34 rfl ?_
  refine Wk.bastore (pc' := 302) C d_jdk_2450m9_301 D16 (by decide) (show _ < _ from Nat.le_of_ble_eq_true rfl) (vs' := [(.int (((dW u0 u1 u2 u3) >>> ((16 : Int32) &&& 31)).toInt8.toInt32)), (.int (((dW u0 u1 u2 u3) >>> ((8 : Int32) &&& 31)).toInt8.toInt32)), (.int ((dW u0 u1 u2 u3).toInt8.toInt32)), (.int v34)]) (by rw [Wk.nar_i2b hv34]; rfl) gd rfl ?_
  intro h35 W35 V35 O35
  refine Wk.goto C d_jdk_2450m9_302 (by decide) (pc' := 358) (by decide) ?_
  refine Wk.iloadN (pc' := 359) C d_jdk_2450m9_358 rfl rfl ?_
  refine Wk.iloadN (pc' := 360) C d_jdk_2450m9_359 rfl rfl ?_
  refine Wk.icmp_ge C d_jdk_2450m9_360 (by decide) (pcT := 416) (by decide) (pc' := 363) rfl (fun q36 => ?_) (fun q => absurd q (by decide))
  refine Wk.iload (pc' := 418) C d_jdk_2450m9_416 rfl rfl ?_
  have VD := V35
  have KP : Keep h0 h35 [d] := (((Keep.refl _ _).trans K16 (allS (Or.inl (List.mem_singleton.mpr rfl)) all0)).wr W35 (Or.inl (List.mem_singleton.mpr rfl)))
  subst hv18 hv20 hv21 hv26 hv28 hv29 hv33 hv34
  exact Wk.retI C d_jdk_2450m9_418 (by decide) (by decide) ⟨rfl, KP, VD⟩
set_option maxRecDepth 65536 in
set_option maxHeartbeats 40000000 in
theorem own_dec0_7 (l : Launch) {Z : State} {a0 : Array Value} (hw : Ws a0 Z) {h0 : Heap} (O0 : Ext Z.heap h0) {aD aT aI aU : Addr} (bs : BS Z aD aT aI aU) (b d : Addr) (x0 x1 x2 x3 x4 x5 x6 : Int32) {u0 u1 u2 u3 u4 u5 u6 : Int32}  (V : Wk.Ary Z h0 b .byte [(.int x0), (.int x1), (.int x2), (.int x3), (.int x4), (.int x5), (.int x6)]) (t0 : Tb x0 u0) (t1 : Tb x1 u1) (t2 : Tb x2 u2) (t3 : Tb x3 u3) (t4 : Tb x4 u4) (t5 : Tb x5 u5) (t6 : Tb x6 u6) (D : Wk.Ary Z h0 d .byte [(.int (0 : Int32)), (.int (0 : Int32)), (.int (0 : Int32)), (.int (0 : Int32)), (.int (0 : Int32))]) (gd : Z.heap.size ≤ d) (nbd : b ≠ d) (nTd : aT ≠ d)  :
    Wk.Con l Z (⟨"java/util/Base64$Decoder", "decode0", "([BII[B)I"⟩ : MethodName) jdk_2450_method_9_code 11 (some .int) ({ frames := 1, cells := 0, slots := 0, locals := 40 } : Room) #[(.ref aD), (.ref b), (.int (0 : Int32)), (.int (7 : Int32)), (.ref d)] h0 (fun v h' => v = some (.int (5 : Int32)) ∧ Keep h0 h' [d] ∧ Wk.Ary Z h' d .byte [(.int (((dW u0 u1 u2 u3) >>> ((16 : Int32) &&& 31)).toInt8.toInt32)), (.int (((dW u0 u1 u2 u3) >>> ((8 : Int32) &&& 31)).toInt8.toInt32)), (.int ((dW u0 u1 u2 u3).toInt8.toInt32)), (.int (((dS3 u4 u5 u6) >>> ((16 : Int32) &&& 31)).toInt8.toInt32)), (.int (((dS3 u4 u5 u6) >>> ((8 : Int32) &&& 31)).toInt8.toInt32))]) := by
  refine Wk.Con.intro (plainFor_of_name pn1) O0 (fun m => ef20 m aD b d) ?_
  intro W C
  replace C : Wk.Cx Z W "java/util/Base64$Decoder" "decode0" jdk_2450_method_9_code 11 (some .int) := C
  refine Wk.aloadN (pc' := 1) C d_jdk_2450m9_0 rfl rfl rfl ?_
  refine Wk.getF (pc' := 4) C d_jdk_2450m9_1 (w123 hw) Via.refl (bs.2.2.2.2.2.1.ext O0) rfl ?_
  refine Wk.if_eq C d_jdk_2450m9_4 (by decide) (pcT := 13) (by decide) (pc' := 7) rfl (fun q => absurd q (by decide)) (fun q11 => ?_)
  refine Wk.getS (pc' := 10) C d_jdk_2450m9_7 (w125 hw) Via.refl (bs.2.1.ext O0) rfl ?_
  refine Wk.goto C d_jdk_2450m9_10 (by decide) (pc' := 16) (by decide) ?_
  refine Wk.astore (pc' := 18) C d_jdk_2450m9_16 rfl (Ls' := #[.val (.ref aD), .val (.ref b), .val (.int (0 : Int32)), .val (.int (7 : Int32)), .val (.ref d), .val (.ref aT), .unset, .unset, .unset, .unset, .unset]) rfl rfl ?_
  refine Wk.iconst (pc' := 19) C d_jdk_2450m9_18 (v := (0 : Int32)) rfl rfl ?_
  refine Wk.istore (pc' := 21) C d_jdk_2450m9_19 (Ls' := #[.val (.ref aD), .val (.ref b), .val (.int (0 : Int32)), .val (.int (7 : Int32)), .val (.ref d), .val (.ref aT), .val (.int (0 : Int32)), .unset, .unset, .unset, .unset]) rfl rfl ?_
  refine Wk.iconst (pc' := 22) C d_jdk_2450m9_21 (v := (0 : Int32)) rfl rfl ?_
  refine Wk.istore (pc' := 24) C d_jdk_2450m9_22 (Ls' := #[.val (.ref aD), .val (.ref b), .val (.int (0 : Int32)), .val (.int (7 : Int32)), .val (.ref d), .val (.ref aT), .val (.int (0 : Int32)), .val (.int (0 : Int32)), .unset, .unset, .unset]) rfl rfl ?_
  refine Wk.bipush (pc' := 26) C d_jdk_2450m9_24 (v := (18 : Int32)) rfl rfl ?_
  refine Wk.istore (pc' := 28) C d_jdk_2450m9_26 (Ls' := #[.val (.ref aD), .val (.ref b), .val (.int (0 : Int32)), .val (.int (7 : Int32)), .val (.ref d), .val (.ref aT), .val (.int (0 : Int32)), .val (.int (0 : Int32)), .val (.int (18 : Int32)), .unset, .unset]) rfl rfl ?_
  refine Wk.iloadN (pc' := 29) C d_jdk_2450m9_28 rfl rfl ?_
  refine Wk.iloadN (pc' := 30) C d_jdk_2450m9_29 rfl rfl ?_
  refine Wk.icmp_ge C d_jdk_2450m9_30 (by decide) (pcT := 281) (by decide) (pc' := 33) rfl (fun q => absurd q (by decide)) (fun q12 => ?_)
  refine Wk.iload (pc' := 35) C d_jdk_2450m9_33 rfl rfl ?_
  refine Wk.bipush (pc' := 37) C d_jdk_2450m9_35 (v := (18 : Int32)) rfl rfl ?_
  refine Wk.icmp_ne C d_jdk_2450m9_37 (by decide) (pcT := 90) (by decide) (pc' := 40) rfl (fun q => absurd q (by decide)) (fun q13 => ?_)
  refine Wk.iloadN (pc' := 41) C d_jdk_2450m9_40 rfl rfl ?_
  refine Wk.iloadN (pc' := 42) C d_jdk_2450m9_41 rfl rfl ?_
  refine Wk.iconst (pc' := 43) C d_jdk_2450m9_42 (v := (4 : Int32)) rfl rfl ?_
  refine Wk.isub (pc' := 44) C d_jdk_2450m9_43 (v := (3 : Int32)) (by decide) rfl ?_
  refine Wk.icmp_ge C d_jdk_2450m9_44 (by decide) (pcT := 90) (by decide) (pc' := 47) rfl (fun q => absurd q (by decide)) (fun q14 => ?_)
  refine Wk.aloadN (pc' := 48) C d_jdk_2450m9_47 rfl rfl rfl ?_
  refine Wk.aloadN (pc' := 49) C d_jdk_2450m9_48 rfl rfl rfl ?_
  refine Wk.iloadN (pc' := 50) C d_jdk_2450m9_49 rfl rfl ?_
  refine Wk.iloadN (pc' := 51) C d_jdk_2450m9_50 rfl rfl ?_
  refine Wk.aload (pc' := 53) C d_jdk_2450m9_51 rfl rfl rfl ?_
  refine Wk.iload (pc' := 55) C d_jdk_2450m9_53 rfl rfl ?_
  refine Wk.aloadN (pc' := 56) C d_jdk_2450m9_55 rfl rfl rfl ?_
  refine Wk.getF (pc' := 59) C d_jdk_2450m9_56 (w123 hw) Via.refl (bs.2.2.2.2.2.1.ext O0) rfl ?_
  refine Wk.aloadN (pc' := 60) C d_jdk_2450m9_59 rfl rfl rfl ?_
  refine Wk.getF (pc' := 63) C d_jdk_2450m9_60 (w160 hw) Via.refl (bs.2.2.2.2.2.2.1.ext O0) rfl ?_
  refine Wk.callV (pc' := 66) C d_jdk_2450m9_63 (a := aD) (Wk.Con.pays C (Wn := 0) (own_blk_7 l hw O0 bs b d x0 x1 x2 x3 x4 x5 x6 V t0 t1 t2 t3 t4 t5 t6 D gd nbd nTd) (w168 hw) (w83 hw) (by decide) (by decide)) Wk.cleanC (bs.2.2.2.2.1.ext O0) (w164 hw) (Wk.declOf (w165 hw) (w168 hw)) (notFace_of_selects (args := #[]) (mvT C.hZ (w167 hw))) (w167 hw) (w165 hw) (by decide) (argsL := [(.ref b), (.int (0 : Int32)), (.int (7 : Int32)), (.ref d), (.int (0 : Int32)), (.int (1 : Int32)), (.int (0 : Int32))]) (st := []) rfl rfl (lenOf pd4 rfl) rfl (Nat.le_of_eq rfl) (k' := 0) rfl (n' := 0) rfl (by decide) (by decide) rfl ?_
  intro r15 h16 Q16 O16
  obtain ⟨rfl, K16, D16⟩ := Q16
  refine Wk.istore (pc' := 68) C d_jdk_2450m9_66 (Ls' := #[.val (.ref aD), .val (.ref b), .val (.int (0 : Int32)), .val (.int (7 : Int32)), .val (.ref d), .val (.ref aT), .val (.int (0 : Int32)), .val (.int (0 : Int32)), .val (.int (18 : Int32)), .val (.int (3 : Int32)), .unset]) rfl rfl ?_
  refine Wk.iload (pc' := 70) C d_jdk_2450m9_68 rfl rfl ?_
  refine Wk.iconst (pc' := 71) C d_jdk_2450m9_70 (v := (2 : Int32)) rfl rfl ?_
  refine Wk.iadd (pc' := 72) C d_jdk_2450m9_71 (v := (5 : Int32)) (by decide) rfl ?_
  refine Wk.iconst (pc' := 73) C d_jdk_2450m9_72 (v := (3 : Int32)) rfl rfl ?_
  refine Wk.idiv (pc' := 74) C d_jdk_2450m9_73 (by decide) (v := (1 : Int32)) (by decide) rfl ?_
  refine Wk.iconst (pc' := 75) C d_jdk_2450m9_74 (v := (4 : Int32)) rfl rfl ?_
  refine Wk.imul (pc' := 76) C d_jdk_2450m9_75 (v := (4 : Int32)) (by decide) rfl ?_
  refine Wk.istore (pc' := 78) C d_jdk_2450m9_76 (Ls' := #[.val (.ref aD), .val (.ref b), .val (.int (0 : Int32)), .val (.int (7 : Int32)), .val (.ref d), .val (.ref aT), .val (.int (0 : Int32)), .val (.int (0 : Int32)), .val (.int (18 : Int32)), .val (.int (3 : Int32)), .val (.int (4 : Int32))]) rfl rfl ?_
  refine Wk.iloadN (pc' := 79) C d_jdk_2450m9_78 rfl rfl ?_
  refine Wk.iload (pc' := 81) C d_jdk_2450m9_79 rfl rfl ?_
  refine Wk.iadd (pc' := 82) C d_jdk_2450m9_81 (v := (4 : Int32)) (by decide) rfl ?_
  refine Wk.istoreN (pc' := 83) C d_jdk_2450m9_82 (Ls' := #[.val (.ref aD), .val (.ref b), .val (.int (4 : Int32)), .val (.int (7 : Int32)), .val (.ref d), .val (.ref aT), .val (.int (0 : Int32)), .val (.int (0 : Int32)), .val (.int (18 : Int32)), .val (.int (3 : Int32)), .val (.int (4 : Int32))]) rfl rfl ?_
  refine Wk.iload (pc' := 85) C d_jdk_2450m9_83 rfl rfl ?_
  refine Wk.iload (pc' := 87) C d_jdk_2450m9_85 rfl rfl ?_
  refine Wk.iadd (pc' := 88) C d_jdk_2450m9_87 (v := (3 : Int32)) (by decide) rfl ?_
  refine Wk.istore (pc' := 90) C d_jdk_2450m9_88 (Ls' := #[.val (.ref aD), .val (.ref b), .val (.int (4 : Int32)), .val (.int (7 : Int32)), .val (.ref d), .val (.ref aT), .val (.int (3 : Int32)), .val (.int (0 : Int32)), .val (.int (18 : Int32)), .val (.int (3 : Int32)), .val (.int (4 : Int32))]) rfl rfl ?_
  refine Wk.iloadN (pc' := 91) C d_jdk_2450m9_90 rfl rfl ?_
  refine Wk.iloadN (pc' := 92) C d_jdk_2450m9_91 rfl rfl ?_
  refine Wk.icmp_lt C d_jdk_2450m9_92 (by decide) (pcT := 98) (by decide) (pc' := 95) rfl (fun q17 => ?_) (fun q => absurd q (by decide))
  refine Wk.aloadN (pc' := 99) C d_jdk_2450m9_98 rfl rfl rfl ?_
  refine Wk.iloadN (pc' := 100) C d_jdk_2450m9_99 rfl rfl ?_
  refine Wk.iinc (pc' := 103) C d_jdk_2450m9_100 rfl (v := (5 : Int32)) (by decide) (Ls' := #[.val (.ref aD), .val (.ref b), .val (.int (5 : Int32)), .val (.int (7 : Int32)), .val (.ref d), .val (.ref aT), .val (.int (3 : Int32)), .val (.int (0 : Int32)), .val (.int (18 : Int32)), .val (.int (3 : Int32)), .val (.int (4 : Int32))]) rfl rfl ?_
  refine Wk.baload (pc' := 104) C d_jdk_2450m9_103 (V.keep K16 (ninS nbd nin0)) (by decide) (v := (.int x4)) rfl rfl ?_
  refine Wk.sipush (pc' := 107) C d_jdk_2450m9_104 (v := (255 : Int32)) rfl rfl ?_
  obtain ⟨v18, hv18⟩ : ∃ z : Int32, x4 &&& (255 : Int32) = z := ⟨_, rfl⟩
  refine Wk.iand (pc' := 108) C d_jdk_2450m9_107 hv18 rfl ?_
  refine Wk.istore (pc' := 110) C d_jdk_2450m9_108 (Ls' := #[.val (.ref aD), .val (.ref b), .val (.int (5 : Int32)), .val (.int (7 : Int32)), .val (.ref d), .val (.ref aT), .val (.int (3 : Int32)), .val (.int (0 : Int32)), .val (.int (18 : Int32)), .val (.int v18), .val (.int (4 : Int32))]) rfl rfl ?_
  refine Wk.aload (pc' := 112) C d_jdk_2450m9_110 rfl rfl rfl ?_
  refine Wk.iload (pc' := 114) C d_jdk_2450m9_112 rfl rfl ?_
  refine Wk.iaload (pc' := 115) C d_jdk_2450m9_114 ((bs.2.2.2.2.2.2.2.1.ext O0).keep K16 (ninS nTd nin0)) (own_tab hv18 t4).1 (v := (.int u4)) (own_tab hv18 t4).2 rfl ?_
  refine Wk.dup (pc' := 116) C d_jdk_2450m9_115 rfl rfl ?_
  refine Wk.istore (pc' := 118) C d_jdk_2450m9_116 (Ls' := #[.val (.ref aD), .val (.ref b), .val (.int (5 : Int32)), .val (.int (7 : Int32)), .val (.ref d), .val (.ref aT), .val (.int (3 : Int32)), .val (.int (0 : Int32)), .val (.int (18 : Int32)), .val (.int u4), .val (.int (4 : Int32))]) rfl rfl ?_
  refine Wk.if_ge C d_jdk_2450m9_118 (by decide) (pcT := 214) (by decide) (pc' := 121) rfl (fun q19 => ?_) (fun q => absurd q t4.2.2.1)
  refine Wk.iload (pc' := 216) C d_jdk_2450m9_214 rfl rfl ?_
  refine Wk.iload (pc' := 218) C d_jdk_2450m9_216 rfl rfl ?_
  refine Wk.iload (pc' := 220) C d_jdk_2450m9_218 rfl rfl ?_
  obtain ⟨v20, hv20⟩ : ∃ z : Int32, u4 <<< ((18 : Int32) &&& 31) = z := ⟨_, rfl⟩
  refine Wk.ishl (pc' := 221) C d_jdk_2450m9_220 hv20 rfl ?_
  obtain ⟨v21, hv21⟩ : ∃ z : Int32, (0 : Int32) ||| v20 = z := ⟨_, rfl⟩
  refine Wk.ior (pc' := 222) C d_jdk_2450m9_221 hv21 rfl ?_
  refine Wk.istore (pc' := 224) C d_jdk_2450m9_222 (Ls' := #[.val (.ref aD), .val (.ref b), .val (.int (5 : Int32)), .val (.int (7 : Int32)), .val (.ref d), .val (.ref aT), .val (.int (3 : Int32)), .val (.int v21), .val (.int (18 : Int32)), .val (.int u4), .val (.int (4 : Int32))]) rfl rfl ?_
  refine Wk.iinc (pc' := 227) C d_jdk_2450m9_224 rfl (v := (12 : Int32)) (by decide) (Ls' := #[.val (.ref aD), .val (.ref b), .val (.int (5 : Int32)), .val (.int (7 : Int32)), .val (.ref d), .val (.ref aT), .val (.int (3 : Int32)), .val (.int v21), .val (.int (12 : Int32)), .val (.int u4), .val (.int (4 : Int32))]) rfl rfl ?_
  refine Wk.iload (pc' := 229) C d_jdk_2450m9_227 rfl rfl ?_
  refine Wk.if_ge C d_jdk_2450m9_229 (by decide) (pcT := 278) (by decide) (pc' := 232) rfl (fun q22 => ?_) (fun q => absurd q (by decide))
  refine Wk.goto C d_jdk_2450m9_278 (by decide) (pc' := 28) (by decide) ?_
  refine Wk.iloadN (pc' := 29) C d_jdk_2450m9_28 rfl rfl ?_
  refine Wk.iloadN (pc' := 30) C d_jdk_2450m9_29 rfl rfl ?_
  refine Wk.icmp_ge C d_jdk_2450m9_30 (by decide) (pcT := 281) (by decide) (pc' := 33) rfl (fun q => absurd q (by decide)) (fun q23 => ?_)
  refine Wk.iload (pc' := 35) C d_jdk_2450m9_33 rfl rfl ?_
  refine Wk.bipush (pc' := 37) C d_jdk_2450m9_35 (v := (18 : Int32)) rfl rfl ?_
  refine Wk.icmp_ne C d_jdk_2450m9_37 (by decide) (pcT := 90) (by decide) (pc' := 40) rfl (fun q24 => ?_) (fun q => absurd q (by decide))
  refine Wk.iloadN (pc' := 91) C d_jdk_2450m9_90 rfl rfl ?_
  refine Wk.iloadN (pc' := 92) C d_jdk_2450m9_91 rfl rfl ?_
  refine Wk.icmp_lt C d_jdk_2450m9_92 (by decide) (pcT := 98) (by decide) (pc' := 95) rfl (fun q25 => ?_) (fun q => absurd q (by decide))
  refine Wk.aloadN (pc' := 99) C d_jdk_2450m9_98 rfl rfl rfl ?_
  refine Wk.iloadN (pc' := 100) C d_jdk_2450m9_99 rfl rfl ?_
  refine Wk.iinc (pc' := 103) C d_jdk_2450m9_100 rfl (v := (6 : Int32)) (by decide) (Ls' := #[.val (.ref aD), .val (.ref b), .val (.int (6 : Int32)), .val (.int (7 : Int32)), .val (.ref d), .val (.ref aT), .val (.int (3 : Int32)), .val (.int v21), .val (.int (12 : Int32)), .val (.int u4), .val (.int (4 : Int32))]) rfl rfl ?_
  refine Wk.baload (pc' := 104) C d_jdk_2450m9_103 (V.keep K16 (ninS nbd nin0)) (by decide) (v := (.int x5)) rfl rfl ?_
  refine Wk.sipush (pc' := 107) C d_jdk_2450m9_104 (v := (255 : Int32)) rfl rfl ?_
  obtain ⟨v26, hv26⟩ : ∃ z : Int32, x5 &&& (255 : Int32) = z := ⟨_, rfl⟩
  refine Wk.iand (pc' := 108) C d_jdk_2450m9_107 hv26 rfl ?_
  refine Wk.istore (pc' := 110) C d_jdk_2450m9_108 (Ls' := #[.val (.ref aD), .val (.ref b), .val (.int (6 : Int32)), .val (.int (7 : Int32)), .val (.ref d), .val (.ref aT), .val (.int (3 : Int32)), .val (.int v21), .val (.int (12 : Int32)), .val (.int v26), .val (.int (4 : Int32))]) rfl rfl ?_
  refine Wk.aload (pc' := 112) C d_jdk_2450m9_110 rfl rfl rfl ?_
  refine Wk.iload (pc' := 114) C d_jdk_2450m9_112 rfl rfl ?_
  refine Wk.iaload (pc' := 115) C d_jdk_2450m9_114 ((bs.2.2.2.2.2.2.2.1.ext O0).keep K16 (ninS nTd nin0)) (own_tab hv26 t5).1 (v := (.int u5)) (own_tab hv26 t5).2 rfl ?_
  refine Wk.dup (pc' := 116) C d_jdk_2450m9_115 rfl rfl ?_
  refine Wk.istore (pc' := 118) C d_jdk_2450m9_116 (Ls' := #[.val (.ref aD), .val (.ref b), .val (.int (6 : Int32)), .val (.int (7 : Int32)), .val (.ref d), .val (.ref aT), .val (.int (3 : Int32)), .val (.int v21), .val (.int (12 : Int32)), .val (.int u5), .val (.int (4 : Int32))]) rfl rfl ?_
  refine Wk.if_ge C d_jdk_2450m9_118 (by decide) (pcT := 214) (by decide) (pc' := 121) rfl (fun q27 => ?_) (fun q => absurd q t5.2.2.1)
  refine Wk.iload (pc' := 216) C d_jdk_2450m9_214 rfl rfl ?_
  refine Wk.iload (pc' := 218) C d_jdk_2450m9_216 rfl rfl ?_
  refine Wk.iload (pc' := 220) C d_jdk_2450m9_218 rfl rfl ?_
  obtain ⟨v28, hv28⟩ : ∃ z : Int32, u5 <<< ((12 : Int32) &&& 31) = z := ⟨_, rfl⟩
  refine Wk.ishl (pc' := 221) C d_jdk_2450m9_220 hv28 rfl ?_
  obtain ⟨v29, hv29⟩ : ∃ z : Int32, v21 ||| v28 = z := ⟨_, rfl⟩
  refine Wk.ior (pc' := 222) C d_jdk_2450m9_221 hv29 rfl ?_
  refine Wk.istore (pc' := 224) C d_jdk_2450m9_222 (Ls' := #[.val (.ref aD), .val (.ref b), .val (.int (6 : Int32)), .val (.int (7 : Int32)), .val (.ref d), .val (.ref aT), .val (.int (3 : Int32)), .val (.int v29), .val (.int (12 : Int32)), .val (.int u5), .val (.int (4 : Int32))]) rfl rfl ?_
  refine Wk.iinc (pc' := 227) C d_jdk_2450m9_224 rfl (v := (6 : Int32)) (by decide) (Ls' := #[.val (.ref aD), .val (.ref b), .val (.int (6 : Int32)), .val (.int (7 : Int32)), .val (.ref d), .val (.ref aT), .val (.int (3 : Int32)), .val (.int v29), .val (.int (6 : Int32)), .val (.int u5), .val (.int (4 : Int32))]) rfl rfl ?_
  refine Wk.iload (pc' := 229) C d_jdk_2450m9_227 rfl rfl ?_
  refine Wk.if_ge C d_jdk_2450m9_229 (by decide) (pcT := 278) (by decide) (pc' := 232) rfl (fun q30 => ?_) (fun q => absurd q (by decide))
  refine Wk.goto C d_jdk_2450m9_278 (by decide) (pc' := 28) (by decide) ?_
  refine Wk.iloadN (pc' := 29) C d_jdk_2450m9_28 rfl rfl ?_
  refine Wk.iloadN (pc' := 30) C d_jdk_2450m9_29 rfl rfl ?_
  refine Wk.icmp_ge C d_jdk_2450m9_30 (by decide) (pcT := 281) (by decide) (pc' := 33) rfl (fun q => absurd q (by decide)) (fun q31 => ?_)
  refine Wk.iload (pc' := 35) C d_jdk_2450m9_33 rfl rfl ?_
  refine Wk.bipush (pc' := 37) C d_jdk_2450m9_35 (v := (18 : Int32)) rfl rfl ?_
  refine Wk.icmp_ne C d_jdk_2450m9_37 (by decide) (pcT := 90) (by decide) (pc' := 40) rfl (fun q32 => ?_) (fun q => absurd q (by decide))
  refine Wk.iloadN (pc' := 91) C d_jdk_2450m9_90 rfl rfl ?_
  refine Wk.iloadN (pc' := 92) C d_jdk_2450m9_91 rfl rfl ?_
  refine Wk.icmp_lt C d_jdk_2450m9_92 (by decide) (pcT := 98) (by decide) (pc' := 95) rfl (fun q33 => ?_) (fun q => absurd q (by decide))
  refine Wk.aloadN (pc' := 99) C d_jdk_2450m9_98 rfl rfl rfl ?_
  refine Wk.iloadN (pc' := 100) C d_jdk_2450m9_99 rfl rfl ?_
  refine Wk.iinc (pc' := 103) C d_jdk_2450m9_100 rfl (v := (7 : Int32)) (by decide) (Ls' := #[.val (.ref aD), .val (.ref b), .val (.int (7 : Int32)), .val (.int (7 : Int32)), .val (.ref d), .val (.ref aT), .val (.int (3 : Int32)), .val (.int v29), .val (.int (6 : Int32)), .val (.int u5), .val (.int (4 : Int32))]) rfl rfl ?_
  refine Wk.baload (pc' := 104) C d_jdk_2450m9_103 (V.keep K16 (ninS nbd nin0)) (by decide) (v := (.int x6)) rfl rfl ?_
  refine Wk.sipush (pc' := 107) C d_jdk_2450m9_104 (v := (255 : Int32)) rfl rfl ?_
  obtain ⟨v34, hv34⟩ : ∃ z : Int32, x6 &&& (255 : Int32) = z := ⟨_, rfl⟩
  refine Wk.iand (pc' := 108) C d_jdk_2450m9_107 hv34 rfl ?_
  refine Wk.istore (pc' := 110) C d_jdk_2450m9_108 (Ls' := #[.val (.ref aD), .val (.ref b), .val (.int (7 : Int32)), .val (.int (7 : Int32)), .val (.ref d), .val (.ref aT), .val (.int (3 : Int32)), .val (.int v29), .val (.int (6 : Int32)), .val (.int v34), .val (.int (4 : Int32))]) rfl rfl ?_
  refine Wk.aload (pc' := 112) C d_jdk_2450m9_110 rfl rfl rfl ?_
  refine Wk.iload (pc' := 114) C d_jdk_2450m9_112 rfl rfl ?_
  refine Wk.iaload (pc' := 115) C d_jdk_2450m9_114 ((bs.2.2.2.2.2.2.2.1.ext O0).keep K16 (ninS nTd nin0)) (own_tab hv34 t6).1 (v := (.int u6)) (own_tab hv34 t6).2 rfl ?_
  refine Wk.dup (pc' := 116) C d_jdk_2450m9_115 rfl rfl ?_
  refine Wk.istore (pc' := 118) C d_jdk_2450m9_116 (Ls' := #[.val (.ref aD), .val (.ref b), .val (.int (7 : Int32)), .val (.int (7 : Int32)), .val (.ref d), .val (.ref aT), .val (.int (3 : Int32)), .val (.int v29), .val (.int (6 : Int32)), .val (.int u6), .val (.int (4 : Int32))]) rfl rfl ?_
  refine Wk.if_ge C d_jdk_2450m9_118 (by decide) (pcT := 214) (by decide) (pc' := 121) rfl (fun q35 => ?_) (fun q => absurd q t6.2.2.1)
  refine Wk.iload (pc' := 216) C d_jdk_2450m9_214 rfl rfl ?_
  refine Wk.iload (pc' := 218) C d_jdk_2450m9_216 rfl rfl ?_
  refine Wk.iload (pc' := 220) C d_jdk_2450m9_218 rfl rfl ?_
  obtain ⟨v36, hv36⟩ : ∃ z : Int32, u6 <<< ((6 : Int32) &&& 31) = z := ⟨_, rfl⟩
  refine Wk.ishl (pc' := 221) C d_jdk_2450m9_220 hv36 rfl ?_
  obtain ⟨v37, hv37⟩ : ∃ z : Int32, v29 ||| v36 = z := ⟨_, rfl⟩
  refine Wk.ior (pc' := 222) C d_jdk_2450m9_221 hv37 rfl ?_
  refine Wk.istore (pc' := 224) C d_jdk_2450m9_222 (Ls' := #[.val (.ref aD), .val (.ref b), .val (.int (7 : Int32)), .val (.int (7 : Int32)), .val (.ref d), .val (.ref aT), .val (.int (3 : Int32)), .val (.int v37), .val (.int (6 : Int32)), .val (.int u6), .val (.int (4 : Int32))]) rfl rfl ?_
  refine Wk.iinc (pc' := 227) C d_jdk_2450m9_224 rfl (v := (0 : Int32)) (by decide) (Ls' := #[.val (.ref aD), .val (.ref b), .val (.int (7 : Int32)), .val (.int (7 : Int32)), .val (.ref d), .val (.ref aT), .val (.int (3 : Int32)), .val (.int v37), .val (.int (0 : Int32)), .val (.int u6), .val (.int (4 : Int32))]) rfl rfl ?_
  refine Wk.iload (pc' := 229) C d_jdk_2450m9_227 rfl rfl ?_
  refine Wk.if_ge C d_jdk_2450m9_229 (by decide) (pcT := 278) (by decide) (pc' := 232) rfl (fun q38 => ?_) (fun q => absurd q (by decide))
  refine Wk.goto C d_jdk_2450m9_278 (by decide) (pc' := 28) (by decide) ?_
  refine Wk.iloadN (pc' := 29) C d_jdk_2450m9_28 rfl rfl ?_
  refine Wk.iloadN (pc' := 30) C d_jdk_2450m9_29 rfl rfl ?_
  refine Wk.icmp_ge C d_jdk_2450m9_30 (by decide) (pcT := 281) (by decide) (pc' := 33) rfl (fun q39 => ?_) (fun q => absurd q (by decide))
  refine Wk.iload (pc' := 283) C d_jdk_2450m9_281 rfl rfl ?_
  refine Wk.bipush (pc' := 285) C d_jdk_2450m9_283 (v := (6 : Int32)) rfl rfl ?_
  refine Wk.icmp_ne C d_jdk_2450m9_285 (by decide) (pcT := 305) (by decide) (pc' := 288) rfl (fun q40 => ?_) (fun q => absurd q (by decide))
  refine Wk.iload (pc' := 307) C d_jdk_2450m9_305 rfl rfl ?_
  refine Wk.if_ne C d_jdk_2450m9_307 (by decide) (pcT := 341) (by decide) (pc' := 310) rfl (fun q => absurd q (by decide)) (fun q41 => ?_)
  refine Wk.aload (pc' := 312) C d_jdk_2450m9_310 rfl rfl rfl ?_
  refine Wk.iload (pc' := 314) C d_jdk_2450m9_312 rfl rfl ?_
  refine Wk.iinc (pc' := 317) C d_jdk_2450m9_314 rfl (v := (4 : Int32)) (by decide) (Ls' := #[.val (.ref aD), .val (.ref b), .val (.int (7 : Int32)), .val (.int (7 : Int32)), .val (.ref d), .val (.ref aT), .val (.int (4 : Int32)), .val (.int v37), .val (.int (0 : Int32)), .val (.int u6), .val (.int (4 : Int32))]) rfl rfl ?_
  refine Wk.iload (pc' := 319) C d_jdk_2450m9_317 rfl rfl ?_
  refine Wk.bipush (pc' := 321) C d_jdk_2450m9_319 (v := (16 : Int32)) rfl rfl ?_
  obtain ⟨v42, hv42⟩ : ∃ z : Int32, v37 >>> ((16 : Int32) &&& 31) = z := ⟨_, rfl⟩
  refine Wk.ishr (pc' := 322) C d_jdk_2450m9_321 hv42 rfl ?_
  obtain ⟨v43, hv43⟩ : ∃ z : Int32, v42.toInt8.toInt32 = z := ⟨_, rfl⟩
  refine Wk.i2b (pc' := 323) C d_jdk_2450m9_322 hv43 rfl ?_
  refine Wk.bastore (pc' := 324) C d_jdk_2450m9_323 D16 (by decide) (show _ < _ from Nat.le_of_ble_eq_true rfl) (vs' := [(.int (((dW u0 u1 u2 u3) >>> ((16 : Int32) &&& 31)).toInt8.toInt32)), (.int (((dW u0 u1 u2 u3) >>> ((8 : Int32) &&& 31)).toInt8.toInt32)), (.int ((dW u0 u1 u2 u3).toInt8.toInt32)), (.int v43), (.int (0 : Int32))]) (by rw [Wk.nar_i2b hv43]; rfl) gd rfl ?_
  intro h44 W44 V44 O44
  refine Wk.aload (pc' := 326) C d_jdk_2450m9_324 rfl rfl rfl ?_
  refine Wk.iload (pc' := 328) C d_jdk_2450m9_326 rfl rfl ?_
  refine Wk.iinc (pc' := 331) C d_jdk_2450m9_328 rfl (v := (5 : Int32)) (by decide) (Ls' := #[.val (.ref aD), .val (.ref b), .val (.int (7 : Int32)), .val (.int (7 : Int32)), .val (.ref d), .val (.ref aT), .val (.int (5 : Int32)), .val (.int v37), .val (.int (0 : Int32)), .val (.int u6), .val (.int (4 : Int32))]) rfl rfl ?_
  refine Wk.iload (pc' := 333) C d_jdk_2450m9_331 rfl rfl ?_
  refine Wk.bipush (pc' := 335) C d_jdk_2450m9_333 (v := (8 : Int32)) rfl rfl ?_
  obtain ⟨v45, hv45⟩ : ∃ z : Int32, v37 >>> ((8 : Int32) &&& 31) = z := ⟨_, rfl⟩
  refine Wk.ishr (pc' := 336) C d_jdk_2450m9_335 hv45 rfl ?_
  obtain ⟨v46, hv46⟩ : ∃ z : Int32, v45.toInt8.toInt32 = z := ⟨_, rfl⟩
  refine Wk.i2b (pc' := 337) C d_jdk_2450m9_336 hv46 rfl ?_
  refine Wk.bastore (pc' := 338) C d_jdk_2450m9_337 V44 (by decide) (show _ < _ from Nat.le_of_ble_eq_true rfl) (vs' := [(.int (((dW u0 u1 u2 u3) >>> ((16 : Int32) &&& 31)).toInt8.toInt32)), (.int (((dW u0 u1 u2 u3) >>> ((8 : Int32) &&& 31)).toInt8.toInt32)), (.int ((dW u0 u1 u2 u3).toInt8.toInt32)), (.int v43), (.int v46)]) (by rw [Wk.nar_i2b hv46]; rfl) gd rfl ?_
  intro h47 W47 V47 O47
  refine Wk.goto C d_jdk_2450m9_338 (by decide) (pc' := 358) (by decide) ?_
  refine Wk.iloadN (pc' := 359) C d_jdk_2450m9_358 rfl rfl ?_
  refine Wk.iloadN (pc' := 360) C d_jdk_2450m9_359 rfl rfl ?_
  refine Wk.icmp_ge C d_jdk_2450m9_360 (by decide) (pcT := 416) (by decide) (pc' := 363) rfl (fun q48 => ?_) (fun q => absurd q (by decide))
  refine Wk.iload (pc' := 418) C d_jdk_2450m9_416 rfl rfl ?_
  have VD := V47
  have KP : Keep h0 h47 [d] := ((((Keep.refl _ _).trans K16 (allS (Or.inl (List.mem_singleton.mpr rfl)) all0)).wr W44 (Or.inl (List.mem_singleton.mpr rfl))).wr W47 (Or.inl (List.mem_singleton.mpr rfl)))
  subst hv18 hv20 hv21 hv26 hv28 hv29 hv34 hv36 hv37 hv42 hv43 hv45 hv46
  exact Wk.retI C d_jdk_2450m9_418 (by decide) (by decide) ⟨rfl, KP, VD⟩
set_option maxRecDepth 65536 in
set_option maxHeartbeats 40000000 in
theorem own_dec0_8 (l : Launch) {Z : State} {a0 : Array Value} (hw : Ws a0 Z) {h0 : Heap} (O0 : Ext Z.heap h0) {aD aT aI aU : Addr} (bs : BS Z aD aT aI aU) (b d : Addr) (x0 x1 x2 x3 x4 x5 x6 x7 : Int32) {u0 u1 u2 u3 u4 u5 u6 u7 : Int32}  (V : Wk.Ary Z h0 b .byte [(.int x0), (.int x1), (.int x2), (.int x3), (.int x4), (.int x5), (.int x6), (.int x7)]) (t0 : Tb x0 u0) (t1 : Tb x1 u1) (t2 : Tb x2 u2) (t3 : Tb x3 u3) (t4 : Tb x4 u4) (t5 : Tb x5 u5) (t6 : Tb x6 u6) (t7 : Tb x7 u7) (D : Wk.Ary Z h0 d .byte [(.int (0 : Int32)), (.int (0 : Int32)), (.int (0 : Int32)), (.int (0 : Int32)), (.int (0 : Int32)), (.int (0 : Int32))]) (gd : Z.heap.size ≤ d) (nbd : b ≠ d) (nTd : aT ≠ d)  :
    Wk.Con l Z (⟨"java/util/Base64$Decoder", "decode0", "([BII[B)I"⟩ : MethodName) jdk_2450_method_9_code 11 (some .int) ({ frames := 1, cells := 0, slots := 0, locals := 40 } : Room) #[(.ref aD), (.ref b), (.int (0 : Int32)), (.int (8 : Int32)), (.ref d)] h0 (fun v h' => v = some (.int (6 : Int32)) ∧ Keep h0 h' [d] ∧ Wk.Ary Z h' d .byte [(.int (((dW u0 u1 u2 u3) >>> ((16 : Int32) &&& 31)).toInt8.toInt32)), (.int (((dW u0 u1 u2 u3) >>> ((8 : Int32) &&& 31)).toInt8.toInt32)), (.int ((dW u0 u1 u2 u3).toInt8.toInt32)), (.int (((dW u4 u5 u6 u7) >>> ((16 : Int32) &&& 31)).toInt8.toInt32)), (.int (((dW u4 u5 u6 u7) >>> ((8 : Int32) &&& 31)).toInt8.toInt32)), (.int ((dW u4 u5 u6 u7).toInt8.toInt32))]) := by
  refine Wk.Con.intro (plainFor_of_name pn1) O0 (fun m => ef21 m aD b d) ?_
  intro W C
  replace C : Wk.Cx Z W "java/util/Base64$Decoder" "decode0" jdk_2450_method_9_code 11 (some .int) := C
  refine Wk.aloadN (pc' := 1) C d_jdk_2450m9_0 rfl rfl rfl ?_
  refine Wk.getF (pc' := 4) C d_jdk_2450m9_1 (w123 hw) Via.refl (bs.2.2.2.2.2.1.ext O0) rfl ?_
  refine Wk.if_eq C d_jdk_2450m9_4 (by decide) (pcT := 13) (by decide) (pc' := 7) rfl (fun q => absurd q (by decide)) (fun q11 => ?_)
  refine Wk.getS (pc' := 10) C d_jdk_2450m9_7 (w125 hw) Via.refl (bs.2.1.ext O0) rfl ?_
  refine Wk.goto C d_jdk_2450m9_10 (by decide) (pc' := 16) (by decide) ?_
  refine Wk.astore (pc' := 18) C d_jdk_2450m9_16 rfl (Ls' := #[.val (.ref aD), .val (.ref b), .val (.int (0 : Int32)), .val (.int (8 : Int32)), .val (.ref d), .val (.ref aT), .unset, .unset, .unset, .unset, .unset]) rfl rfl ?_
  refine Wk.iconst (pc' := 19) C d_jdk_2450m9_18 (v := (0 : Int32)) rfl rfl ?_
  refine Wk.istore (pc' := 21) C d_jdk_2450m9_19 (Ls' := #[.val (.ref aD), .val (.ref b), .val (.int (0 : Int32)), .val (.int (8 : Int32)), .val (.ref d), .val (.ref aT), .val (.int (0 : Int32)), .unset, .unset, .unset, .unset]) rfl rfl ?_
  refine Wk.iconst (pc' := 22) C d_jdk_2450m9_21 (v := (0 : Int32)) rfl rfl ?_
  refine Wk.istore (pc' := 24) C d_jdk_2450m9_22 (Ls' := #[.val (.ref aD), .val (.ref b), .val (.int (0 : Int32)), .val (.int (8 : Int32)), .val (.ref d), .val (.ref aT), .val (.int (0 : Int32)), .val (.int (0 : Int32)), .unset, .unset, .unset]) rfl rfl ?_
  refine Wk.bipush (pc' := 26) C d_jdk_2450m9_24 (v := (18 : Int32)) rfl rfl ?_
  refine Wk.istore (pc' := 28) C d_jdk_2450m9_26 (Ls' := #[.val (.ref aD), .val (.ref b), .val (.int (0 : Int32)), .val (.int (8 : Int32)), .val (.ref d), .val (.ref aT), .val (.int (0 : Int32)), .val (.int (0 : Int32)), .val (.int (18 : Int32)), .unset, .unset]) rfl rfl ?_
  refine Wk.iloadN (pc' := 29) C d_jdk_2450m9_28 rfl rfl ?_
  refine Wk.iloadN (pc' := 30) C d_jdk_2450m9_29 rfl rfl ?_
  refine Wk.icmp_ge C d_jdk_2450m9_30 (by decide) (pcT := 281) (by decide) (pc' := 33) rfl (fun q => absurd q (by decide)) (fun q12 => ?_)
  refine Wk.iload (pc' := 35) C d_jdk_2450m9_33 rfl rfl ?_
  refine Wk.bipush (pc' := 37) C d_jdk_2450m9_35 (v := (18 : Int32)) rfl rfl ?_
  refine Wk.icmp_ne C d_jdk_2450m9_37 (by decide) (pcT := 90) (by decide) (pc' := 40) rfl (fun q => absurd q (by decide)) (fun q13 => ?_)
  refine Wk.iloadN (pc' := 41) C d_jdk_2450m9_40 rfl rfl ?_
  refine Wk.iloadN (pc' := 42) C d_jdk_2450m9_41 rfl rfl ?_
  refine Wk.iconst (pc' := 43) C d_jdk_2450m9_42 (v := (4 : Int32)) rfl rfl ?_
  refine Wk.isub (pc' := 44) C d_jdk_2450m9_43 (v := (4 : Int32)) (by decide) rfl ?_
  refine Wk.icmp_ge C d_jdk_2450m9_44 (by decide) (pcT := 90) (by decide) (pc' := 47) rfl (fun q => absurd q (by decide)) (fun q14 => ?_)
  refine Wk.aloadN (pc' := 48) C d_jdk_2450m9_47 rfl rfl rfl ?_
  refine Wk.aloadN (pc' := 49) C d_jdk_2450m9_48 rfl rfl rfl ?_
  refine Wk.iloadN (pc' := 50) C d_jdk_2450m9_49 rfl rfl ?_
  refine Wk.iloadN (pc' := 51) C d_jdk_2450m9_50 rfl rfl ?_
  refine Wk.aload (pc' := 53) C d_jdk_2450m9_51 rfl rfl rfl ?_
  refine Wk.iload (pc' := 55) C d_jdk_2450m9_53 rfl rfl ?_
  refine Wk.aloadN (pc' := 56) C d_jdk_2450m9_55 rfl rfl rfl ?_
  refine Wk.getF (pc' := 59) C d_jdk_2450m9_56 (w123 hw) Via.refl (bs.2.2.2.2.2.1.ext O0) rfl ?_
  refine Wk.aloadN (pc' := 60) C d_jdk_2450m9_59 rfl rfl rfl ?_
  refine Wk.getF (pc' := 63) C d_jdk_2450m9_60 (w160 hw) Via.refl (bs.2.2.2.2.2.2.1.ext O0) rfl ?_
  refine Wk.callV (pc' := 66) C d_jdk_2450m9_63 (a := aD) (Wk.Con.pays C (Wn := 0) (own_blk_8 l hw O0 bs b d x0 x1 x2 x3 x4 x5 x6 x7 V t0 t1 t2 t3 t4 t5 t6 t7 D gd nbd nTd) (w168 hw) (w83 hw) (by decide) (by decide)) Wk.cleanC (bs.2.2.2.2.1.ext O0) (w164 hw) (Wk.declOf (w165 hw) (w168 hw)) (notFace_of_selects (args := #[]) (mvT C.hZ (w167 hw))) (w167 hw) (w165 hw) (by decide) (argsL := [(.ref b), (.int (0 : Int32)), (.int (8 : Int32)), (.ref d), (.int (0 : Int32)), (.int (1 : Int32)), (.int (0 : Int32))]) (st := []) rfl rfl (lenOf pd4 rfl) rfl (Nat.le_of_eq rfl) (k' := 0) rfl (n' := 0) rfl (by decide) (by decide) rfl ?_
  intro r15 h16 Q16 O16
  obtain ⟨rfl, K16, D16⟩ := Q16
  refine Wk.istore (pc' := 68) C d_jdk_2450m9_66 (Ls' := #[.val (.ref aD), .val (.ref b), .val (.int (0 : Int32)), .val (.int (8 : Int32)), .val (.ref d), .val (.ref aT), .val (.int (0 : Int32)), .val (.int (0 : Int32)), .val (.int (18 : Int32)), .val (.int (6 : Int32)), .unset]) rfl rfl ?_
  refine Wk.iload (pc' := 70) C d_jdk_2450m9_68 rfl rfl ?_
  refine Wk.iconst (pc' := 71) C d_jdk_2450m9_70 (v := (2 : Int32)) rfl rfl ?_
  refine Wk.iadd (pc' := 72) C d_jdk_2450m9_71 (v := (8 : Int32)) (by decide) rfl ?_
  refine Wk.iconst (pc' := 73) C d_jdk_2450m9_72 (v := (3 : Int32)) rfl rfl ?_
  refine Wk.idiv (pc' := 74) C d_jdk_2450m9_73 (by decide) (v := (2 : Int32)) (by decide) rfl ?_
  refine Wk.iconst (pc' := 75) C d_jdk_2450m9_74 (v := (4 : Int32)) rfl rfl ?_
  refine Wk.imul (pc' := 76) C d_jdk_2450m9_75 (v := (8 : Int32)) (by decide) rfl ?_
  refine Wk.istore (pc' := 78) C d_jdk_2450m9_76 (Ls' := #[.val (.ref aD), .val (.ref b), .val (.int (0 : Int32)), .val (.int (8 : Int32)), .val (.ref d), .val (.ref aT), .val (.int (0 : Int32)), .val (.int (0 : Int32)), .val (.int (18 : Int32)), .val (.int (6 : Int32)), .val (.int (8 : Int32))]) rfl rfl ?_
  refine Wk.iloadN (pc' := 79) C d_jdk_2450m9_78 rfl rfl ?_
  refine Wk.iload (pc' := 81) C d_jdk_2450m9_79 rfl rfl ?_
  refine Wk.iadd (pc' := 82) C d_jdk_2450m9_81 (v := (8 : Int32)) (by decide) rfl ?_
  refine Wk.istoreN (pc' := 83) C d_jdk_2450m9_82 (Ls' := #[.val (.ref aD), .val (.ref b), .val (.int (8 : Int32)), .val (.int (8 : Int32)), .val (.ref d), .val (.ref aT), .val (.int (0 : Int32)), .val (.int (0 : Int32)), .val (.int (18 : Int32)), .val (.int (6 : Int32)), .val (.int (8 : Int32))]) rfl rfl ?_
  refine Wk.iload (pc' := 85) C d_jdk_2450m9_83 rfl rfl ?_
  refine Wk.iload (pc' := 87) C d_jdk_2450m9_85 rfl rfl ?_
  refine Wk.iadd (pc' := 88) C d_jdk_2450m9_87 (v := (6 : Int32)) (by decide) rfl ?_
  refine Wk.istore (pc' := 90) C d_jdk_2450m9_88 (Ls' := #[.val (.ref aD), .val (.ref b), .val (.int (8 : Int32)), .val (.int (8 : Int32)), .val (.ref d), .val (.ref aT), .val (.int (6 : Int32)), .val (.int (0 : Int32)), .val (.int (18 : Int32)), .val (.int (6 : Int32)), .val (.int (8 : Int32))]) rfl rfl ?_
  refine Wk.iloadN (pc' := 91) C d_jdk_2450m9_90 rfl rfl ?_
  refine Wk.iloadN (pc' := 92) C d_jdk_2450m9_91 rfl rfl ?_
  refine Wk.icmp_lt C d_jdk_2450m9_92 (by decide) (pcT := 98) (by decide) (pc' := 95) rfl (fun q => absurd q (by decide)) (fun q17 => ?_)
  refine Wk.goto C d_jdk_2450m9_95 (by decide) (pc' := 281) (by decide) ?_
  refine Wk.iload (pc' := 283) C d_jdk_2450m9_281 rfl rfl ?_
  refine Wk.bipush (pc' := 285) C d_jdk_2450m9_283 (v := (6 : Int32)) rfl rfl ?_
  refine Wk.icmp_ne C d_jdk_2450m9_285 (by decide) (pcT := 305) (by decide) (pc' := 288) rfl (fun q18 => ?_) (fun q => absurd q (by decide))
  refine Wk.iload (pc' := 307) C d_jdk_2450m9_305 rfl rfl ?_
  refine Wk.if_ne C d_jdk_2450m9_307 (by decide) (pcT := 341) (by decide) (pc' := 310) rfl (fun q19 => ?_) (fun q => absurd q (by decide))
  refine Wk.iload (pc' := 343) C d_jdk_2450m9_341 rfl rfl ?_
  refine Wk.bipush (pc' := 345) C d_jdk_2450m9_343 (v := (12 : Int32)) rfl rfl ?_
  refine Wk.icmp_ne C d_jdk_2450m9_345 (by decide) (pcT := 358) (by decide) (pc' := 348) rfl (fun q20 => ?_) (fun q => absurd q (by decide))
  refine Wk.iloadN (pc' := 359) C d_jdk_2450m9_358 rfl rfl ?_
  refine Wk.iloadN (pc' := 360) C d_jdk_2450m9_359 rfl rfl ?_
  refine Wk.icmp_ge C d_jdk_2450m9_360 (by decide) (pcT := 416) (by decide) (pc' := 363) rfl (fun q21 => ?_) (fun q => absurd q (by decide))
  refine Wk.iload (pc' := 418) C d_jdk_2450m9_416 rfl rfl ?_
  have VD := D16
  have KP : Keep h0 h16 [d] := ((Keep.refl _ _).trans K16 (allS (Or.inl (List.mem_singleton.mpr rfl)) all0))
  exact Wk.retI C d_jdk_2450m9_418 (by decide) (by decide) ⟨rfl, KP, VD⟩
set_option maxRecDepth 65536 in
set_option maxHeartbeats 40000000 in
theorem own_decB_0 (l : Launch) {Z : State} {a0 : Array Value} (hw : Ws a0 Z) {h0 : Heap} (O0 : Ext Z.heap h0) {aD aT aI aU : Addr} (bs : BS Z aD aT aI aU) (b : Addr)  (V : Wk.Ary Z h0 b .byte [])  :
    Wk.Con l Z (⟨"java/util/Base64$Decoder", "decode", "([B)[B"⟩ : MethodName) jdk_2450_method_2_code 4 (some (.array .byte)) ({ frames := 2, cells := 1, slots := 0, locals := 70 } : Room) #[(.ref aD), (.ref b)] h0 (fun v h' => ∃ d : Addr, v = some (.ref d) ∧ Ext h0 h' ∧ Wk.Ary Z h' d .byte []) := by
  refine Wk.Con.intro (plainFor_of_name pn1) O0 (fun m => ef22 m aD b) ?_
  intro W C
  replace C : Wk.Cx Z W "java/util/Base64$Decoder" "decode" jdk_2450_method_2_code 4 (some (.array .byte)) := C
  refine Wk.aloadN (pc' := 1) C d_jdk_2450m2_0 rfl rfl rfl ?_
  refine Wk.aloadN (pc' := 2) C d_jdk_2450m2_1 rfl rfl rfl ?_
  refine Wk.iconst (pc' := 3) C d_jdk_2450m2_2 (v := (0 : Int32)) rfl rfl ?_
  refine Wk.aloadN (pc' := 4) C d_jdk_2450m2_3 rfl rfl rfl ?_
  refine Wk.alen (pc' := 5) C d_jdk_2450m2_4 V (z := (0 : Int32)) rfl rfl ?_
  refine Wk.callV (pc' := 8) C d_jdk_2450m2_5 (a := aD) (Wk.Con.pays C (Wn := 0) (own_out_0 l hw O0 bs b  V ) (w122 hw) (w83 hw) (by decide) (by decide)) Wk.cleanC (bs.2.2.2.2.1.ext O0) (w118 hw) (Wk.declOf (w119 hw) (w122 hw)) (notFace_of_selects (args := #[]) (mvT C.hZ (w121 hw))) (w121 hw) (w119 hw) (by decide) (argsL := [(.ref b), (.int (0 : Int32)), (.int (0 : Int32))]) (st := []) rfl rfl (lenOf pd5 rfl) rfl (Nat.le_of_eq rfl) (k' := 0) rfl (n' := 0) rfl (by decide) (by decide) rfl ?_
  intro r11 h12 Q12 O12
  obtain ⟨rfl, e13⟩ := Q12
  obtain rfl := e13.symm
  refine Wk.newA (pc' := 10) C d_jdk_2450m2_8 (ty := .byte) rfl (w27 hw) (by decide) (cap := 0) (by decide) (by decide) (k' := 1) rfl (n' := 0) rfl (by decide) (by decide) rfl rfl ?_
  intro a14 h15 ga14 za14 E15 Va14 O15
  have V16 : Wk.Ary Z h15 a14 .byte [] := Va14
  refine Wk.astoreN (pc' := 11) C d_jdk_2450m2_10 rfl (Ls' := #[.val (.ref aD), .val (.ref b), .val (.ref a14), .unset]) rfl rfl ?_
  refine Wk.aloadN (pc' := 12) C d_jdk_2450m2_11 rfl rfl rfl ?_
  refine Wk.aloadN (pc' := 13) C d_jdk_2450m2_12 rfl rfl rfl ?_
  refine Wk.iconst (pc' := 14) C d_jdk_2450m2_13 (v := (0 : Int32)) rfl rfl ?_
  refine Wk.aloadN (pc' := 15) C d_jdk_2450m2_14 rfl rfl rfl ?_
  refine Wk.alen (pc' := 16) C d_jdk_2450m2_15 (V.ext E15) (z := (0 : Int32)) rfl rfl ?_
  refine Wk.aloadN (pc' := 17) C d_jdk_2450m2_16 rfl rfl rfl ?_
  refine Wk.callV (pc' := 20) C d_jdk_2450m2_17 (a := aD) (Wk.Con.pays C (Wn := 0) (own_dec0_0 l hw O15 bs b a14  (V.ext E15)  V16 za14 (Nat.ne_of_lt (Nat.lt_of_lt_of_le V.lt (Nat.le_of_eq ga14.symm))) (Nat.ne_of_lt (Nat.lt_of_lt_of_le (bs.2.2.2.2.2.2.2.1.ext O0).lt (Nat.le_of_eq ga14.symm)))) (w130 hw) (w83 hw) (by decide) (by decide)) Wk.cleanC ((bs.2.2.2.2.1.ext O0).ext E15) (w126 hw) (Wk.declOf (w127 hw) (w130 hw)) (notFace_of_selects (args := #[]) (mvT C.hZ (w129 hw))) (w129 hw) (w127 hw) (by decide) (argsL := [(.ref b), (.int (0 : Int32)), (.int (0 : Int32)), (.ref a14)]) (st := []) rfl rfl (lenOf pd6 rfl) rfl (Nat.le_of_eq rfl) (k' := 1) rfl (n' := 0) rfl (by decide) (by decide) rfl ?_
  intro r17 h18 Q18 O18
  obtain ⟨rfl, K18, D18⟩ := Q18
  refine Wk.istoreN (pc' := 21) C d_jdk_2450m2_20 (Ls' := #[.val (.ref aD), .val (.ref b), .val (.ref a14), .val (.int (0 : Int32))]) rfl rfl ?_
  refine Wk.iloadN (pc' := 22) C d_jdk_2450m2_21 rfl rfl ?_
  refine Wk.aloadN (pc' := 23) C d_jdk_2450m2_22 rfl rfl rfl ?_
  refine Wk.alen (pc' := 24) C d_jdk_2450m2_23 D18 (z := (0 : Int32)) rfl rfl ?_
  refine Wk.icmp_eq C d_jdk_2450m2_24 (by decide) (pcT := 33) (by decide) (pc' := 27) rfl (fun q19 => ?_) (fun q => absurd q (by decide))
  refine Wk.aloadN (pc' := 34) C d_jdk_2450m2_33 rfl rfl rfl ?_
  have X20 : Ext h0 h18 := Wk.Ext.keep1 (Z := Z) E15 K18 (Nat.le_of_eq ga14.symm)
  exact Wk.retA C rfl rfl d_jdk_2450m2_34 (by decide) (by decide) ⟨_, rfl, X20, D18⟩
set_option maxRecDepth 65536 in
set_option maxHeartbeats 40000000 in
theorem own_decB_2 (l : Launch) {Z : State} {a0 : Array Value} (hw : Ws a0 Z) {h0 : Heap} (O0 : Ext Z.heap h0) {aD aT aI aU : Addr} (bs : BS Z aD aT aI aU) (b : Addr) (x0 x1 : Int32) {u0 u1 : Int32}  (V : Wk.Ary Z h0 b .byte [(.int x0), (.int x1)]) (t0 : Tb x0 u0) (t1 : Tb x1 u1) :
    Wk.Con l Z (⟨"java/util/Base64$Decoder", "decode", "([B)[B"⟩ : MethodName) jdk_2450_method_2_code 4 (some (.array .byte)) ({ frames := 2, cells := 1, slots := 1, locals := 70 } : Room) #[(.ref aD), (.ref b)] h0 (fun v h' => ∃ d : Addr, v = some (.ref d) ∧ Ext h0 h' ∧ Wk.Ary Z h' d .byte [(.int (((dS2 u0 u1) >>> ((16 : Int32) &&& 31)).toInt8.toInt32))]) := by
  refine Wk.Con.intro (plainFor_of_name pn1) O0 (fun m => ef23 m aD b) ?_
  intro W C
  replace C : Wk.Cx Z W "java/util/Base64$Decoder" "decode" jdk_2450_method_2_code 4 (some (.array .byte)) := C
  refine Wk.aloadN (pc' := 1) C d_jdk_2450m2_0 rfl rfl rfl ?_
  refine Wk.aloadN (pc' := 2) C d_jdk_2450m2_1 rfl rfl rfl ?_
  refine Wk.iconst (pc' := 3) C d_jdk_2450m2_2 (v := (0 : Int32)) rfl rfl ?_
  refine Wk.aloadN (pc' := 4) C d_jdk_2450m2_3 rfl rfl rfl ?_
  refine Wk.alen (pc' := 5) C d_jdk_2450m2_4 V (z := (2 : Int32)) rfl rfl ?_
  refine Wk.callV (pc' := 8) C d_jdk_2450m2_5 (a := aD) (Wk.Con.pays C (Wn := 0) (own_out_2 l hw O0 bs b x0 x1 V t0 t1) (w122 hw) (w83 hw) (by decide) (by decide)) Wk.cleanC (bs.2.2.2.2.1.ext O0) (w118 hw) (Wk.declOf (w119 hw) (w122 hw)) (notFace_of_selects (args := #[]) (mvT C.hZ (w121 hw))) (w121 hw) (w119 hw) (by decide) (argsL := [(.ref b), (.int (0 : Int32)), (.int (2 : Int32))]) (st := []) rfl rfl (lenOf pd5 rfl) rfl (Nat.le_of_eq rfl) (k' := 0) rfl (n' := 0) rfl (by decide) (by decide) rfl ?_
  intro r11 h12 Q12 O12
  obtain ⟨rfl, e13⟩ := Q12
  obtain rfl := e13.symm
  refine Wk.newA (pc' := 10) C d_jdk_2450m2_8 (ty := .byte) rfl (w27 hw) (by decide) (cap := 1) (by decide) (by decide) (k' := 1) rfl (n' := 1) rfl (by decide) (by decide) rfl rfl ?_
  intro a14 h15 ga14 za14 E15 Va14 O15
  have V16 : Wk.Ary Z h15 a14 .byte [(.int (0 : Int32))] := Va14
  refine Wk.astoreN (pc' := 11) C d_jdk_2450m2_10 rfl (Ls' := #[.val (.ref aD), .val (.ref b), .val (.ref a14), .unset]) rfl rfl ?_
  refine Wk.aloadN (pc' := 12) C d_jdk_2450m2_11 rfl rfl rfl ?_
  refine Wk.aloadN (pc' := 13) C d_jdk_2450m2_12 rfl rfl rfl ?_
  refine Wk.iconst (pc' := 14) C d_jdk_2450m2_13 (v := (0 : Int32)) rfl rfl ?_
  refine Wk.aloadN (pc' := 15) C d_jdk_2450m2_14 rfl rfl rfl ?_
  refine Wk.alen (pc' := 16) C d_jdk_2450m2_15 (V.ext E15) (z := (2 : Int32)) rfl rfl ?_
  refine Wk.aloadN (pc' := 17) C d_jdk_2450m2_16 rfl rfl rfl ?_
  refine Wk.callV (pc' := 20) C d_jdk_2450m2_17 (a := aD) (Wk.Con.pays C (Wn := 0) (own_dec0_2 l hw O15 bs b a14 x0 x1 (V.ext E15) t0 t1 V16 za14 (Nat.ne_of_lt (Nat.lt_of_lt_of_le V.lt (Nat.le_of_eq ga14.symm))) (Nat.ne_of_lt (Nat.lt_of_lt_of_le (bs.2.2.2.2.2.2.2.1.ext O0).lt (Nat.le_of_eq ga14.symm)))) (w130 hw) (w83 hw) (by decide) (by decide)) Wk.cleanC ((bs.2.2.2.2.1.ext O0).ext E15) (w126 hw) (Wk.declOf (w127 hw) (w130 hw)) (notFace_of_selects (args := #[]) (mvT C.hZ (w129 hw))) (w129 hw) (w127 hw) (by decide) (argsL := [(.ref b), (.int (0 : Int32)), (.int (2 : Int32)), (.ref a14)]) (st := []) rfl rfl (lenOf pd6 rfl) rfl (Nat.le_of_eq rfl) (k' := 1) rfl (n' := 1) rfl (by decide) (by decide) rfl ?_
  intro r17 h18 Q18 O18
  obtain ⟨rfl, K18, D18⟩ := Q18
  refine Wk.istoreN (pc' := 21) C d_jdk_2450m2_20 (Ls' := #[.val (.ref aD), .val (.ref b), .val (.ref a14), .val (.int (1 : Int32))]) rfl rfl ?_
  refine Wk.iloadN (pc' := 22) C d_jdk_2450m2_21 rfl rfl ?_
  refine Wk.aloadN (pc' := 23) C d_jdk_2450m2_22 rfl rfl rfl ?_
  refine Wk.alen (pc' := 24) C d_jdk_2450m2_23 D18 (z := (1 : Int32)) rfl rfl ?_
  refine Wk.icmp_eq C d_jdk_2450m2_24 (by decide) (pcT := 33) (by decide) (pc' := 27) rfl (fun q19 => ?_) (fun q => absurd q (by decide))
  refine Wk.aloadN (pc' := 34) C d_jdk_2450m2_33 rfl rfl rfl ?_
  have X20 : Ext h0 h18 := Wk.Ext.keep1 (Z := Z) E15 K18 (Nat.le_of_eq ga14.symm)
  exact Wk.retA C rfl rfl d_jdk_2450m2_34 (by decide) (by decide) ⟨_, rfl, X20, D18⟩
set_option maxRecDepth 65536 in
set_option maxHeartbeats 40000000 in
theorem own_decB_3 (l : Launch) {Z : State} {a0 : Array Value} (hw : Ws a0 Z) {h0 : Heap} (O0 : Ext Z.heap h0) {aD aT aI aU : Addr} (bs : BS Z aD aT aI aU) (b : Addr) (x0 x1 x2 : Int32) {u0 u1 u2 : Int32}  (V : Wk.Ary Z h0 b .byte [(.int x0), (.int x1), (.int x2)]) (t0 : Tb x0 u0) (t1 : Tb x1 u1) (t2 : Tb x2 u2) :
    Wk.Con l Z (⟨"java/util/Base64$Decoder", "decode", "([B)[B"⟩ : MethodName) jdk_2450_method_2_code 4 (some (.array .byte)) ({ frames := 2, cells := 1, slots := 2, locals := 70 } : Room) #[(.ref aD), (.ref b)] h0 (fun v h' => ∃ d : Addr, v = some (.ref d) ∧ Ext h0 h' ∧ Wk.Ary Z h' d .byte [(.int (((dS3 u0 u1 u2) >>> ((16 : Int32) &&& 31)).toInt8.toInt32)), (.int (((dS3 u0 u1 u2) >>> ((8 : Int32) &&& 31)).toInt8.toInt32))]) := by
  refine Wk.Con.intro (plainFor_of_name pn1) O0 (fun m => ef24 m aD b) ?_
  intro W C
  replace C : Wk.Cx Z W "java/util/Base64$Decoder" "decode" jdk_2450_method_2_code 4 (some (.array .byte)) := C
  refine Wk.aloadN (pc' := 1) C d_jdk_2450m2_0 rfl rfl rfl ?_
  refine Wk.aloadN (pc' := 2) C d_jdk_2450m2_1 rfl rfl rfl ?_
  refine Wk.iconst (pc' := 3) C d_jdk_2450m2_2 (v := (0 : Int32)) rfl rfl ?_
  refine Wk.aloadN (pc' := 4) C d_jdk_2450m2_3 rfl rfl rfl ?_
  refine Wk.alen (pc' := 5) C d_jdk_2450m2_4 V (z := (3 : Int32)) rfl rfl ?_
  refine Wk.callV (pc' := 8) C d_jdk_2450m2_5 (a := aD) (Wk.Con.pays C (Wn := 0) (own_out_3 l hw O0 bs b x0 x1 x2 V t0 t1 t2) (w122 hw) (w83 hw) (by decide) (by decide)) Wk.cleanC (bs.2.2.2.2.1.ext O0) (w118 hw) (Wk.declOf (w119 hw) (w122 hw)) (notFace_of_selects (args := #[]) (mvT C.hZ (w121 hw))) (w121 hw) (w119 hw) (by decide) (argsL := [(.ref b), (.int (0 : Int32)), (.int (3 : Int32))]) (st := []) rfl rfl (lenOf pd5 rfl) rfl (Nat.le_of_eq rfl) (k' := 0) rfl (n' := 0) rfl (by decide) (by decide) rfl ?_
  intro r11 h12 Q12 O12
  obtain ⟨rfl, e13⟩ := Q12
  obtain rfl := e13.symm
  refine Wk.newA (pc' := 10) C d_jdk_2450m2_8 (ty := .byte) rfl (w27 hw) (by decide) (cap := 2) (by decide) (by decide) (k' := 1) rfl (n' := 2) rfl (by decide) (by decide) rfl rfl ?_
  intro a14 h15 ga14 za14 E15 Va14 O15
  have V16 : Wk.Ary Z h15 a14 .byte [(.int (0 : Int32)), (.int (0 : Int32))] := Va14
  refine Wk.astoreN (pc' := 11) C d_jdk_2450m2_10 rfl (Ls' := #[.val (.ref aD), .val (.ref b), .val (.ref a14), .unset]) rfl rfl ?_
  refine Wk.aloadN (pc' := 12) C d_jdk_2450m2_11 rfl rfl rfl ?_
  refine Wk.aloadN (pc' := 13) C d_jdk_2450m2_12 rfl rfl rfl ?_
  refine Wk.iconst (pc' := 14) C d_jdk_2450m2_13 (v := (0 : Int32)) rfl rfl ?_
  refine Wk.aloadN (pc' := 15) C d_jdk_2450m2_14 rfl rfl rfl ?_
  refine Wk.alen (pc' := 16) C d_jdk_2450m2_15 (V.ext E15) (z := (3 : Int32)) rfl rfl ?_
  refine Wk.aloadN (pc' := 17) C d_jdk_2450m2_16 rfl rfl rfl ?_
  refine Wk.callV (pc' := 20) C d_jdk_2450m2_17 (a := aD) (Wk.Con.pays C (Wn := 0) (own_dec0_3 l hw O15 bs b a14 x0 x1 x2 (V.ext E15) t0 t1 t2 V16 za14 (Nat.ne_of_lt (Nat.lt_of_lt_of_le V.lt (Nat.le_of_eq ga14.symm))) (Nat.ne_of_lt (Nat.lt_of_lt_of_le (bs.2.2.2.2.2.2.2.1.ext O0).lt (Nat.le_of_eq ga14.symm)))) (w130 hw) (w83 hw) (by decide) (by decide)) Wk.cleanC ((bs.2.2.2.2.1.ext O0).ext E15) (w126 hw) (Wk.declOf (w127 hw) (w130 hw)) (notFace_of_selects (args := #[]) (mvT C.hZ (w129 hw))) (w129 hw) (w127 hw) (by decide) (argsL := [(.ref b), (.int (0 : Int32)), (.int (3 : Int32)), (.ref a14)]) (st := []) rfl rfl (lenOf pd6 rfl) rfl (Nat.le_of_eq rfl) (k' := 1) rfl (n' := 2) rfl (by decide) (by decide) rfl ?_
  intro r17 h18 Q18 O18
  obtain ⟨rfl, K18, D18⟩ := Q18
  refine Wk.istoreN (pc' := 21) C d_jdk_2450m2_20 (Ls' := #[.val (.ref aD), .val (.ref b), .val (.ref a14), .val (.int (2 : Int32))]) rfl rfl ?_
  refine Wk.iloadN (pc' := 22) C d_jdk_2450m2_21 rfl rfl ?_
  refine Wk.aloadN (pc' := 23) C d_jdk_2450m2_22 rfl rfl rfl ?_
  refine Wk.alen (pc' := 24) C d_jdk_2450m2_23 D18 (z := (2 : Int32)) rfl rfl ?_
  refine Wk.icmp_eq C d_jdk_2450m2_24 (by decide) (pcT := 33) (by decide) (pc' := 27) rfl (fun q19 => ?_) (fun q => absurd q (by decide))
  refine Wk.aloadN (pc' := 34) C d_jdk_2450m2_33 rfl rfl rfl ?_
  have X20 : Ext h0 h18 := Wk.Ext.keep1 (Z := Z) E15 K18 (Nat.le_of_eq ga14.symm)
  exact Wk.retA C rfl rfl d_jdk_2450m2_34 (by decide) (by decide) ⟨_, rfl, X20, D18⟩
set_option maxRecDepth 65536 in
set_option maxHeartbeats 40000000 in
theorem own_decB_4 (l : Launch) {Z : State} {a0 : Array Value} (hw : Ws a0 Z) {h0 : Heap} (O0 : Ext Z.heap h0) {aD aT aI aU : Addr} (bs : BS Z aD aT aI aU) (b : Addr) (x0 x1 x2 x3 : Int32) {u0 u1 u2 u3 : Int32}  (V : Wk.Ary Z h0 b .byte [(.int x0), (.int x1), (.int x2), (.int x3)]) (t0 : Tb x0 u0) (t1 : Tb x1 u1) (t2 : Tb x2 u2) (t3 : Tb x3 u3) :
    Wk.Con l Z (⟨"java/util/Base64$Decoder", "decode", "([B)[B"⟩ : MethodName) jdk_2450_method_2_code 4 (some (.array .byte)) ({ frames := 2, cells := 1, slots := 3, locals := 70 } : Room) #[(.ref aD), (.ref b)] h0 (fun v h' => ∃ d : Addr, v = some (.ref d) ∧ Ext h0 h' ∧ Wk.Ary Z h' d .byte [(.int (((dS4 u0 u1 u2 u3) >>> ((16 : Int32) &&& 31)).toInt8.toInt32)), (.int (((dS4 u0 u1 u2 u3) >>> ((8 : Int32) &&& 31)).toInt8.toInt32)), (.int ((dS4 u0 u1 u2 u3).toInt8.toInt32))]) := by
  refine Wk.Con.intro (plainFor_of_name pn1) O0 (fun m => ef25 m aD b) ?_
  intro W C
  replace C : Wk.Cx Z W "java/util/Base64$Decoder" "decode" jdk_2450_method_2_code 4 (some (.array .byte)) := C
  refine Wk.aloadN (pc' := 1) C d_jdk_2450m2_0 rfl rfl rfl ?_
  refine Wk.aloadN (pc' := 2) C d_jdk_2450m2_1 rfl rfl rfl ?_
  refine Wk.iconst (pc' := 3) C d_jdk_2450m2_2 (v := (0 : Int32)) rfl rfl ?_
  refine Wk.aloadN (pc' := 4) C d_jdk_2450m2_3 rfl rfl rfl ?_
  refine Wk.alen (pc' := 5) C d_jdk_2450m2_4 V (z := (4 : Int32)) rfl rfl ?_
  refine Wk.callV (pc' := 8) C d_jdk_2450m2_5 (a := aD) (Wk.Con.pays C (Wn := 0) (own_out_4 l hw O0 bs b x0 x1 x2 x3 V t0 t1 t2 t3) (w122 hw) (w83 hw) (by decide) (by decide)) Wk.cleanC (bs.2.2.2.2.1.ext O0) (w118 hw) (Wk.declOf (w119 hw) (w122 hw)) (notFace_of_selects (args := #[]) (mvT C.hZ (w121 hw))) (w121 hw) (w119 hw) (by decide) (argsL := [(.ref b), (.int (0 : Int32)), (.int (4 : Int32))]) (st := []) rfl rfl (lenOf pd5 rfl) rfl (Nat.le_of_eq rfl) (k' := 0) rfl (n' := 0) rfl (by decide) (by decide) rfl ?_
  intro r11 h12 Q12 O12
  obtain ⟨rfl, e13⟩ := Q12
  obtain rfl := e13.symm
  refine Wk.newA (pc' := 10) C d_jdk_2450m2_8 (ty := .byte) rfl (w27 hw) (by decide) (cap := 3) (by decide) (by decide) (k' := 1) rfl (n' := 3) rfl (by decide) (by decide) rfl rfl ?_
  intro a14 h15 ga14 za14 E15 Va14 O15
  have V16 : Wk.Ary Z h15 a14 .byte [(.int (0 : Int32)), (.int (0 : Int32)), (.int (0 : Int32))] := Va14
  refine Wk.astoreN (pc' := 11) C d_jdk_2450m2_10 rfl (Ls' := #[.val (.ref aD), .val (.ref b), .val (.ref a14), .unset]) rfl rfl ?_
  refine Wk.aloadN (pc' := 12) C d_jdk_2450m2_11 rfl rfl rfl ?_
  refine Wk.aloadN (pc' := 13) C d_jdk_2450m2_12 rfl rfl rfl ?_
  refine Wk.iconst (pc' := 14) C d_jdk_2450m2_13 (v := (0 : Int32)) rfl rfl ?_
  refine Wk.aloadN (pc' := 15) C d_jdk_2450m2_14 rfl rfl rfl ?_
  refine Wk.alen (pc' := 16) C d_jdk_2450m2_15 (V.ext E15) (z := (4 : Int32)) rfl rfl ?_
  refine Wk.aloadN (pc' := 17) C d_jdk_2450m2_16 rfl rfl rfl ?_
  refine Wk.callV (pc' := 20) C d_jdk_2450m2_17 (a := aD) (Wk.Con.pays C (Wn := 0) (own_dec0_4 l hw O15 bs b a14 x0 x1 x2 x3 (V.ext E15) t0 t1 t2 t3 V16 za14 (Nat.ne_of_lt (Nat.lt_of_lt_of_le V.lt (Nat.le_of_eq ga14.symm))) (Nat.ne_of_lt (Nat.lt_of_lt_of_le (bs.2.2.2.2.2.2.2.1.ext O0).lt (Nat.le_of_eq ga14.symm)))) (w130 hw) (w83 hw) (by decide) (by decide)) Wk.cleanC ((bs.2.2.2.2.1.ext O0).ext E15) (w126 hw) (Wk.declOf (w127 hw) (w130 hw)) (notFace_of_selects (args := #[]) (mvT C.hZ (w129 hw))) (w129 hw) (w127 hw) (by decide) (argsL := [(.ref b), (.int (0 : Int32)), (.int (4 : Int32)), (.ref a14)]) (st := []) rfl rfl (lenOf pd6 rfl) rfl (Nat.le_of_eq rfl) (k' := 1) rfl (n' := 3) rfl (by decide) (by decide) rfl ?_
  intro r17 h18 Q18 O18
  obtain ⟨rfl, K18, D18⟩ := Q18
  refine Wk.istoreN (pc' := 21) C d_jdk_2450m2_20 (Ls' := #[.val (.ref aD), .val (.ref b), .val (.ref a14), .val (.int (3 : Int32))]) rfl rfl ?_
  refine Wk.iloadN (pc' := 22) C d_jdk_2450m2_21 rfl rfl ?_
  refine Wk.aloadN (pc' := 23) C d_jdk_2450m2_22 rfl rfl rfl ?_
  refine Wk.alen (pc' := 24) C d_jdk_2450m2_23 D18 (z := (3 : Int32)) rfl rfl ?_
  refine Wk.icmp_eq C d_jdk_2450m2_24 (by decide) (pcT := 33) (by decide) (pc' := 27) rfl (fun q19 => ?_) (fun q => absurd q (by decide))
  refine Wk.aloadN (pc' := 34) C d_jdk_2450m2_33 rfl rfl rfl ?_
  have X20 : Ext h0 h18 := Wk.Ext.keep1 (Z := Z) E15 K18 (Nat.le_of_eq ga14.symm)
  exact Wk.retA C rfl rfl d_jdk_2450m2_34 (by decide) (by decide) ⟨_, rfl, X20, D18⟩
set_option maxRecDepth 65536 in
set_option maxHeartbeats 40000000 in
theorem own_decB_6 (l : Launch) {Z : State} {a0 : Array Value} (hw : Ws a0 Z) {h0 : Heap} (O0 : Ext Z.heap h0) {aD aT aI aU : Addr} (bs : BS Z aD aT aI aU) (b : Addr) (x0 x1 x2 x3 x4 x5 : Int32) {u0 u1 u2 u3 u4 u5 : Int32}  (V : Wk.Ary Z h0 b .byte [(.int x0), (.int x1), (.int x2), (.int x3), (.int x4), (.int x5)]) (t0 : Tb x0 u0) (t1 : Tb x1 u1) (t2 : Tb x2 u2) (t3 : Tb x3 u3) (t4 : Tb x4 u4) (t5 : Tb x5 u5) :
    Wk.Con l Z (⟨"java/util/Base64$Decoder", "decode", "([B)[B"⟩ : MethodName) jdk_2450_method_2_code 4 (some (.array .byte)) ({ frames := 2, cells := 1, slots := 4, locals := 70 } : Room) #[(.ref aD), (.ref b)] h0 (fun v h' => ∃ d : Addr, v = some (.ref d) ∧ Ext h0 h' ∧ Wk.Ary Z h' d .byte [(.int (((dW u0 u1 u2 u3) >>> ((16 : Int32) &&& 31)).toInt8.toInt32)), (.int (((dW u0 u1 u2 u3) >>> ((8 : Int32) &&& 31)).toInt8.toInt32)), (.int ((dW u0 u1 u2 u3).toInt8.toInt32)), (.int (((dS2 u4 u5) >>> ((16 : Int32) &&& 31)).toInt8.toInt32))]) := by
  refine Wk.Con.intro (plainFor_of_name pn1) O0 (fun m => ef26 m aD b) ?_
  intro W C
  replace C : Wk.Cx Z W "java/util/Base64$Decoder" "decode" jdk_2450_method_2_code 4 (some (.array .byte)) := C
  refine Wk.aloadN (pc' := 1) C d_jdk_2450m2_0 rfl rfl rfl ?_
  refine Wk.aloadN (pc' := 2) C d_jdk_2450m2_1 rfl rfl rfl ?_
  refine Wk.iconst (pc' := 3) C d_jdk_2450m2_2 (v := (0 : Int32)) rfl rfl ?_
  refine Wk.aloadN (pc' := 4) C d_jdk_2450m2_3 rfl rfl rfl ?_
  refine Wk.alen (pc' := 5) C d_jdk_2450m2_4 V (z := (6 : Int32)) rfl rfl ?_
  refine Wk.callV (pc' := 8) C d_jdk_2450m2_5 (a := aD) (Wk.Con.pays C (Wn := 0) (own_out_6 l hw O0 bs b x0 x1 x2 x3 x4 x5 V t0 t1 t2 t3 t4 t5) (w122 hw) (w83 hw) (by decide) (by decide)) Wk.cleanC (bs.2.2.2.2.1.ext O0) (w118 hw) (Wk.declOf (w119 hw) (w122 hw)) (notFace_of_selects (args := #[]) (mvT C.hZ (w121 hw))) (w121 hw) (w119 hw) (by decide) (argsL := [(.ref b), (.int (0 : Int32)), (.int (6 : Int32))]) (st := []) rfl rfl (lenOf pd5 rfl) rfl (Nat.le_of_eq rfl) (k' := 0) rfl (n' := 0) rfl (by decide) (by decide) rfl ?_
  intro r11 h12 Q12 O12
  obtain ⟨rfl, e13⟩ := Q12
  obtain rfl := e13.symm
  refine Wk.newA (pc' := 10) C d_jdk_2450m2_8 (ty := .byte) rfl (w27 hw) (by decide) (cap := 4) (by decide) (by decide) (k' := 1) rfl (n' := 4) rfl (by decide) (by decide) rfl rfl ?_
  intro a14 h15 ga14 za14 E15 Va14 O15
  have V16 : Wk.Ary Z h15 a14 .byte [(.int (0 : Int32)), (.int (0 : Int32)), (.int (0 : Int32)), (.int (0 : Int32))] := Va14
  refine Wk.astoreN (pc' := 11) C d_jdk_2450m2_10 rfl (Ls' := #[.val (.ref aD), .val (.ref b), .val (.ref a14), .unset]) rfl rfl ?_
  refine Wk.aloadN (pc' := 12) C d_jdk_2450m2_11 rfl rfl rfl ?_
  refine Wk.aloadN (pc' := 13) C d_jdk_2450m2_12 rfl rfl rfl ?_
  refine Wk.iconst (pc' := 14) C d_jdk_2450m2_13 (v := (0 : Int32)) rfl rfl ?_
  refine Wk.aloadN (pc' := 15) C d_jdk_2450m2_14 rfl rfl rfl ?_
  refine Wk.alen (pc' := 16) C d_jdk_2450m2_15 (V.ext E15) (z := (6 : Int32)) rfl rfl ?_
  refine Wk.aloadN (pc' := 17) C d_jdk_2450m2_16 rfl rfl rfl ?_
  refine Wk.callV (pc' := 20) C d_jdk_2450m2_17 (a := aD) (Wk.Con.pays C (Wn := 0) (own_dec0_6 l hw O15 bs b a14 x0 x1 x2 x3 x4 x5 (V.ext E15) t0 t1 t2 t3 t4 t5 V16 za14 (Nat.ne_of_lt (Nat.lt_of_lt_of_le V.lt (Nat.le_of_eq ga14.symm))) (Nat.ne_of_lt (Nat.lt_of_lt_of_le (bs.2.2.2.2.2.2.2.1.ext O0).lt (Nat.le_of_eq ga14.symm)))) (w130 hw) (w83 hw) (by decide) (by decide)) Wk.cleanC ((bs.2.2.2.2.1.ext O0).ext E15) (w126 hw) (Wk.declOf (w127 hw) (w130 hw)) (notFace_of_selects (args := #[]) (mvT C.hZ (w129 hw))) (w129 hw) (w127 hw) (by decide) (argsL := [(.ref b), (.int (0 : Int32)), (.int (6 : Int32)), (.ref a14)]) (st := []) rfl rfl (lenOf pd6 rfl) rfl (Nat.le_of_eq rfl) (k' := 1) rfl (n' := 4) rfl (by decide) (by decide) rfl ?_
  intro r17 h18 Q18 O18
  obtain ⟨rfl, K18, D18⟩ := Q18
  refine Wk.istoreN (pc' := 21) C d_jdk_2450m2_20 (Ls' := #[.val (.ref aD), .val (.ref b), .val (.ref a14), .val (.int (4 : Int32))]) rfl rfl ?_
  refine Wk.iloadN (pc' := 22) C d_jdk_2450m2_21 rfl rfl ?_
  refine Wk.aloadN (pc' := 23) C d_jdk_2450m2_22 rfl rfl rfl ?_
  refine Wk.alen (pc' := 24) C d_jdk_2450m2_23 D18 (z := (4 : Int32)) rfl rfl ?_
  refine Wk.icmp_eq C d_jdk_2450m2_24 (by decide) (pcT := 33) (by decide) (pc' := 27) rfl (fun q19 => ?_) (fun q => absurd q (by decide))
  refine Wk.aloadN (pc' := 34) C d_jdk_2450m2_33 rfl rfl rfl ?_
  have X20 : Ext h0 h18 := Wk.Ext.keep1 (Z := Z) E15 K18 (Nat.le_of_eq ga14.symm)
  exact Wk.retA C rfl rfl d_jdk_2450m2_34 (by decide) (by decide) ⟨_, rfl, X20, D18⟩
set_option maxRecDepth 65536 in
set_option maxHeartbeats 40000000 in
theorem own_decB_7 (l : Launch) {Z : State} {a0 : Array Value} (hw : Ws a0 Z) {h0 : Heap} (O0 : Ext Z.heap h0) {aD aT aI aU : Addr} (bs : BS Z aD aT aI aU) (b : Addr) (x0 x1 x2 x3 x4 x5 x6 : Int32) {u0 u1 u2 u3 u4 u5 u6 : Int32}  (V : Wk.Ary Z h0 b .byte [(.int x0), (.int x1), (.int x2), (.int x3), (.int x4), (.int x5), (.int x6)]) (t0 : Tb x0 u0) (t1 : Tb x1 u1) (t2 : Tb x2 u2) (t3 : Tb x3 u3) (t4 : Tb x4 u4) (t5 : Tb x5 u5) (t6 : Tb x6 u6) :
    Wk.Con l Z (⟨"java/util/Base64$Decoder", "decode", "([B)[B"⟩ : MethodName) jdk_2450_method_2_code 4 (some (.array .byte)) ({ frames := 2, cells := 1, slots := 5, locals := 70 } : Room) #[(.ref aD), (.ref b)] h0 (fun v h' => ∃ d : Addr, v = some (.ref d) ∧ Ext h0 h' ∧ Wk.Ary Z h' d .byte [(.int (((dW u0 u1 u2 u3) >>> ((16 : Int32) &&& 31)).toInt8.toInt32)), (.int (((dW u0 u1 u2 u3) >>> ((8 : Int32) &&& 31)).toInt8.toInt32)), (.int ((dW u0 u1 u2 u3).toInt8.toInt32)), (.int (((dS3 u4 u5 u6) >>> ((16 : Int32) &&& 31)).toInt8.toInt32)), (.int (((dS3 u4 u5 u6) >>> ((8 : Int32) &&& 31)).toInt8.toInt32))]) := by
  refine Wk.Con.intro (plainFor_of_name pn1) O0 (fun m => ef27 m aD b) ?_
  intro W C
  replace C : Wk.Cx Z W "java/util/Base64$Decoder" "decode" jdk_2450_method_2_code 4 (some (.array .byte)) := C
  refine Wk.aloadN (pc' := 1) C d_jdk_2450m2_0 rfl rfl rfl ?_
  refine Wk.aloadN (pc' := 2) C d_jdk_2450m2_1 rfl rfl rfl ?_
  refine Wk.iconst (pc' := 3) C d_jdk_2450m2_2 (v := (0 : Int32)) rfl rfl ?_
  refine Wk.aloadN (pc' := 4) C d_jdk_2450m2_3 rfl rfl rfl ?_
  refine Wk.alen (pc' := 5) C d_jdk_2450m2_4 V (z := (7 : Int32)) rfl rfl ?_
  refine Wk.callV (pc' := 8) C d_jdk_2450m2_5 (a := aD) (Wk.Con.pays C (Wn := 0) (own_out_7 l hw O0 bs b x0 x1 x2 x3 x4 x5 x6 V t0 t1 t2 t3 t4 t5 t6) (w122 hw) (w83 hw) (by decide) (by decide)) Wk.cleanC (bs.2.2.2.2.1.ext O0) (w118 hw) (Wk.declOf (w119 hw) (w122 hw)) (notFace_of_selects (args := #[]) (mvT C.hZ (w121 hw))) (w121 hw) (w119 hw) (by decide) (argsL := [(.ref b), (.int (0 : Int32)), (.int (7 : Int32))]) (st := []) rfl rfl (lenOf pd5 rfl) rfl (Nat.le_of_eq rfl) (k' := 0) rfl (n' := 0) rfl (by decide) (by decide) rfl ?_
  intro r11 h12 Q12 O12
  obtain ⟨rfl, e13⟩ := Q12
  obtain rfl := e13.symm
  refine Wk.newA (pc' := 10) C d_jdk_2450m2_8 (ty := .byte) rfl (w27 hw) (by decide) (cap := 5) (by decide) (by decide) (k' := 1) rfl (n' := 5) rfl (by decide) (by decide) rfl rfl ?_
  intro a14 h15 ga14 za14 E15 Va14 O15
  have V16 : Wk.Ary Z h15 a14 .byte [(.int (0 : Int32)), (.int (0 : Int32)), (.int (0 : Int32)), (.int (0 : Int32)), (.int (0 : Int32))] := Va14
  refine Wk.astoreN (pc' := 11) C d_jdk_2450m2_10 rfl (Ls' := #[.val (.ref aD), .val (.ref b), .val (.ref a14), .unset]) rfl rfl ?_
  refine Wk.aloadN (pc' := 12) C d_jdk_2450m2_11 rfl rfl rfl ?_
  refine Wk.aloadN (pc' := 13) C d_jdk_2450m2_12 rfl rfl rfl ?_
  refine Wk.iconst (pc' := 14) C d_jdk_2450m2_13 (v := (0 : Int32)) rfl rfl ?_
  refine Wk.aloadN (pc' := 15) C d_jdk_2450m2_14 rfl rfl rfl ?_
  refine Wk.alen (pc' := 16) C d_jdk_2450m2_15 (V.ext E15) (z := (7 : Int32)) rfl rfl ?_
  refine Wk.aloadN (pc' := 17) C d_jdk_2450m2_16 rfl rfl rfl ?_
  refine Wk.callV (pc' := 20) C d_jdk_2450m2_17 (a := aD) (Wk.Con.pays C (Wn := 0) (own_dec0_7 l hw O15 bs b a14 x0 x1 x2 x3 x4 x5 x6 (V.ext E15) t0 t1 t2 t3 t4 t5 t6 V16 za14 (Nat.ne_of_lt (Nat.lt_of_lt_of_le V.lt (Nat.le_of_eq ga14.symm))) (Nat.ne_of_lt (Nat.lt_of_lt_of_le (bs.2.2.2.2.2.2.2.1.ext O0).lt (Nat.le_of_eq ga14.symm)))) (w130 hw) (w83 hw) (by decide) (by decide)) Wk.cleanC ((bs.2.2.2.2.1.ext O0).ext E15) (w126 hw) (Wk.declOf (w127 hw) (w130 hw)) (notFace_of_selects (args := #[]) (mvT C.hZ (w129 hw))) (w129 hw) (w127 hw) (by decide) (argsL := [(.ref b), (.int (0 : Int32)), (.int (7 : Int32)), (.ref a14)]) (st := []) rfl rfl (lenOf pd6 rfl) rfl (Nat.le_of_eq rfl) (k' := 1) rfl (n' := 5) rfl (by decide) (by decide) rfl ?_
  intro r17 h18 Q18 O18
  obtain ⟨rfl, K18, D18⟩ := Q18
  refine Wk.istoreN (pc' := 21) C d_jdk_2450m2_20 (Ls' := #[.val (.ref aD), .val (.ref b), .val (.ref a14), .val (.int (5 : Int32))]) rfl rfl ?_
  refine Wk.iloadN (pc' := 22) C d_jdk_2450m2_21 rfl rfl ?_
  refine Wk.aloadN (pc' := 23) C d_jdk_2450m2_22 rfl rfl rfl ?_
  refine Wk.alen (pc' := 24) C d_jdk_2450m2_23 D18 (z := (5 : Int32)) rfl rfl ?_
  refine Wk.icmp_eq C d_jdk_2450m2_24 (by decide) (pcT := 33) (by decide) (pc' := 27) rfl (fun q19 => ?_) (fun q => absurd q (by decide))
  refine Wk.aloadN (pc' := 34) C d_jdk_2450m2_33 rfl rfl rfl ?_
  have X20 : Ext h0 h18 := Wk.Ext.keep1 (Z := Z) E15 K18 (Nat.le_of_eq ga14.symm)
  exact Wk.retA C rfl rfl d_jdk_2450m2_34 (by decide) (by decide) ⟨_, rfl, X20, D18⟩
set_option maxRecDepth 65536 in
set_option maxHeartbeats 40000000 in
theorem own_decB_8 (l : Launch) {Z : State} {a0 : Array Value} (hw : Ws a0 Z) {h0 : Heap} (O0 : Ext Z.heap h0) {aD aT aI aU : Addr} (bs : BS Z aD aT aI aU) (b : Addr) (x0 x1 x2 x3 x4 x5 x6 x7 : Int32) {u0 u1 u2 u3 u4 u5 u6 u7 : Int32}  (V : Wk.Ary Z h0 b .byte [(.int x0), (.int x1), (.int x2), (.int x3), (.int x4), (.int x5), (.int x6), (.int x7)]) (t0 : Tb x0 u0) (t1 : Tb x1 u1) (t2 : Tb x2 u2) (t3 : Tb x3 u3) (t4 : Tb x4 u4) (t5 : Tb x5 u5) (t6 : Tb x6 u6) (t7 : Tb x7 u7) :
    Wk.Con l Z (⟨"java/util/Base64$Decoder", "decode", "([B)[B"⟩ : MethodName) jdk_2450_method_2_code 4 (some (.array .byte)) ({ frames := 2, cells := 1, slots := 6, locals := 70 } : Room) #[(.ref aD), (.ref b)] h0 (fun v h' => ∃ d : Addr, v = some (.ref d) ∧ Ext h0 h' ∧ Wk.Ary Z h' d .byte [(.int (((dW u0 u1 u2 u3) >>> ((16 : Int32) &&& 31)).toInt8.toInt32)), (.int (((dW u0 u1 u2 u3) >>> ((8 : Int32) &&& 31)).toInt8.toInt32)), (.int ((dW u0 u1 u2 u3).toInt8.toInt32)), (.int (((dW u4 u5 u6 u7) >>> ((16 : Int32) &&& 31)).toInt8.toInt32)), (.int (((dW u4 u5 u6 u7) >>> ((8 : Int32) &&& 31)).toInt8.toInt32)), (.int ((dW u4 u5 u6 u7).toInt8.toInt32))]) := by
  refine Wk.Con.intro (plainFor_of_name pn1) O0 (fun m => ef28 m aD b) ?_
  intro W C
  replace C : Wk.Cx Z W "java/util/Base64$Decoder" "decode" jdk_2450_method_2_code 4 (some (.array .byte)) := C
  refine Wk.aloadN (pc' := 1) C d_jdk_2450m2_0 rfl rfl rfl ?_
  refine Wk.aloadN (pc' := 2) C d_jdk_2450m2_1 rfl rfl rfl ?_
  refine Wk.iconst (pc' := 3) C d_jdk_2450m2_2 (v := (0 : Int32)) rfl rfl ?_
  refine Wk.aloadN (pc' := 4) C d_jdk_2450m2_3 rfl rfl rfl ?_
  refine Wk.alen (pc' := 5) C d_jdk_2450m2_4 V (z := (8 : Int32)) rfl rfl ?_
  refine Wk.callV (pc' := 8) C d_jdk_2450m2_5 (a := aD) (Wk.Con.pays C (Wn := 0) (own_out_8 l hw O0 bs b x0 x1 x2 x3 x4 x5 x6 x7 V t0 t1 t2 t3 t4 t5 t6 t7) (w122 hw) (w83 hw) (by decide) (by decide)) Wk.cleanC (bs.2.2.2.2.1.ext O0) (w118 hw) (Wk.declOf (w119 hw) (w122 hw)) (notFace_of_selects (args := #[]) (mvT C.hZ (w121 hw))) (w121 hw) (w119 hw) (by decide) (argsL := [(.ref b), (.int (0 : Int32)), (.int (8 : Int32))]) (st := []) rfl rfl (lenOf pd5 rfl) rfl (Nat.le_of_eq rfl) (k' := 0) rfl (n' := 0) rfl (by decide) (by decide) rfl ?_
  intro r11 h12 Q12 O12
  obtain ⟨rfl, e13⟩ := Q12
  obtain rfl := e13.symm
  refine Wk.newA (pc' := 10) C d_jdk_2450m2_8 (ty := .byte) rfl (w27 hw) (by decide) (cap := 6) (by decide) (by decide) (k' := 1) rfl (n' := 6) rfl (by decide) (by decide) rfl rfl ?_
  intro a14 h15 ga14 za14 E15 Va14 O15
  have V16 : Wk.Ary Z h15 a14 .byte [(.int (0 : Int32)), (.int (0 : Int32)), (.int (0 : Int32)), (.int (0 : Int32)), (.int (0 : Int32)), (.int (0 : Int32))] := Va14
  refine Wk.astoreN (pc' := 11) C d_jdk_2450m2_10 rfl (Ls' := #[.val (.ref aD), .val (.ref b), .val (.ref a14), .unset]) rfl rfl ?_
  refine Wk.aloadN (pc' := 12) C d_jdk_2450m2_11 rfl rfl rfl ?_
  refine Wk.aloadN (pc' := 13) C d_jdk_2450m2_12 rfl rfl rfl ?_
  refine Wk.iconst (pc' := 14) C d_jdk_2450m2_13 (v := (0 : Int32)) rfl rfl ?_
  refine Wk.aloadN (pc' := 15) C d_jdk_2450m2_14 rfl rfl rfl ?_
  refine Wk.alen (pc' := 16) C d_jdk_2450m2_15 (V.ext E15) (z := (8 : Int32)) rfl rfl ?_
  refine Wk.aloadN (pc' := 17) C d_jdk_2450m2_16 rfl rfl rfl ?_
  refine Wk.callV (pc' := 20) C d_jdk_2450m2_17 (a := aD) (Wk.Con.pays C (Wn := 0) (own_dec0_8 l hw O15 bs b a14 x0 x1 x2 x3 x4 x5 x6 x7 (V.ext E15) t0 t1 t2 t3 t4 t5 t6 t7 V16 za14 (Nat.ne_of_lt (Nat.lt_of_lt_of_le V.lt (Nat.le_of_eq ga14.symm))) (Nat.ne_of_lt (Nat.lt_of_lt_of_le (bs.2.2.2.2.2.2.2.1.ext O0).lt (Nat.le_of_eq ga14.symm)))) (w130 hw) (w83 hw) (by decide) (by decide)) Wk.cleanC ((bs.2.2.2.2.1.ext O0).ext E15) (w126 hw) (Wk.declOf (w127 hw) (w130 hw)) (notFace_of_selects (args := #[]) (mvT C.hZ (w129 hw))) (w129 hw) (w127 hw) (by decide) (argsL := [(.ref b), (.int (0 : Int32)), (.int (8 : Int32)), (.ref a14)]) (st := []) rfl rfl (lenOf pd6 rfl) rfl (Nat.le_of_eq rfl) (k' := 1) rfl (n' := 6) rfl (by decide) (by decide) rfl ?_
  intro r17 h18 Q18 O18
  obtain ⟨rfl, K18, D18⟩ := Q18
  refine Wk.istoreN (pc' := 21) C d_jdk_2450m2_20 (Ls' := #[.val (.ref aD), .val (.ref b), .val (.ref a14), .val (.int (6 : Int32))]) rfl rfl ?_
  refine Wk.iloadN (pc' := 22) C d_jdk_2450m2_21 rfl rfl ?_
  refine Wk.aloadN (pc' := 23) C d_jdk_2450m2_22 rfl rfl rfl ?_
  refine Wk.alen (pc' := 24) C d_jdk_2450m2_23 D18 (z := (6 : Int32)) rfl rfl ?_
  refine Wk.icmp_eq C d_jdk_2450m2_24 (by decide) (pcT := 33) (by decide) (pc' := 27) rfl (fun q19 => ?_) (fun q => absurd q (by decide))
  refine Wk.aloadN (pc' := 34) C d_jdk_2450m2_33 rfl rfl rfl ?_
  have X20 : Ext h0 h18 := Wk.Ext.keep1 (Z := Z) E15 K18 (Nat.le_of_eq ga14.symm)
  exact Wk.retA C rfl rfl d_jdk_2450m2_34 (by decide) (by decide) ⟨_, rfl, X20, D18⟩
set_option maxRecDepth 65536 in
set_option maxHeartbeats 40000000 in
theorem own_decS_0 (l : Launch) {Z : State} {a0 : Array Value} (hw : Ws a0 Z) {h0 : Heap} (O0 : Ext Z.heap h0) (hs : Sets Z) {aD aT aI aU : Addr} (bs : BS Z aD aT aI aU) (x t : Addr) (ds : List Int32)  (F : Str Z h0 x ds) (F1 : Fld Z h0 x "java/lang/String" "value" "[B" (.ref t)) (E : Exa Z h0 t "[B") (V : Wk.Ary Z h0 t .byte [])  :
    Wk.Con l Z (⟨"java/util/Base64$Decoder", "decode", "(Ljava/lang/String;)[B"⟩ : MethodName) jdk_2450_method_3_code 2 (some (.array .byte)) ({ frames := 5, cells := 2, slots := 8, locals := 90 } : Room) #[(.ref aD), (.ref x)] h0 (fun v h' => ∃ d : Addr, v = some (.ref d) ∧ Ext h0 h' ∧ Wk.Ary Z h' d .byte []) := by
  refine Wk.Con.intro (plainFor_of_name pn1) O0 (fun m => ef29 m aD x) ?_
  intro W C
  replace C : Wk.Cx Z W "java/util/Base64$Decoder" "decode" jdk_2450_method_3_code 2 (some (.array .byte)) := C
  refine Wk.aloadN (pc' := 1) C d_jdk_2450m3_0 rfl rfl rfl ?_
  refine Wk.aloadN (pc' := 2) C d_jdk_2450m3_1 rfl rfl rfl ?_
  refine Wk.getS (pc' := 5) C d_jdk_2450m3_2 (w85 hw) Via.refl (bs.2.2.1.ext O0) rfl ?_
  refine Wk.callV (pc' := 8) C d_jdk_2450m3_5 (a := x) (Wk.Con.pays C (Wn := 1) (own_getB l hw O0 hs bs x t ds [] F F1 V (show _ ≤ _ from Nat.le_of_ble_eq_true rfl) E) (w91 hw) (w11 hw) (by decide) (by decide)) Wk.cleanC F.exa (w87 hw) (w88 hw) (notFace_of_selects (args := #[]) (mvT C.hZ (w90 hw))) (w90 hw) (w89 hw) (by decide) (argsL := [(.ref aI)]) (st := [(.ref aD)]) rfl rfl (lenOf pd7 rfl) rfl (Nat.le_of_eq rfl) (k' := 1) rfl (n' := 8) rfl (by decide) (by decide) rfl ?_
  intro r11 h12 Q12 O12
  obtain ⟨b13, rfl, gb13, E12, V12⟩ := Q12
  refine Wk.callV (pc' := 11) C d_jdk_2450m3_8 (a := aD) (Wk.Con.pays C (Wn := 0) (own_decB_0 l hw O12 bs b13  V12 ) (w117 hw) (w83 hw) (by decide) (by decide)) Wk.cleanC ((bs.2.2.2.2.1.ext O0).ext E12) (w113 hw) (w114 hw) (notFace_of_selects (args := #[]) (mvT C.hZ (w116 hw))) (w116 hw) (w115 hw) (by decide) (argsL := [(.ref b13)]) (st := []) rfl rfl (lenOf pd8 rfl) rfl (Nat.le_of_eq rfl) (k' := 2) rfl (n' := 8) rfl (by decide) (by decide) rfl ?_
  intro r14 h15 Q15 O15
  obtain ⟨d16, rfl, E15, D15⟩ := Q15
  have X17 : Ext h0 h15 := Wk.Ext.trans E12 E15
  exact Wk.retA C rfl rfl d_jdk_2450m3_11 (by decide) (by decide) ⟨_, rfl, X17, D15⟩
set_option maxRecDepth 65536 in
set_option maxHeartbeats 40000000 in
theorem own_decS_2 (l : Launch) {Z : State} {a0 : Array Value} (hw : Ws a0 Z) {h0 : Heap} (O0 : Ext Z.heap h0) (hs : Sets Z) {aD aT aI aU : Addr} (bs : BS Z aD aT aI aU) (x t : Addr) (ds : List Int32) (x0 x1 : Int32) {u0 u1 : Int32}  (F : Str Z h0 x ds) (F1 : Fld Z h0 x "java/lang/String" "value" "[B" (.ref t)) (E : Exa Z h0 t "[B") (V : Wk.Ary Z h0 t .byte [(.int x0), (.int x1)]) (t0 : Tb x0 u0) (t1 : Tb x1 u1) :
    Wk.Con l Z (⟨"java/util/Base64$Decoder", "decode", "(Ljava/lang/String;)[B"⟩ : MethodName) jdk_2450_method_3_code 2 (some (.array .byte)) ({ frames := 5, cells := 2, slots := 9, locals := 90 } : Room) #[(.ref aD), (.ref x)] h0 (fun v h' => ∃ d : Addr, v = some (.ref d) ∧ Ext h0 h' ∧ Wk.Ary Z h' d .byte [(.int (((dS2 u0 u1) >>> ((16 : Int32) &&& 31)).toInt8.toInt32))]) := by
  refine Wk.Con.intro (plainFor_of_name pn1) O0 (fun m => ef30 m aD x) ?_
  intro W C
  replace C : Wk.Cx Z W "java/util/Base64$Decoder" "decode" jdk_2450_method_3_code 2 (some (.array .byte)) := C
  refine Wk.aloadN (pc' := 1) C d_jdk_2450m3_0 rfl rfl rfl ?_
  refine Wk.aloadN (pc' := 2) C d_jdk_2450m3_1 rfl rfl rfl ?_
  refine Wk.getS (pc' := 5) C d_jdk_2450m3_2 (w85 hw) Via.refl (bs.2.2.1.ext O0) rfl ?_
  refine Wk.callV (pc' := 8) C d_jdk_2450m3_5 (a := x) (Wk.Con.pays C (Wn := 1) (own_getB l hw O0 hs bs x t ds [(.int x0), (.int x1)] F F1 V (show _ ≤ _ from Nat.le_of_ble_eq_true rfl) E) (w91 hw) (w11 hw) (by decide) (by decide)) Wk.cleanC F.exa (w87 hw) (w88 hw) (notFace_of_selects (args := #[]) (mvT C.hZ (w90 hw))) (w90 hw) (w89 hw) (by decide) (argsL := [(.ref aI)]) (st := [(.ref aD)]) rfl rfl (lenOf pd7 rfl) rfl (Nat.le_of_eq rfl) (k' := 1) rfl (n' := 8) rfl (by decide) (by decide) rfl ?_
  intro r11 h12 Q12 O12
  obtain ⟨b13, rfl, gb13, E12, V12⟩ := Q12
  refine Wk.callV (pc' := 11) C d_jdk_2450m3_8 (a := aD) (Wk.Con.pays C (Wn := 0) (own_decB_2 l hw O12 bs b13 x0 x1 V12 t0 t1) (w117 hw) (w83 hw) (by decide) (by decide)) Wk.cleanC ((bs.2.2.2.2.1.ext O0).ext E12) (w113 hw) (w114 hw) (notFace_of_selects (args := #[]) (mvT C.hZ (w116 hw))) (w116 hw) (w115 hw) (by decide) (argsL := [(.ref b13)]) (st := []) rfl rfl (lenOf pd8 rfl) rfl (Nat.le_of_eq rfl) (k' := 2) rfl (n' := 9) rfl (by decide) (by decide) rfl ?_
  intro r14 h15 Q15 O15
  obtain ⟨d16, rfl, E15, D15⟩ := Q15
  have X17 : Ext h0 h15 := Wk.Ext.trans E12 E15
  exact Wk.retA C rfl rfl d_jdk_2450m3_11 (by decide) (by decide) ⟨_, rfl, X17, D15⟩
set_option maxRecDepth 65536 in
set_option maxHeartbeats 40000000 in
theorem own_decS_3 (l : Launch) {Z : State} {a0 : Array Value} (hw : Ws a0 Z) {h0 : Heap} (O0 : Ext Z.heap h0) (hs : Sets Z) {aD aT aI aU : Addr} (bs : BS Z aD aT aI aU) (x t : Addr) (ds : List Int32) (x0 x1 x2 : Int32) {u0 u1 u2 : Int32}  (F : Str Z h0 x ds) (F1 : Fld Z h0 x "java/lang/String" "value" "[B" (.ref t)) (E : Exa Z h0 t "[B") (V : Wk.Ary Z h0 t .byte [(.int x0), (.int x1), (.int x2)]) (t0 : Tb x0 u0) (t1 : Tb x1 u1) (t2 : Tb x2 u2) :
    Wk.Con l Z (⟨"java/util/Base64$Decoder", "decode", "(Ljava/lang/String;)[B"⟩ : MethodName) jdk_2450_method_3_code 2 (some (.array .byte)) ({ frames := 5, cells := 2, slots := 10, locals := 90 } : Room) #[(.ref aD), (.ref x)] h0 (fun v h' => ∃ d : Addr, v = some (.ref d) ∧ Ext h0 h' ∧ Wk.Ary Z h' d .byte [(.int (((dS3 u0 u1 u2) >>> ((16 : Int32) &&& 31)).toInt8.toInt32)), (.int (((dS3 u0 u1 u2) >>> ((8 : Int32) &&& 31)).toInt8.toInt32))]) := by
  refine Wk.Con.intro (plainFor_of_name pn1) O0 (fun m => ef31 m aD x) ?_
  intro W C
  replace C : Wk.Cx Z W "java/util/Base64$Decoder" "decode" jdk_2450_method_3_code 2 (some (.array .byte)) := C
  refine Wk.aloadN (pc' := 1) C d_jdk_2450m3_0 rfl rfl rfl ?_
  refine Wk.aloadN (pc' := 2) C d_jdk_2450m3_1 rfl rfl rfl ?_
  refine Wk.getS (pc' := 5) C d_jdk_2450m3_2 (w85 hw) Via.refl (bs.2.2.1.ext O0) rfl ?_
  refine Wk.callV (pc' := 8) C d_jdk_2450m3_5 (a := x) (Wk.Con.pays C (Wn := 1) (own_getB l hw O0 hs bs x t ds [(.int x0), (.int x1), (.int x2)] F F1 V (show _ ≤ _ from Nat.le_of_ble_eq_true rfl) E) (w91 hw) (w11 hw) (by decide) (by decide)) Wk.cleanC F.exa (w87 hw) (w88 hw) (notFace_of_selects (args := #[]) (mvT C.hZ (w90 hw))) (w90 hw) (w89 hw) (by decide) (argsL := [(.ref aI)]) (st := [(.ref aD)]) rfl rfl (lenOf pd7 rfl) rfl (Nat.le_of_eq rfl) (k' := 1) rfl (n' := 8) rfl (by decide) (by decide) rfl ?_
  intro r11 h12 Q12 O12
  obtain ⟨b13, rfl, gb13, E12, V12⟩ := Q12
  refine Wk.callV (pc' := 11) C d_jdk_2450m3_8 (a := aD) (Wk.Con.pays C (Wn := 0) (own_decB_3 l hw O12 bs b13 x0 x1 x2 V12 t0 t1 t2) (w117 hw) (w83 hw) (by decide) (by decide)) Wk.cleanC ((bs.2.2.2.2.1.ext O0).ext E12) (w113 hw) (w114 hw) (notFace_of_selects (args := #[]) (mvT C.hZ (w116 hw))) (w116 hw) (w115 hw) (by decide) (argsL := [(.ref b13)]) (st := []) rfl rfl (lenOf pd8 rfl) rfl (Nat.le_of_eq rfl) (k' := 2) rfl (n' := 10) rfl (by decide) (by decide) rfl ?_
  intro r14 h15 Q15 O15
  obtain ⟨d16, rfl, E15, D15⟩ := Q15
  have X17 : Ext h0 h15 := Wk.Ext.trans E12 E15
  exact Wk.retA C rfl rfl d_jdk_2450m3_11 (by decide) (by decide) ⟨_, rfl, X17, D15⟩
set_option maxRecDepth 65536 in
set_option maxHeartbeats 40000000 in
theorem own_decS_4 (l : Launch) {Z : State} {a0 : Array Value} (hw : Ws a0 Z) {h0 : Heap} (O0 : Ext Z.heap h0) (hs : Sets Z) {aD aT aI aU : Addr} (bs : BS Z aD aT aI aU) (x t : Addr) (ds : List Int32) (x0 x1 x2 x3 : Int32) {u0 u1 u2 u3 : Int32}  (F : Str Z h0 x ds) (F1 : Fld Z h0 x "java/lang/String" "value" "[B" (.ref t)) (E : Exa Z h0 t "[B") (V : Wk.Ary Z h0 t .byte [(.int x0), (.int x1), (.int x2), (.int x3)]) (t0 : Tb x0 u0) (t1 : Tb x1 u1) (t2 : Tb x2 u2) (t3 : Tb x3 u3) :
    Wk.Con l Z (⟨"java/util/Base64$Decoder", "decode", "(Ljava/lang/String;)[B"⟩ : MethodName) jdk_2450_method_3_code 2 (some (.array .byte)) ({ frames := 5, cells := 2, slots := 11, locals := 90 } : Room) #[(.ref aD), (.ref x)] h0 (fun v h' => ∃ d : Addr, v = some (.ref d) ∧ Ext h0 h' ∧ Wk.Ary Z h' d .byte [(.int (((dS4 u0 u1 u2 u3) >>> ((16 : Int32) &&& 31)).toInt8.toInt32)), (.int (((dS4 u0 u1 u2 u3) >>> ((8 : Int32) &&& 31)).toInt8.toInt32)), (.int ((dS4 u0 u1 u2 u3).toInt8.toInt32))]) := by
  refine Wk.Con.intro (plainFor_of_name pn1) O0 (fun m => ef32 m aD x) ?_
  intro W C
  replace C : Wk.Cx Z W "java/util/Base64$Decoder" "decode" jdk_2450_method_3_code 2 (some (.array .byte)) := C
  refine Wk.aloadN (pc' := 1) C d_jdk_2450m3_0 rfl rfl rfl ?_
  refine Wk.aloadN (pc' := 2) C d_jdk_2450m3_1 rfl rfl rfl ?_
  refine Wk.getS (pc' := 5) C d_jdk_2450m3_2 (w85 hw) Via.refl (bs.2.2.1.ext O0) rfl ?_
  refine Wk.callV (pc' := 8) C d_jdk_2450m3_5 (a := x) (Wk.Con.pays C (Wn := 1) (own_getB l hw O0 hs bs x t ds [(.int x0), (.int x1), (.int x2), (.int x3)] F F1 V (show _ ≤ _ from Nat.le_of_ble_eq_true rfl) E) (w91 hw) (w11 hw) (by decide) (by decide)) Wk.cleanC F.exa (w87 hw) (w88 hw) (notFace_of_selects (args := #[]) (mvT C.hZ (w90 hw))) (w90 hw) (w89 hw) (by decide) (argsL := [(.ref aI)]) (st := [(.ref aD)]) rfl rfl (lenOf pd7 rfl) rfl (Nat.le_of_eq rfl) (k' := 1) rfl (n' := 8) rfl (by decide) (by decide) rfl ?_
  intro r11 h12 Q12 O12
  obtain ⟨b13, rfl, gb13, E12, V12⟩ := Q12
  refine Wk.callV (pc' := 11) C d_jdk_2450m3_8 (a := aD) (Wk.Con.pays C (Wn := 0) (own_decB_4 l hw O12 bs b13 x0 x1 x2 x3 V12 t0 t1 t2 t3) (w117 hw) (w83 hw) (by decide) (by decide)) Wk.cleanC ((bs.2.2.2.2.1.ext O0).ext E12) (w113 hw) (w114 hw) (notFace_of_selects (args := #[]) (mvT C.hZ (w116 hw))) (w116 hw) (w115 hw) (by decide) (argsL := [(.ref b13)]) (st := []) rfl rfl (lenOf pd8 rfl) rfl (Nat.le_of_eq rfl) (k' := 2) rfl (n' := 11) rfl (by decide) (by decide) rfl ?_
  intro r14 h15 Q15 O15
  obtain ⟨d16, rfl, E15, D15⟩ := Q15
  have X17 : Ext h0 h15 := Wk.Ext.trans E12 E15
  exact Wk.retA C rfl rfl d_jdk_2450m3_11 (by decide) (by decide) ⟨_, rfl, X17, D15⟩
set_option maxRecDepth 65536 in
set_option maxHeartbeats 40000000 in
theorem own_decS_6 (l : Launch) {Z : State} {a0 : Array Value} (hw : Ws a0 Z) {h0 : Heap} (O0 : Ext Z.heap h0) (hs : Sets Z) {aD aT aI aU : Addr} (bs : BS Z aD aT aI aU) (x t : Addr) (ds : List Int32) (x0 x1 x2 x3 x4 x5 : Int32) {u0 u1 u2 u3 u4 u5 : Int32}  (F : Str Z h0 x ds) (F1 : Fld Z h0 x "java/lang/String" "value" "[B" (.ref t)) (E : Exa Z h0 t "[B") (V : Wk.Ary Z h0 t .byte [(.int x0), (.int x1), (.int x2), (.int x3), (.int x4), (.int x5)]) (t0 : Tb x0 u0) (t1 : Tb x1 u1) (t2 : Tb x2 u2) (t3 : Tb x3 u3) (t4 : Tb x4 u4) (t5 : Tb x5 u5) :
    Wk.Con l Z (⟨"java/util/Base64$Decoder", "decode", "(Ljava/lang/String;)[B"⟩ : MethodName) jdk_2450_method_3_code 2 (some (.array .byte)) ({ frames := 5, cells := 2, slots := 12, locals := 90 } : Room) #[(.ref aD), (.ref x)] h0 (fun v h' => ∃ d : Addr, v = some (.ref d) ∧ Ext h0 h' ∧ Wk.Ary Z h' d .byte [(.int (((dW u0 u1 u2 u3) >>> ((16 : Int32) &&& 31)).toInt8.toInt32)), (.int (((dW u0 u1 u2 u3) >>> ((8 : Int32) &&& 31)).toInt8.toInt32)), (.int ((dW u0 u1 u2 u3).toInt8.toInt32)), (.int (((dS2 u4 u5) >>> ((16 : Int32) &&& 31)).toInt8.toInt32))]) := by
  refine Wk.Con.intro (plainFor_of_name pn1) O0 (fun m => ef33 m aD x) ?_
  intro W C
  replace C : Wk.Cx Z W "java/util/Base64$Decoder" "decode" jdk_2450_method_3_code 2 (some (.array .byte)) := C
  refine Wk.aloadN (pc' := 1) C d_jdk_2450m3_0 rfl rfl rfl ?_
  refine Wk.aloadN (pc' := 2) C d_jdk_2450m3_1 rfl rfl rfl ?_
  refine Wk.getS (pc' := 5) C d_jdk_2450m3_2 (w85 hw) Via.refl (bs.2.2.1.ext O0) rfl ?_
  refine Wk.callV (pc' := 8) C d_jdk_2450m3_5 (a := x) (Wk.Con.pays C (Wn := 1) (own_getB l hw O0 hs bs x t ds [(.int x0), (.int x1), (.int x2), (.int x3), (.int x4), (.int x5)] F F1 V (show _ ≤ _ from Nat.le_of_ble_eq_true rfl) E) (w91 hw) (w11 hw) (by decide) (by decide)) Wk.cleanC F.exa (w87 hw) (w88 hw) (notFace_of_selects (args := #[]) (mvT C.hZ (w90 hw))) (w90 hw) (w89 hw) (by decide) (argsL := [(.ref aI)]) (st := [(.ref aD)]) rfl rfl (lenOf pd7 rfl) rfl (Nat.le_of_eq rfl) (k' := 1) rfl (n' := 8) rfl (by decide) (by decide) rfl ?_
  intro r11 h12 Q12 O12
  obtain ⟨b13, rfl, gb13, E12, V12⟩ := Q12
  refine Wk.callV (pc' := 11) C d_jdk_2450m3_8 (a := aD) (Wk.Con.pays C (Wn := 0) (own_decB_6 l hw O12 bs b13 x0 x1 x2 x3 x4 x5 V12 t0 t1 t2 t3 t4 t5) (w117 hw) (w83 hw) (by decide) (by decide)) Wk.cleanC ((bs.2.2.2.2.1.ext O0).ext E12) (w113 hw) (w114 hw) (notFace_of_selects (args := #[]) (mvT C.hZ (w116 hw))) (w116 hw) (w115 hw) (by decide) (argsL := [(.ref b13)]) (st := []) rfl rfl (lenOf pd8 rfl) rfl (Nat.le_of_eq rfl) (k' := 2) rfl (n' := 12) rfl (by decide) (by decide) rfl ?_
  intro r14 h15 Q15 O15
  obtain ⟨d16, rfl, E15, D15⟩ := Q15
  have X17 : Ext h0 h15 := Wk.Ext.trans E12 E15
  exact Wk.retA C rfl rfl d_jdk_2450m3_11 (by decide) (by decide) ⟨_, rfl, X17, D15⟩
set_option maxRecDepth 65536 in
set_option maxHeartbeats 40000000 in
theorem own_decS_7 (l : Launch) {Z : State} {a0 : Array Value} (hw : Ws a0 Z) {h0 : Heap} (O0 : Ext Z.heap h0) (hs : Sets Z) {aD aT aI aU : Addr} (bs : BS Z aD aT aI aU) (x t : Addr) (ds : List Int32) (x0 x1 x2 x3 x4 x5 x6 : Int32) {u0 u1 u2 u3 u4 u5 u6 : Int32}  (F : Str Z h0 x ds) (F1 : Fld Z h0 x "java/lang/String" "value" "[B" (.ref t)) (E : Exa Z h0 t "[B") (V : Wk.Ary Z h0 t .byte [(.int x0), (.int x1), (.int x2), (.int x3), (.int x4), (.int x5), (.int x6)]) (t0 : Tb x0 u0) (t1 : Tb x1 u1) (t2 : Tb x2 u2) (t3 : Tb x3 u3) (t4 : Tb x4 u4) (t5 : Tb x5 u5) (t6 : Tb x6 u6) :
    Wk.Con l Z (⟨"java/util/Base64$Decoder", "decode", "(Ljava/lang/String;)[B"⟩ : MethodName) jdk_2450_method_3_code 2 (some (.array .byte)) ({ frames := 5, cells := 2, slots := 13, locals := 90 } : Room) #[(.ref aD), (.ref x)] h0 (fun v h' => ∃ d : Addr, v = some (.ref d) ∧ Ext h0 h' ∧ Wk.Ary Z h' d .byte [(.int (((dW u0 u1 u2 u3) >>> ((16 : Int32) &&& 31)).toInt8.toInt32)), (.int (((dW u0 u1 u2 u3) >>> ((8 : Int32) &&& 31)).toInt8.toInt32)), (.int ((dW u0 u1 u2 u3).toInt8.toInt32)), (.int (((dS3 u4 u5 u6) >>> ((16 : Int32) &&& 31)).toInt8.toInt32)), (.int (((dS3 u4 u5 u6) >>> ((8 : Int32) &&& 31)).toInt8.toInt32))]) := by
  refine Wk.Con.intro (plainFor_of_name pn1) O0 (fun m => ef34 m aD x) ?_
  intro W C
  replace C : Wk.Cx Z W "java/util/Base64$Decoder" "decode" jdk_2450_method_3_code 2 (some (.array .byte)) := C
  refine Wk.aloadN (pc' := 1) C d_jdk_2450m3_0 rfl rfl rfl ?_
  refine Wk.aloadN (pc' := 2) C d_jdk_2450m3_1 rfl rfl rfl ?_
  refine Wk.getS (pc' := 5) C d_jdk_2450m3_2 (w85 hw) Via.refl (bs.2.2.1.ext O0) rfl ?_
  refine Wk.callV (pc' := 8) C d_jdk_2450m3_5 (a := x) (Wk.Con.pays C (Wn := 1) (own_getB l hw O0 hs bs x t ds [(.int x0), (.int x1), (.int x2), (.int x3), (.int x4), (.int x5), (.int x6)] F F1 V (show _ ≤ _ from Nat.le_of_ble_eq_true rfl) E) (w91 hw) (w11 hw) (by decide) (by decide)) Wk.cleanC F.exa (w87 hw) (w88 hw) (notFace_of_selects (args := #[]) (mvT C.hZ (w90 hw))) (w90 hw) (w89 hw) (by decide) (argsL := [(.ref aI)]) (st := [(.ref aD)]) rfl rfl (lenOf pd7 rfl) rfl (Nat.le_of_eq rfl) (k' := 1) rfl (n' := 8) rfl (by decide) (by decide) rfl ?_
  intro r11 h12 Q12 O12
  obtain ⟨b13, rfl, gb13, E12, V12⟩ := Q12
  refine Wk.callV (pc' := 11) C d_jdk_2450m3_8 (a := aD) (Wk.Con.pays C (Wn := 0) (own_decB_7 l hw O12 bs b13 x0 x1 x2 x3 x4 x5 x6 V12 t0 t1 t2 t3 t4 t5 t6) (w117 hw) (w83 hw) (by decide) (by decide)) Wk.cleanC ((bs.2.2.2.2.1.ext O0).ext E12) (w113 hw) (w114 hw) (notFace_of_selects (args := #[]) (mvT C.hZ (w116 hw))) (w116 hw) (w115 hw) (by decide) (argsL := [(.ref b13)]) (st := []) rfl rfl (lenOf pd8 rfl) rfl (Nat.le_of_eq rfl) (k' := 2) rfl (n' := 13) rfl (by decide) (by decide) rfl ?_
  intro r14 h15 Q15 O15
  obtain ⟨d16, rfl, E15, D15⟩ := Q15
  have X17 : Ext h0 h15 := Wk.Ext.trans E12 E15
  exact Wk.retA C rfl rfl d_jdk_2450m3_11 (by decide) (by decide) ⟨_, rfl, X17, D15⟩
set_option maxRecDepth 65536 in
set_option maxHeartbeats 40000000 in
theorem own_decS_8 (l : Launch) {Z : State} {a0 : Array Value} (hw : Ws a0 Z) {h0 : Heap} (O0 : Ext Z.heap h0) (hs : Sets Z) {aD aT aI aU : Addr} (bs : BS Z aD aT aI aU) (x t : Addr) (ds : List Int32) (x0 x1 x2 x3 x4 x5 x6 x7 : Int32) {u0 u1 u2 u3 u4 u5 u6 u7 : Int32}  (F : Str Z h0 x ds) (F1 : Fld Z h0 x "java/lang/String" "value" "[B" (.ref t)) (E : Exa Z h0 t "[B") (V : Wk.Ary Z h0 t .byte [(.int x0), (.int x1), (.int x2), (.int x3), (.int x4), (.int x5), (.int x6), (.int x7)]) (t0 : Tb x0 u0) (t1 : Tb x1 u1) (t2 : Tb x2 u2) (t3 : Tb x3 u3) (t4 : Tb x4 u4) (t5 : Tb x5 u5) (t6 : Tb x6 u6) (t7 : Tb x7 u7) :
    Wk.Con l Z (⟨"java/util/Base64$Decoder", "decode", "(Ljava/lang/String;)[B"⟩ : MethodName) jdk_2450_method_3_code 2 (some (.array .byte)) ({ frames := 5, cells := 2, slots := 14, locals := 90 } : Room) #[(.ref aD), (.ref x)] h0 (fun v h' => ∃ d : Addr, v = some (.ref d) ∧ Ext h0 h' ∧ Wk.Ary Z h' d .byte [(.int (((dW u0 u1 u2 u3) >>> ((16 : Int32) &&& 31)).toInt8.toInt32)), (.int (((dW u0 u1 u2 u3) >>> ((8 : Int32) &&& 31)).toInt8.toInt32)), (.int ((dW u0 u1 u2 u3).toInt8.toInt32)), (.int (((dW u4 u5 u6 u7) >>> ((16 : Int32) &&& 31)).toInt8.toInt32)), (.int (((dW u4 u5 u6 u7) >>> ((8 : Int32) &&& 31)).toInt8.toInt32)), (.int ((dW u4 u5 u6 u7).toInt8.toInt32))]) := by
  refine Wk.Con.intro (plainFor_of_name pn1) O0 (fun m => ef35 m aD x) ?_
  intro W C
  replace C : Wk.Cx Z W "java/util/Base64$Decoder" "decode" jdk_2450_method_3_code 2 (some (.array .byte)) := C
  refine Wk.aloadN (pc' := 1) C d_jdk_2450m3_0 rfl rfl rfl ?_
  refine Wk.aloadN (pc' := 2) C d_jdk_2450m3_1 rfl rfl rfl ?_
  refine Wk.getS (pc' := 5) C d_jdk_2450m3_2 (w85 hw) Via.refl (bs.2.2.1.ext O0) rfl ?_
  refine Wk.callV (pc' := 8) C d_jdk_2450m3_5 (a := x) (Wk.Con.pays C (Wn := 1) (own_getB l hw O0 hs bs x t ds [(.int x0), (.int x1), (.int x2), (.int x3), (.int x4), (.int x5), (.int x6), (.int x7)] F F1 V (show _ ≤ _ from Nat.le_of_ble_eq_true rfl) E) (w91 hw) (w11 hw) (by decide) (by decide)) Wk.cleanC F.exa (w87 hw) (w88 hw) (notFace_of_selects (args := #[]) (mvT C.hZ (w90 hw))) (w90 hw) (w89 hw) (by decide) (argsL := [(.ref aI)]) (st := [(.ref aD)]) rfl rfl (lenOf pd7 rfl) rfl (Nat.le_of_eq rfl) (k' := 1) rfl (n' := 8) rfl (by decide) (by decide) rfl ?_
  intro r11 h12 Q12 O12
  obtain ⟨b13, rfl, gb13, E12, V12⟩ := Q12
  refine Wk.callV (pc' := 11) C d_jdk_2450m3_8 (a := aD) (Wk.Con.pays C (Wn := 0) (own_decB_8 l hw O12 bs b13 x0 x1 x2 x3 x4 x5 x6 x7 V12 t0 t1 t2 t3 t4 t5 t6 t7) (w117 hw) (w83 hw) (by decide) (by decide)) Wk.cleanC ((bs.2.2.2.2.1.ext O0).ext E12) (w113 hw) (w114 hw) (notFace_of_selects (args := #[]) (mvT C.hZ (w116 hw))) (w116 hw) (w115 hw) (by decide) (argsL := [(.ref b13)]) (st := []) rfl rfl (lenOf pd8 rfl) rfl (Nat.le_of_eq rfl) (k' := 2) rfl (n' := 14) rfl (by decide) (by decide) rfl ?_
  intro r14 h15 Q15 O15
  obtain ⟨d16, rfl, E15, D15⟩ := Q15
  have X17 : Ext h0 h15 := Wk.Ext.trans E12 E15
  exact Wk.retA C rfl rfl d_jdk_2450m3_11 (by decide) (by decide) ⟨_, rfl, X17, D15⟩
set_option maxRecDepth 65536 in
set_option maxHeartbeats 40000000 in
theorem own_len (l : Launch) {Z : State} {a0 : Array Value} (hw : Ws a0 Z) {h0 : Heap} (O0 : Ext Z.heap h0) (hs : Sets Z) (x : Addr) (cs : List Int32) (F : Str Z h0 x cs) :
    Wk.Con l Z (⟨"java/lang/String", "length", "()I"⟩ : MethodName) jdk_42_method_54_code 1 (some .int) ({ frames := 1, cells := 0, slots := 0, locals := 14 } : Room) #[(.ref x)] h0 (fun v h' => v = some (.int (Int32.ofNat cs.length)) ∧ h' = h0) := by
  refine Wk.Con.intro (plainFor_of_name pn0) O0 (fun m => ef36 m x) ?_
  intro W C
  replace C : Wk.Cx Z W "java/lang/String" "length" jdk_42_method_54_code 1 (some .int) := C
  obtain ⟨t, F1, V⟩ := F.2.2.1
  refine Wk.aloadN (pc' := 1) C d_jdk_42m54_0 rfl rfl rfl ?_
  refine Wk.getF (pc' := 4) C d_jdk_42m54_1 (w36 hw) Via.refl F1 rfl ?_
  refine Wk.alen (pc' := 5) C d_jdk_42m54_4 V (z := (Int32.ofNat cs.length)) (by simp) rfl ?_
  refine Wk.aloadN (pc' := 6) C d_jdk_42m54_5 rfl rfl rfl ?_
  refine Wk.callV (pc' := 9) C d_jdk_42m54_6 (a := x) (Wk.Con.pays C (Wn := 1) (own_coder l hw O0 hs x cs F) (w58 hw) (w11 hw) (by decide) (by decide)) Wk.cleanC F.exa (w54 hw) (w55 hw) (notFace_of_selects (args := #[]) (mvT C.hZ (w57 hw))) (w57 hw) (w56 hw) (by decide) (argsL := []) (st := [(.int (Int32.ofNat cs.length))]) rfl rfl (lenOf pd2 rfl) rfl (Nat.le_of_eq rfl) (k' := 0) rfl (n' := 0) rfl (by decide) (by decide) rfl ?_
  intro r11 h12 Q12 O12
  obtain ⟨rfl, e13⟩ := Q12
  obtain rfl := e13.symm
  obtain ⟨v14, hv14⟩ : ∃ z : Int32, (Int32.ofNat cs.length) >>> ((0 : Int32) &&& 31) = z := ⟨_, rfl⟩
  refine Wk.ishr (pc' := 10) C d_jdk_42m54_9 hv14 rfl ?_
  have f15 : v14 = (Int32.ofNat cs.length) := (by have q := F.2.2.2.2; rw [← hv14, own_shr (k := 0) (by decide) (by decide) (by omega)]; simp)
  rw [f15]
  exact Wk.retI C d_jdk_42m54_10 (by decide) (by decide) ⟨rfl, rfl⟩
set_option maxRecDepth 65536 in
set_option maxHeartbeats 40000000 in
theorem own_chkLen (l : Launch) {Z : State} {a0 : Array Value} (hw : Ws a0 Z) {h0 : Heap} (O0 : Ext Z.heap h0) (x y : Int32) (h1 : ¬ y < x) :
    Wk.Con l Z (⟨"java/util/Arrays", "checkLength", "(II)V"⟩ : MethodName) jdk_65_method_131_code 2 none ({ frames := 0, cells := 0, slots := 0, locals := 0 } : Room) #[(.int x), (.int y)] h0 (fun v h' => v = none ∧ h' = h0) := by
  refine Wk.Con.intro (plainFor_of_name pn2) O0 (fun m => ef37 m x y) ?_
  intro W C
  replace C : Wk.Cx Z W "java/util/Arrays" "checkLength" jdk_65_method_131_code 2 none := C
  refine Wk.iloadN (pc' := 1) C d_jdk_65m131_0 rfl rfl ?_
  refine Wk.iloadN (pc' := 2) C d_jdk_65m131_1 rfl rfl ?_
  refine Wk.icmp_ge C d_jdk_65m131_2 (by decide) (pcT := 37) (by decide) (pc' := 5) rfl (fun q11 => ?_) (fun q => absurd q h1)
  exact Wk.retV C d_jdk_65m131_37 (by decide) (by decide) ⟨rfl, rfl⟩
set_option maxRecDepth 65536 in
set_option maxHeartbeats 40000000 in
theorem own_min2 (l : Launch) {Z : State} {a0 : Array Value} (hw : Ws a0 Z) {h0 : Heap} (O0 : Ext Z.heap h0) (x y : Int32) (h1 : ¬ x < y) :
    Wk.Con l Z (⟨"java/lang/Math", "min", "(II)I"⟩ : MethodName) jdk_29_method_69_code 2 (some .int) ({ frames := 0, cells := 0, slots := 0, locals := 0 } : Room) #[(.int x), (.int y)] h0 (fun v h' => v = some (.int y) ∧ h' = h0) := by
  refine Wk.Con.intro (Jvm.Free.JP.mathPlain rfl (by decide +kernel)) O0 (fun m => ef38 m x y) ?_
  intro W C
  replace C : Wk.Cx Z W "java/lang/Math" "min" jdk_29_method_69_code 2 (some .int) := C
  refine Wk.iloadN (pc' := 1) C d_jdk_29m69_0 rfl rfl ?_
  refine Wk.iloadN (pc' := 2) C d_jdk_29m69_1 rfl rfl ?_
  refine Wk.icmp_gt C d_jdk_29m69_2 (by decide) (pcT := 9) (by decide) (pc' := 5) rfl (fun q11 => ?_) (fun q11 => ?_)
  · -- pc 2: taken
    refine Wk.iloadN (pc' := 10) C d_jdk_29m69_9 rfl rfl ?_
    exact Wk.retI C d_jdk_29m69_10 (by decide) (by decide) ⟨rfl, rfl⟩
  · -- pc 2: not taken
    refine Wk.iloadN (pc' := 6) C d_jdk_29m69_5 rfl rfl ?_
    refine Wk.goto C d_jdk_29m69_6 (by decide) (pc' := 10) (by decide) ?_
    have he : x = y := by
      have a := h1
      have b := q11
      rw [Wk.ltI] at a b
      exact Wk.eqI (by omega)
    exact Wk.retI C d_jdk_29m69_10 (by decide) (by decide) ⟨by rw [he], rfl⟩
set_option maxRecDepth 65536 in
set_option maxHeartbeats 40000000 in
theorem own_corB (l : Launch) {Z : State} {a0 : Array Value} (hw : Ws a0 Z) {h0 : Heap} (O0 : Ext Z.heap h0) (t : Addr) (vs : List Value) (s e : Nat) (V : Wk.Ary Z h0 t .byte vs) (hN : vs.length ≤ 16) (hse : s ≤ e) (he : e ≤ vs.length) :
    Wk.Con l Z (⟨"java/util/Arrays", "copyOfRangeByte", "([BII)[B"⟩ : MethodName) jdk_65_method_133_code 5 (some (.array .byte)) ({ frames := 1, cells := 1, slots := 16, locals := 22 } : Room) #[(.ref t), (.int (Int32.ofNat s)), (.int (Int32.ofNat e))] h0 (fun v h' => ∃ b : Addr, v = some (.ref b) ∧ b = h0.size ∧ Ext h0 h' ∧ Wk.Ary Z h' b .byte ((vs.drop s).take (e - s)) ∧ Exa Z h' b "[B") := by
  refine Wk.Con.intro (plainFor_of_name pn2) O0 (fun m => ef39 m t (Int32.ofNat s) (Int32.ofNat e)) ?_
  intro W C
  replace C : Wk.Cx Z W "java/util/Arrays" "copyOfRangeByte" jdk_65_method_133_code 5 (some (.array .byte)) := C
  refine Wk.iloadN (pc' := 1) C d_jdk_65m133_0 rfl rfl ?_
  refine Wk.iloadN (pc' := 2) C d_jdk_65m133_1 rfl rfl ?_
  refine Wk.callS (pc' := 5) C d_jdk_65m133_2 (Wk.Con.pays C (Wn := 0) (own_chkLen l hw O0 (Int32.ofNat s) (Int32.ofNat e) (fun q => absurd ((Wk.lt32 (by omega) (by omega)).mp q) (by omega))) (w148 hw) (w141 hw) (by decide) (by decide)) Wk.cleanC (w146 hw) (w147 hw) (w141 hw) (w148 hw) (by decide) (argsL := [(.int (Int32.ofNat s)), (.int (Int32.ofNat e))]) (st := []) rfl rfl (lenOf pd9 rfl) rfl (Nat.le_of_eq rfl) (k' := 0) rfl (n' := 0) rfl (by decide) (by decide) rfl ?_
  intro r11 h12 Q12 O12
  obtain ⟨rfl, e13⟩ := Q12
  obtain rfl := e13.symm
  refine Wk.iloadN (pc' := 6) C d_jdk_65m133_5 rfl rfl ?_
  refine Wk.iloadN (pc' := 7) C d_jdk_65m133_6 rfl rfl ?_
  obtain ⟨v14, hv14⟩ : ∃ z : Int32, (Int32.ofNat e) - (Int32.ofNat s) = z := ⟨_, rfl⟩
  refine Wk.isub (pc' := 8) C d_jdk_65m133_7 hv14 rfl ?_
  have f15 : v14 = (Int32.ofNat (e - s)) := Wk.sub32 hse (by omega) hv14
  rw [f15]
  refine Wk.istoreN (pc' := 9) C d_jdk_65m133_8 (Ls' := #[.val (.ref t), .val (.int (Int32.ofNat s)), .val (.int (Int32.ofNat e)), .val (.int (Int32.ofNat (e - s))), .unset]) rfl rfl ?_
  refine Wk.iloadN (pc' := 10) C d_jdk_65m133_9 rfl rfl ?_
  refine Wk.newAE (pc' := 12) C d_jdk_65m133_10 (ty := .byte) rfl (w27 hw) (Wk.nn32 (by omega)) (cap := 16) (by rw [(Wk.nat32 (n := e - s) (by omega)).2]; omega) (by decide) (ad := "[B") (by decide) (k' := 1) rfl (n' := 16) rfl (by decide) (by decide) rfl rfl ?_
  intro a16 h17 ga16 za16 E17 Va16 Aa16 O17
  have V18 : Wk.Ary Z h17 a16 .byte (List.replicate (e - s) (.int 0)) := by rw [← (Wk.nat32 (n := e - s) (by omega)).2]; exact Va16
  refine Wk.astore (pc' := 14) C d_jdk_65m133_12 rfl (Ls' := #[.val (.ref t), .val (.int (Int32.ofNat s)), .val (.int (Int32.ofNat e)), .val (.int (Int32.ofNat (e - s))), .val (.ref a16)]) rfl rfl ?_
  refine Wk.aloadN (pc' := 15) C d_jdk_65m133_14 rfl rfl rfl ?_
  refine Wk.iloadN (pc' := 16) C d_jdk_65m133_15 rfl rfl ?_
  refine Wk.aload (pc' := 18) C d_jdk_65m133_16 rfl rfl rfl ?_
  refine Wk.iconst (pc' := 19) C d_jdk_65m133_18 (v := (0 : Int32)) rfl rfl ?_
  refine Wk.aloadN (pc' := 20) C d_jdk_65m133_19 rfl rfl rfl ?_
  refine Wk.alen (pc' := 21) C d_jdk_65m133_20 (V.ext E17) (z := (Int32.ofNat vs.length)) rfl rfl ?_
  refine Wk.iloadN (pc' := 22) C d_jdk_65m133_21 rfl rfl ?_
  obtain ⟨v19, hv19⟩ : ∃ z : Int32, (Int32.ofNat vs.length) - (Int32.ofNat s) = z := ⟨_, rfl⟩
  refine Wk.isub (pc' := 23) C d_jdk_65m133_22 hv19 rfl ?_
  have f20 : v19 = (Int32.ofNat (vs.length - s)) := Wk.sub32 (by omega) (by omega) hv19
  rw [f20]
  refine Wk.iloadN (pc' := 24) C d_jdk_65m133_23 rfl rfl ?_
  refine Wk.callS (pc' := 27) C d_jdk_65m133_24 (Wk.Con.pays C (Wn := 4) (own_min2 l hw O17 (Int32.ofNat (vs.length - s)) (Int32.ofNat (e - s)) (fun q => absurd ((Wk.lt32 (by omega) (by omega)).mp q) (by omega))) (w152 hw) (w151 hw) (by decide) (by decide)) Wk.cleanC (w149 hw) (w150 hw) (w151 hw) (w152 hw) (by decide) (argsL := [(.int (Int32.ofNat (vs.length - s))), (.int (Int32.ofNat (e - s)))]) (st := [(.int (0 : Int32)), (.ref a16), (.int (Int32.ofNat s)), (.ref t)]) rfl rfl (lenOf pd10 rfl) rfl (Nat.le_of_eq rfl) (k' := 1) rfl (n' := 16) rfl (by decide) (by decide) rfl ?_
  intro r21 h22 Q22 O22
  obtain ⟨rfl, e23⟩ := Q22
  obtain rfl := e23.symm
  refine Wk.acopy (pc' := 30) C d_jdk_65m133_27 (w153 hw) (w156 hw) (w154 hw) (w155 hw) (Wn := 0) (V.ext E17) V18 rfl (Wk.nn32 (by omega)) (by decide) (Wk.nn32 (by omega)) (by rw [(Wk.nat32 (n := s) (by omega)).2, (Wk.nat32 (n := e - s) (by omega)).2]; omega) (by rw [(Wk.nat32 (n := e - s) (by omega)).2]; simp) (vd' := ((vs.drop s).take (e - s))) (by rw [(Wk.nat32 (n := s) (by omega)).2, (Wk.nat32 (n := e - s) (by omega)).2]; simp) za16 rfl (by decide) (Nat.le_of_eq rfl) (by decide) rfl ?_
  intro h24 K24 V24 O24
  refine Wk.aload (pc' := 32) C d_jdk_65m133_30 rfl rfl rfl ?_
  have X25 : Ext h0 h24 := Wk.Ext.keep1 (Z := Z) E17 K24 (Nat.le_of_eq ga16.symm)
  exact Wk.retA C rfl rfl d_jdk_65m133_32 (by decide) (by decide) ⟨_, rfl, ga16, X25, V24, (Aa16.keep K24)⟩
set_option maxRecDepth 65536 in
set_option maxHeartbeats 40000000 in
theorem own_cor (l : Launch) {Z : State} {a0 : Array Value} (hw : Ws a0 Z) {h0 : Heap} (O0 : Ext Z.heap h0) (t : Addr) (vs : List Value) (s e : Nat) (V : Wk.Ary Z h0 t .byte vs) (hN : vs.length ≤ 16) (hse : s ≤ e) (he : e ≤ vs.length) (hne : ¬ (s = 0 ∧ e = vs.length)) :
    Wk.Con l Z (⟨"java/util/Arrays", "copyOfRange", "([BII)[B"⟩ : MethodName) jdk_65_method_132_code 3 (some (.array .byte)) ({ frames := 2, cells := 1, slots := 16, locals := 40 } : Room) #[(.ref t), (.int (Int32.ofNat s)), (.int (Int32.ofNat e))] h0 (fun v h' => ∃ b : Addr, v = some (.ref b) ∧ b = h0.size ∧ Ext h0 h' ∧ Wk.Ary Z h' b .byte ((vs.drop s).take (e - s)) ∧ Exa Z h' b "[B") := by
  refine Wk.Con.intro (plainFor_of_name pn2) O0 (fun m => ef40 m t (Int32.ofNat s) (Int32.ofNat e)) ?_
  intro W C
  replace C : Wk.Cx Z W "java/util/Arrays" "copyOfRange" jdk_65_method_132_code 3 (some (.array .byte)) := C
  refine Wk.iloadN (pc' := 1) C d_jdk_65m132_0 rfl rfl ?_
  refine Wk.if_ne C d_jdk_65m132_1 (by decide) (pcT := 10) (by decide) (pc' := 4) rfl (fun q11 => ?_) (fun q11 => ?_)
  · -- pc 1: taken
    refine Wk.aloadN (pc' := 11) C d_jdk_65m132_10 rfl rfl rfl ?_
    refine Wk.iloadN (pc' := 12) C d_jdk_65m132_11 rfl rfl ?_
    refine Wk.iloadN (pc' := 13) C d_jdk_65m132_12 rfl rfl ?_
    refine Wk.callS (pc' := 16) C d_jdk_65m132_13 (Wk.Con.pays C (Wn := 0) (own_corB l hw O0 t vs s e V hN hse he) (w145 hw) (w141 hw) (by decide) (by decide)) Wk.cleanC (w143 hw) (w144 hw) (w141 hw) (w145 hw) (by decide) (argsL := [(.ref t), (.int (Int32.ofNat s)), (.int (Int32.ofNat e))]) (st := []) rfl rfl (lenOf pd11 rfl) rfl (Nat.le_of_eq rfl) (k' := 1) rfl (n' := 16) rfl (by decide) (by decide) rfl ?_
    intro r12 h13 Q13 O13
    obtain ⟨b14, rfl, gb14, E13, V13, D13⟩ := Q13
    exact Wk.retA C rfl rfl d_jdk_65m132_16 (by decide) (by decide) ⟨_, rfl, gb14, E13, V13, D13⟩
  · -- pc 1: not taken
    refine Wk.iloadN (pc' := 5) C d_jdk_65m132_4 rfl rfl ?_
    refine Wk.aloadN (pc' := 6) C d_jdk_65m132_5 rfl rfl rfl ?_
    refine Wk.alen (pc' := 7) C d_jdk_65m132_6 V (z := (Int32.ofNat vs.length)) rfl rfl ?_
    refine Wk.icmp_eq C d_jdk_65m132_7 (by decide) (pcT := 17) (by decide) (pc' := 10) rfl (fun q => absurd ⟨(Wk.eq32 (b := 0) (by omega) (by omega)).mp q11, (Wk.eq32 (by omega) (by omega)).mp q⟩ hne) (fun q15 => ?_)
    refine Wk.aloadN (pc' := 11) C d_jdk_65m132_10 rfl rfl rfl ?_
    refine Wk.iloadN (pc' := 12) C d_jdk_65m132_11 rfl rfl ?_
    refine Wk.iloadN (pc' := 13) C d_jdk_65m132_12 rfl rfl ?_
    refine Wk.callS (pc' := 16) C d_jdk_65m132_13 (Wk.Con.pays C (Wn := 0) (own_corB l hw O0 t vs s e V hN hse he) (w145 hw) (w141 hw) (by decide) (by decide)) Wk.cleanC (w143 hw) (w144 hw) (w141 hw) (w145 hw) (by decide) (argsL := [(.ref t), (.int (Int32.ofNat s)), (.int (Int32.ofNat e))]) (st := []) rfl rfl (lenOf pd11 rfl) rfl (Nat.le_of_eq rfl) (k' := 1) rfl (n' := 16) rfl (by decide) (by decide) rfl ?_
    intro r16 h17 Q17 O17
    obtain ⟨b18, rfl, gb18, E17, V17, D17⟩ := Q17
    exact Wk.retA C rfl rfl d_jdk_65m132_16 (by decide) (by decide) ⟨_, rfl, gb18, E17, V17, D17⟩
set_option maxRecDepth 65536 in
set_option maxHeartbeats 40000000 in
theorem own_strInitB (l : Launch) {Z : State} {a0 : Array Value} (hw : Ws a0 Z) {h0 : Heap} (O0 : Ext Z.heap h0) (a1 a2 : Addr) (v0 c0 : Value) (g1 : Z.heap.size ≤ a1) (E1 : Exa Z h0 a1 "java/lang/String") (F1 : Fld Z h0 a1 "java/lang/String" "value" "[B" v0) (F2 : Fld Z h0 a1 "java/lang/String" "coder" "B" c0) :
    Wk.Con l Z (⟨"java/lang/String", "<init>", "([BB)V"⟩ : MethodName) jdk_42_method_151_code 3 none ({ frames := 1, cells := 0, slots := 0, locals := 12 } : Room) #[(.ref a1), (.ref a2), (.int (0 : Int32))] h0 (fun v h' => v = none ∧ Keep h0 h' [a1] ∧ Exa Z h' a1 "java/lang/String" ∧ Fld Z h' a1 "java/lang/String" "value" "[B" (.ref a2) ∧ Fld Z h' a1 "java/lang/String" "coder" "B" (.int 0)) := by
  refine Wk.Con.intro (plainFor_of_name pn0) O0 (fun m => ef41 m a1 a2) ?_
  intro W C
  replace C : Wk.Cx Z W "java/lang/String" "<init>" jdk_42_method_151_code 3 none := C
  refine Wk.aloadN (pc' := 1) C d_jdk_42m151_0 rfl rfl rfl ?_
  refine Wk.initO (pc' := 4) C d_jdk_42m151_1 (Wn := 0) (w19 hw) (w20 hw) (w21 hw) rfl (by decide) (Nat.le_of_eq rfl) (by decide) rfl ?_
  refine Wk.aloadN (pc' := 5) C d_jdk_42m151_4 rfl rfl rfl ?_
  refine Wk.aloadN (pc' := 6) C d_jdk_42m151_5 rfl rfl rfl ?_
  refine Wk.putF (pc' := 9) C d_jdk_42m151_6 (w36 hw) Via.refl F1 E1 (Or.inr ⟨(w37 hw), rfl, rfl⟩) (w10 hw) (ty := (.array .byte)) (by decide) rfl rfl g1 rfl ?_
  intro h11 W11 O11
  have F12 := F1.same W11
  refine Wk.aloadN (pc' := 10) C d_jdk_42m151_9 rfl rfl rfl ?_
  refine Wk.iloadN (pc' := 11) C d_jdk_42m151_10 rfl rfl ?_
  refine Wk.putF (pc' := 14) C d_jdk_42m151_11 (w34 hw) Via.refl (F2.other W11 (Or.inr (slot_ne (Or.inr (w35 hw)) (Or.inr (w37 hw)) (by decide) (t := .byte) (t' := (.array .byte)) (by decide) (by decide)))) (E1.wr W11) (Or.inr ⟨(w35 hw), rfl, rfl⟩) (w10 hw) (ty := .byte) (by decide) (by decide) (by decide) g1 rfl ?_
  intro h13 W13 O13
  have F14 := (F2.other W11 (Or.inr (slot_ne (Or.inr (w35 hw)) (Or.inr (w37 hw)) (by decide) (t := .byte) (t' := (.array .byte)) (by decide) (by decide)))).same W13
  exact Wk.retV C d_jdk_42m151_14 (by decide) (by decide) ⟨rfl, (((Keep.refl _ _).wr W11 (Or.inl (List.mem_singleton.mpr rfl))).wr W13 (Or.inl (List.mem_singleton.mpr rfl))), ((E1.wr W11).wr W13), (F12.other W13 (Or.inr (slot_ne (Or.inr (w37 hw)) (Or.inr (w35 hw)) (by decide) (t := (.array .byte)) (t' := .byte) (by decide) (by decide)))), F14⟩
set_option maxRecDepth 65536 in
set_option maxHeartbeats 40000000 in
theorem own_isLatin1 (l : Launch) {Z : State} {a0 : Array Value} (hw : Ws a0 Z) {h0 : Heap} (O0 : Ext Z.heap h0) (hs : Sets Z) (a1 : Addr) (cs : List Int32) (F : Str Z h0 a1 cs) :
    Wk.Con l Z (⟨"java/lang/String", "isLatin1", "()Z"⟩ : MethodName) jdk_42_method_154_code 1 (some .boolean) ({ frames := 0, cells := 0, slots := 0, locals := 0 } : Room) #[(.ref a1)] h0 (fun v h' => v = some (.int 1) ∧ h' = h0) := by
  refine Wk.Con.intro (plainFor_of_name pn0) O0 (fun m => ef42 m a1) ?_
  intro W C
  replace C : Wk.Cx Z W "java/lang/String" "isLatin1" jdk_42_method_154_code 1 (some .boolean) := C
  obtain ⟨zc, fm, SC, hzc, -, -⟩ := hs
  refine Wk.getS (pc' := 3) C d_jdk_42m154_0 (w22 hw) Via.refl (SC.ext O0) rfl ?_
  refine Wk.if_eq C d_jdk_42m154_3 (by decide) (pcT := 17) (by decide) (pc' := 6) rfl (fun q => absurd q hzc) (fun q11 => ?_)
  refine Wk.aloadN (pc' := 7) C d_jdk_42m154_6 rfl rfl rfl ?_
  refine Wk.getF (pc' := 10) C d_jdk_42m154_7 (w34 hw) Via.refl F.2.1 rfl ?_
  refine Wk.if_ne C d_jdk_42m154_10 (by decide) (pcT := 17) (by decide) (pc' := 13) rfl (fun q => absurd q (by decide)) (fun q12 => ?_)
  refine Wk.iconst (pc' := 14) C d_jdk_42m154_13 (v := (1 : Int32)) rfl rfl ?_
  refine Wk.goto C d_jdk_42m154_14 (by decide) (pc' := 18) (by decide) ?_
  exact Wk.retNar (ty := .boolean) C (by simp) d_jdk_42m154_18 rfl (by decide) (by decide) ⟨rfl, rfl⟩
set_option maxRecDepth 65536 in
set_option maxHeartbeats 40000000 in
theorem own_cft (l : Launch) {Z : State} {a0 : Array Value} (hw : Ws a0 Z) {h0 : Heap} (O0 : Ext Z.heap h0) (x y n : Int32) (fm : Value) (rf : fm.isRef = true) (h1 : ¬ x < 0) (h2 : ¬ y < x) (h3 : ¬ n < y) :
    Wk.Con l Z (⟨"jdk/internal/util/Preconditions", "checkFromToIndex", "(IIILjava/util/function/BiFunction;)I"⟩ : MethodName) jdk_41_method_12_code 4 (some .int) ({ frames := 0, cells := 0, slots := 0, locals := 0 } : Room) #[(.int x), (.int y), (.int n), fm] h0 (fun v h' => v = some (.int x) ∧ h' = h0) := by
  refine Wk.Con.intro (plainFor_of_name pn3) O0 (fun m => ef43 m x y n fm rf) ?_
  intro W C
  replace C : Wk.Cx Z W "jdk/internal/util/Preconditions" "checkFromToIndex" jdk_41_method_12_code 4 (some .int) := C
  refine Wk.iloadN (pc' := 1) C d_jdk_41m12_0 rfl rfl ?_
  refine Wk.if_lt C d_jdk_41m12_1 (by decide) (pcT := 14) (by decide) (pc' := 4) rfl (fun q => absurd q h1) (fun q11 => ?_)
  refine Wk.iloadN (pc' := 5) C d_jdk_41m12_4 rfl rfl ?_
  refine Wk.iloadN (pc' := 6) C d_jdk_41m12_5 rfl rfl ?_
  refine Wk.icmp_gt C d_jdk_41m12_6 (by decide) (pcT := 14) (by decide) (pc' := 9) rfl (fun q => absurd q h2) (fun q12 => ?_)
  refine Wk.iloadN (pc' := 10) C d_jdk_41m12_9 rfl rfl ?_
  refine Wk.iloadN (pc' := 11) C d_jdk_41m12_10 rfl rfl ?_
  refine Wk.icmp_le C d_jdk_41m12_11 (by decide) (pcT := 22) (by decide) (pc' := 14) rfl (fun q13 => ?_) (fun q => absurd q h3)
  refine Wk.iloadN (pc' := 23) C d_jdk_41m12_22 rfl rfl ?_
  exact Wk.retI C d_jdk_41m12_23 (by decide) (by decide) ⟨rfl, rfl⟩
set_option maxRecDepth 65536 in
set_option maxHeartbeats 40000000 in
theorem own_cbe (l : Launch) {Z : State} {a0 : Array Value} (hw : Ws a0 Z) {h0 : Heap} (O0 : Ext Z.heap h0) (hs : Sets Z) (x y n : Int32) (h1 : ¬ x < 0) (h2 : ¬ y < x) (h3 : ¬ n < y) :
    Wk.Con l Z (⟨"java/lang/String", "checkBoundsBeginEnd", "(III)V"⟩ : MethodName) jdk_42_method_158_code 3 none ({ frames := 1, cells := 0, slots := 0, locals := 15 } : Room) #[(.int x), (.int y), (.int n)] h0 (fun v h' => v = none ∧ h' = h0) := by
  refine Wk.Con.intro (plainFor_of_name pn0) O0 (fun m => ef44 m x y n) ?_
  intro W C
  replace C : Wk.Cx Z W "java/lang/String" "checkBoundsBeginEnd" jdk_42_method_158_code 3 none := C
  obtain ⟨zc, fm, -, -, SF, rf⟩ := hs
  refine Wk.iloadN (pc' := 1) C d_jdk_42m158_0 rfl rfl ?_
  refine Wk.iloadN (pc' := 2) C d_jdk_42m158_1 rfl rfl ?_
  refine Wk.iloadN (pc' := 3) C d_jdk_42m158_2 rfl rfl ?_
  refine Wk.getS (pc' := 6) C d_jdk_42m158_3 (w62 hw) Via.refl (SF.ext O0) rfl ?_
  refine Wk.callS (pc' := 9) C d_jdk_42m158_6 (Wk.Con.pays C (Wn := 0) (own_cft l hw O0 x y n fm rf h1 h2 h3) (w66 hw) (w63 hw) (by decide) (by decide)) Wk.cleanC (w64 hw) (w65 hw) (w63 hw) (w66 hw) (by decide) (argsL := [(.int x), (.int y), (.int n), fm]) (st := []) rfl rfl (lenOf pd12 rfl) rfl (Nat.le_of_eq rfl) (k' := 0) rfl (n' := 0) rfl (by decide) (by decide) rfl ?_
  intro r11 h12 Q12 O12
  obtain ⟨rfl, e13⟩ := Q12
  obtain rfl := e13.symm
  refine Wk.pop (pc' := 10) C d_jdk_42m158_9 rfl rfl ?_
  exact Wk.retV C d_jdk_42m158_10 (by decide) (by decide) ⟨rfl, rfl⟩
set_option maxRecDepth 65536 in
set_option maxHeartbeats 40000000 in
theorem own_newS (l : Launch) {Z : State} {a0 : Array Value} (hw : Ws a0 Z) (hE : EW Z a0 EL) {h0 : Heap} (O0 : Ext Z.heap h0) (t : Addr) (cs : List Int32) (s mm : Nat) (V : Wk.Ary Z h0 t .byte ((cs.map fun c => c.toInt8.toInt32).map Value.int)) (hp : ∀ c ∈ cs, ¬ c < 0 ∧ ¬ (255 : Int32) < c) (hl4 : cs.length ≤ 14) (he : s + mm ≤ cs.length) (hne : ¬ (s = 0 ∧ s + mm = cs.length)) :
    Ww.Con l Z EL (⟨"java/lang/StringLatin1", "newString", "([BII)Ljava/lang/String;"⟩ : MethodName) jdk_43_method_47_code 3 (some (.object "java/lang/String")) ({ frames := 3, cells := 4, slots := 24, locals := 60 } : Room) #[(.ref t), (.int (Int32.ofNat s)), (.int (Int32.ofNat mm))] h0 (fun v h' => ∃ x' : Addr, v = some (.ref x') ∧ Ext h0 h' ∧ (∃ t : Addr, Str Z h' x' ((cs.drop s).take mm) ∧ Fld Z h' x' "java/lang/String" "value" "[B" (.ref t) ∧ Wk.Ary Z h' t .byte ((((cs.drop s).take mm).map fun c => c.toInt8.toInt32).map Value.int) ∧ Exa Z h' t "[B")) := by
  refine Ww.Con.intro (plainFor_of_name pn4) O0 (fun m => ef45 m t (Int32.ofNat s) (Int32.ofNat mm)) ?_
  intro W C
  replace C : Wk.Cx Z W "java/lang/StringLatin1" "newString" jdk_43_method_47_code 3 (some (.object "java/lang/String")) := C
  refine Ww.iloadN (pc' := 1) C d_jdk_43m47_0 rfl rfl ?_
  refine Ww.if_ne C d_jdk_43m47_1 (by decide) (pcT := 7) (by decide) (pc' := 4) rfl (fun q11 => ?_) (fun q11 => ?_)
  · -- pc 1: taken
    refine Ww.newO (pc' := 10) C d_jdk_43m47_7 (w138 hw) (w10 hw) (w11 hw) (k' := 1) rfl (n' := 4) rfl (by decide) (by decide) rfl ?_
    intro a12 h13 ga12 za12 E13 Aa12 Da12 Ua12 O13
    have F14 : Fld Z h13 a12 "java/lang/String" "coder" "B" (.int (0 : Int32)) := Da12 (Or.inr (w35 hw)) (ty := .byte) (by decide)
    have F15 : Fld Z h13 a12 "java/lang/String" "value" "[B" .null := Da12 (Or.inr (w37 hw)) (ty := (.array .byte)) (by decide)
    refine Ww.dup (pc' := 11) C d_jdk_43m47_10 rfl rfl ?_
    refine Ww.aloadN (pc' := 12) C d_jdk_43m47_11 rfl rfl rfl ?_
    refine Ww.iloadN (pc' := 13) C d_jdk_43m47_12 rfl rfl ?_
    refine Ww.iloadN (pc' := 14) C d_jdk_43m47_13 rfl rfl ?_
    refine Ww.iloadN (pc' := 15) C d_jdk_43m47_14 rfl rfl ?_
    obtain ⟨v16, hv16⟩ : ∃ z : Int32, (Int32.ofNat s) + (Int32.ofNat mm) = z := ⟨_, rfl⟩
    refine Ww.iadd (pc' := 16) C d_jdk_43m47_15 hv16 rfl ?_
    have f17 : v16 = (Int32.ofNat (s + mm)) := Wk.add32 (by omega) hv16
    rw [f17]
    refine Ww.callS (pc' := 19) C d_jdk_43m47_16 (fun vm0 C => (Wk.Con.pays C (Wn := 2) (own_cor l hw O13 t ((cs.map fun c => c.toInt8.toInt32).map Value.int) s (s + mm) (V.ext E13) (by simp; omega) (by omega) (by simp; omega) (by simp only [List.length_map]; exact hne)) (w142 hw) (w141 hw) (by decide) (by decide))) Wk.cleanC (fun v h' q => by obtain ⟨_, -, -, e, -⟩ := q; exact Or.inr (Or.inl e)) (w139 hw) (w140 hw) (w141 hw) (w142 hw) (by decide) (argsL := [(.ref t), (.int (Int32.ofNat s)), (.int (Int32.ofNat (s + mm)))]) (st := [(.ref a12), (.ref a12)]) rfl rfl (lenOf pd11 rfl) rfl (Nat.le_of_eq rfl) (k' := 2) rfl (n' := 20) rfl (by decide) (by decide) rfl ?_
    intro r18 h19 Q19 O19
    obtain ⟨b20, rfl, gb20, E19, V19, D19⟩ := Q19
    refine Ww.iconst (pc' := 20) C d_jdk_43m47_19 (v := (0 : Int32)) rfl rfl ?_
    refine Ww.callI (pc' := 23) C d_jdk_43m47_20 (a := a12) (fun vm0 C => (Wk.Con.pays C (Wn := 1) (own_strInitB l hw O19 a12 b20 _ _ za12 (Aa12.ext E19) (F15.ext E19) (F14.ext E19)) (w159 hw) (w11 hw) (by decide) (by decide))) Wk.cleanC (fun v h' q => Or.inr (Or.inr ⟨[a12], allS (List.mem_of_getElem? (i := 0) rfl) all0, q.2.1⟩)) rfl (w157 hw) (w158 hw) (w159 hw) (by decide) (argsL := [(.ref b20), (.int (0 : Int32))]) (st := [(.ref a12)]) rfl rfl (lenOf pd13 rfl) rfl (Nat.le_of_eq rfl) (k' := 2) rfl (n' := 20) rfl (by decide) (by decide) rfl ?_
    intro r21 h22 Q22 O22
    obtain ⟨rfl, Kh22, Ah22, Vh22, Ch22⟩ := Q22
    have X23 : Ext h0 h19 := Wk.Ext.trans E13 E19
    have X24 : Ext h0 h22 := Wk.Ext.keep1 (Z := Z) X23 Kh22 (Nat.le_of_eq ga12.symm)
    have em : s + mm - s = mm := by
      omega
    have V9 := (V19.keep Kh22 (ninS (Ne.symm (Nat.ne_of_lt (Nat.lt_of_lt_of_le Aa12.lt (Nat.le_of_eq gb20.symm)))) nin0))
    rw [em, ← List.map_drop, ← List.map_drop, ← List.map_take, ← List.map_take] at V9
    exact Ww.retA C hE rfl rfl d_jdk_43m47_23 (by decide) (by decide) ⟨_, rfl, X24, ⟨_, ⟨Ah22, Ch22, ⟨_, Vh22, V9⟩, (fun c hc => hp c (List.mem_of_mem_drop (List.mem_of_mem_take hc))), by simp; omega⟩, Vh22, V9, (D19.keep Kh22)⟩⟩
  · -- pc 1: not taken
    refine Ww.ldcSE (pc' := 6) C d_jdk_43m47_4 (w76 hw) (wS hw) hE (by decide) (vs := []) ⟨by decide, by decide⟩ (z := (0 : Int32)) (by decide) (by decide) (nb := 0) (by decide) (by decide) (k' := 2) rfl (n' := 4) rfl (by decide) (by decide) rfl ?_
    intro a25 b26 h27 E27 A27 C27 V27 B27 D27 N27 O27
    have m0 : mm = 0 := by
      exact (Wk.eq32 (b := 0) (by omega) (by omega)).mp q11
    exact Ww.retA C hE rfl rfl d_jdk_43m47_6 (by decide) (by decide) ⟨_, rfl, E27, by rw [m0, List.take_zero]; exact ⟨_, ⟨A27, C27, ⟨_, V27, B27⟩, (fun _ h => nomatch h), Nat.zero_le _⟩, V27, B27, D27⟩⟩
set_option maxRecDepth 65536 in
set_option maxHeartbeats 40000000 in
theorem own_substring (l : Launch) {Z : State} {a0 : Array Value} (hw : Ws a0 Z) (hE : EW Z a0 EL) {h0 : Heap} (O0 : Ext Z.heap h0) (hs : Sets Z) (x : Addr) (cs : List Int32) (s e : Nat) (F : Str Z h0 x cs) (hl4 : cs.length ≤ 14) (hse : s ≤ e) (he : e ≤ cs.length) (hx : ¬ (s = 0 ∧ e = cs.length)) :
    Ww.Con l Z EL (⟨"java/lang/String", "substring", "(II)Ljava/lang/String;"⟩ : MethodName) jdk_42_method_92_code 5 (some (.object "java/lang/String")) ({ frames := 4, cells := 4, slots := 24, locals := 80 } : Room) #[(.ref x), (.int (Int32.ofNat s)), (.int (Int32.ofNat e))] h0 (fun v h' => ∃ x' : Addr, v = some (.ref x') ∧ Ext h0 h' ∧ (∃ t : Addr, Str Z h' x' ((cs.drop s).take (e - s)) ∧ Fld Z h' x' "java/lang/String" "value" "[B" (.ref t) ∧ Wk.Ary Z h' t .byte ((((cs.drop s).take (e - s)).map fun c => c.toInt8.toInt32).map Value.int) ∧ Exa Z h' t "[B")) := by
  refine Ww.Con.intro (plainFor_of_name pn0) O0 (fun m => ef46 m x (Int32.ofNat s) (Int32.ofNat e)) ?_
  intro W C
  replace C : Wk.Cx Z W "java/lang/String" "substring" jdk_42_method_92_code 5 (some (.object "java/lang/String")) := C
  obtain ⟨t, F1, V⟩ := F.2.2.1
  refine Ww.aloadN (pc' := 1) C d_jdk_42m92_0 rfl rfl rfl ?_
  refine Ww.callV (pc' := 4) C d_jdk_42m92_1 (a := x) (fun vm0 C => (Wk.Con.pays C (Wn := 0) (own_len l hw O0 hs x cs F) (w53 hw) (w11 hw) (by decide) (by decide))) Wk.cleanC (fun v h' q => Or.inl q.2) F.exa (w49 hw) (w50 hw) (fun vm0 hZ0 => notFace_of_selects (args := #[]) (mvT (s := W.s.setVm vm0) hZ0 (w52 hw))) (w52 hw) (w51 hw) (by decide) (argsL := []) (st := []) rfl rfl (lenOf pd14 rfl) rfl (Nat.le_of_eq rfl) (k' := 0) rfl (n' := 0) rfl (by decide) (by decide) rfl ?_
  intro r11 h12 Q12 O12
  obtain ⟨rfl, e13⟩ := Q12
  obtain rfl := e13.symm
  refine Ww.istoreN (pc' := 5) C d_jdk_42m92_4 (Ls' := #[.val (.ref x), .val (.int (Int32.ofNat s)), .val (.int (Int32.ofNat e)), .val (.int (Int32.ofNat cs.length)), .unset]) rfl rfl ?_
  refine Ww.iloadN (pc' := 6) C d_jdk_42m92_5 rfl rfl ?_
  refine Ww.iloadN (pc' := 7) C d_jdk_42m92_6 rfl rfl ?_
  refine Ww.iloadN (pc' := 8) C d_jdk_42m92_7 rfl rfl ?_
  refine Ww.callS (pc' := 11) C d_jdk_42m92_8 (fun vm0 C => (Wk.Con.pays C (Wn := 0) (own_cbe l hw O0 hs (Int32.ofNat s) (Int32.ofNat e) (Int32.ofNat cs.length) (Wk.nn32 (by omega)) (fun q => absurd ((Wk.lt32 (by omega) (by omega)).mp q) (by omega)) (fun q => absurd ((Wk.lt32 (by omega) (by omega)).mp q) (by omega))) (w61 hw) (w11 hw) (by decide) (by decide))) Wk.cleanC (fun v h' q => Or.inl q.2) (w59 hw) (w60 hw) (w11 hw) (w61 hw) (by decide) (argsL := [(.int (Int32.ofNat s)), (.int (Int32.ofNat e)), (.int (Int32.ofNat cs.length))]) (st := []) rfl rfl (lenOf pd15 rfl) rfl (Nat.le_of_eq rfl) (k' := 0) rfl (n' := 0) rfl (by decide) (by decide) rfl ?_
  intro r14 h15 Q15 O15
  obtain ⟨rfl, e16⟩ := Q15
  obtain rfl := e16.symm
  refine Ww.iloadN (pc' := 12) C d_jdk_42m92_11 rfl rfl ?_
  refine Ww.if_ne C d_jdk_42m92_12 (by decide) (pcT := 22) (by decide) (pc' := 15) rfl (fun q17 => ?_) (fun q17 => ?_)
  · -- pc 12: taken
    refine Ww.iloadN (pc' := 23) C d_jdk_42m92_22 rfl rfl ?_
    refine Ww.iloadN (pc' := 24) C d_jdk_42m92_23 rfl rfl ?_
    obtain ⟨v18, hv18⟩ : ∃ z : Int32, (Int32.ofNat e) - (Int32.ofNat s) = z := ⟨_, rfl⟩
    refine Ww.isub (pc' := 25) C d_jdk_42m92_24 hv18 rfl ?_
    have f19 : v18 = (Int32.ofNat (e - s)) := Wk.sub32 hse (by omega) hv18
    rw [f19]
    refine Ww.istore (pc' := 27) C d_jdk_42m92_25 (Ls' := #[.val (.ref x), .val (.int (Int32.ofNat s)), .val (.int (Int32.ofNat e)), .val (.int (Int32.ofNat cs.length)), .val (.int (Int32.ofNat (e - s)))]) rfl rfl ?_
    have hne : ¬ (s = 0 ∧ s + (e - s) = cs.length) := fun z => hx ⟨z.1, by omega⟩
    refine Ww.aloadN (pc' := 28) C d_jdk_42m92_27 rfl rfl rfl ?_
    refine Ww.callV (pc' := 31) C d_jdk_42m92_28 (a := x) (fun vm0 C => (Wk.Con.pays C (Wn := 0) (own_isLatin1 l hw O0 hs x cs F) (w71 hw) (w11 hw) (by decide) (by decide))) Wk.cleanC (fun v h' q => Or.inl q.2) F.exa (w67 hw) (w68 hw) (fun vm0 hZ0 => notFace_of_selects (args := #[]) (mvT (s := W.s.setVm vm0) hZ0 (w70 hw))) (w70 hw) (w69 hw) (by decide) (argsL := []) (st := []) rfl rfl (lenOf pd16 rfl) rfl (Nat.le_of_eq rfl) (k' := 0) rfl (n' := 0) rfl (by decide) (by decide) rfl ?_
    intro r20 h21 Q21 O21
    obtain ⟨rfl, e22⟩ := Q21
    obtain rfl := e22.symm
    refine Ww.if_eq C d_jdk_42m92_31 (by decide) (pcT := 47) (by decide) (pc' := 34) rfl (fun q => absurd q (by decide)) (fun q23 => ?_)
    refine Ww.aloadN (pc' := 35) C d_jdk_42m92_34 rfl rfl rfl ?_
    refine Ww.getF (pc' := 38) C d_jdk_42m92_35 (w36 hw) Via.refl F1 rfl ?_
    refine Ww.iloadN (pc' := 39) C d_jdk_42m92_38 rfl rfl ?_
    refine Ww.iload (pc' := 41) C d_jdk_42m92_39 rfl rfl ?_
    refine Ww.callSS (pc' := 44) C d_jdk_42m92_41 (Ww.Con.pays hE (Wn := 0) (own_newS l hw hE O0 t cs s (e - s) V F.2.2.2.1 hl4 (by omega) hne) (w75 hw) (w74 hw) (by decide) (by decide)) Wk.cleanC (w72 hw) (w73 hw) (w74 hw) (w75 hw) (by decide) (argsL := [(.ref t), (.int (Int32.ofNat s)), (.int (Int32.ofNat (e - s)))]) (st := []) rfl rfl (lenOf pd17 rfl) rfl (Nat.le_of_eq rfl) (k' := 4) rfl (n' := 24) rfl (by decide) (by decide) rfl ?_
    intro r24 h25 Q25 O25
    obtain ⟨x26, rfl, E25, t27, S25, F25, V25, D25⟩ := Q25
    refine Ww.goto C d_jdk_42m92_44 (by decide) (pc' := 57) (by decide) ?_
    exact Ww.retA C hE rfl rfl d_jdk_42m92_57 (by decide) (by decide) ⟨_, rfl, E25, ⟨_, S25, F25, V25, D25⟩⟩
  · -- pc 12: not taken
    refine Ww.iloadN (pc' := 16) C d_jdk_42m92_15 rfl rfl ?_
    refine Ww.iloadN (pc' := 17) C d_jdk_42m92_16 rfl rfl ?_
    refine Ww.icmp_ne C d_jdk_42m92_17 (by decide) (pcT := 22) (by decide) (pc' := 20) rfl (fun q28 => ?_) (fun q => absurd ⟨(Wk.eq32 (b := 0) (by omega) (by omega)).mp q17, (Wk.eq32 (by omega) (by omega)).mp q⟩ hx)
    refine Ww.iloadN (pc' := 23) C d_jdk_42m92_22 rfl rfl ?_
    refine Ww.iloadN (pc' := 24) C d_jdk_42m92_23 rfl rfl ?_
    obtain ⟨v29, hv29⟩ : ∃ z : Int32, (Int32.ofNat e) - (Int32.ofNat s) = z := ⟨_, rfl⟩
    refine Ww.isub (pc' := 25) C d_jdk_42m92_24 hv29 rfl ?_
    have f30 : v29 = (Int32.ofNat (e - s)) := Wk.sub32 hse (by omega) hv29
    rw [f30]
    refine Ww.istore (pc' := 27) C d_jdk_42m92_25 (Ls' := #[.val (.ref x), .val (.int (Int32.ofNat s)), .val (.int (Int32.ofNat e)), .val (.int (Int32.ofNat cs.length)), .val (.int (Int32.ofNat (e - s)))]) rfl rfl ?_
    have hne : ¬ (s = 0 ∧ s + (e - s) = cs.length) := fun z => hx ⟨z.1, by omega⟩
    refine Ww.aloadN (pc' := 28) C d_jdk_42m92_27 rfl rfl rfl ?_
    refine Ww.callV (pc' := 31) C d_jdk_42m92_28 (a := x) (fun vm0 C => (Wk.Con.pays C (Wn := 0) (own_isLatin1 l hw O0 hs x cs F) (w71 hw) (w11 hw) (by decide) (by decide))) Wk.cleanC (fun v h' q => Or.inl q.2) F.exa (w67 hw) (w68 hw) (fun vm0 hZ0 => notFace_of_selects (args := #[]) (mvT (s := W.s.setVm vm0) hZ0 (w70 hw))) (w70 hw) (w69 hw) (by decide) (argsL := []) (st := []) rfl rfl (lenOf pd16 rfl) rfl (Nat.le_of_eq rfl) (k' := 0) rfl (n' := 0) rfl (by decide) (by decide) rfl ?_
    intro r31 h32 Q32 O32
    obtain ⟨rfl, e33⟩ := Q32
    obtain rfl := e33.symm
    refine Ww.if_eq C d_jdk_42m92_31 (by decide) (pcT := 47) (by decide) (pc' := 34) rfl (fun q => absurd q (by decide)) (fun q34 => ?_)
    refine Ww.aloadN (pc' := 35) C d_jdk_42m92_34 rfl rfl rfl ?_
    refine Ww.getF (pc' := 38) C d_jdk_42m92_35 (w36 hw) Via.refl F1 rfl ?_
    refine Ww.iloadN (pc' := 39) C d_jdk_42m92_38 rfl rfl ?_
    refine Ww.iload (pc' := 41) C d_jdk_42m92_39 rfl rfl ?_
    refine Ww.callSS (pc' := 44) C d_jdk_42m92_41 (Ww.Con.pays hE (Wn := 0) (own_newS l hw hE O0 t cs s (e - s) V F.2.2.2.1 hl4 (by omega) hne) (w75 hw) (w74 hw) (by decide) (by decide)) Wk.cleanC (w72 hw) (w73 hw) (w74 hw) (w75 hw) (by decide) (argsL := [(.ref t), (.int (Int32.ofNat s)), (.int (Int32.ofNat (e - s)))]) (st := []) rfl rfl (lenOf pd17 rfl) rfl (Nat.le_of_eq rfl) (k' := 4) rfl (n' := 24) rfl (by decide) (by decide) rfl ?_
    intro r35 h36 Q36 O36
    obtain ⟨x37, rfl, E36, t38, S36, F36, V36, D36⟩ := Q36
    refine Ww.goto C d_jdk_42m92_44 (by decide) (pc' := 57) (by decide) ?_
    exact Ww.retA C hE rfl rfl d_jdk_42m92_57 (by decide) (by decide) ⟨_, rfl, E36, ⟨_, S36, F36, V36, D36⟩⟩
set_option maxRecDepth 65536 in
set_option maxHeartbeats 40000000 in
theorem own_bd_0 (l : Launch) {Z : State} {a0 : Array Value} (hw : Ws a0 Z) (hE : EW Z a0 EL) {h0 : Heap} (O0 : Ext Z.heap h0) (hs : Sets Z) {aD aT aI aU : Addr} (bs : BS Z aD aT aI aU) (x : Addr) (cs : List Int32) (s : Nat) (F : Str Z h0 x cs) (hl14 : cs.length = 14) (hs3 : s ≤ 3)  :
    Ww.Con l Z EL (⟨"com/example/scopegate/scopegate/token/Base64Url", "decode", "(Ljava/lang/String;II)[B"⟩ : MethodName) prog_15_method_4_code 3 (some (.array .byte)) ({ frames := 6, cells := 8, slots := 48, locals := 110 } : Room) #[(.ref x), (.int (Int32.ofNat s)), (.int (Int32.ofNat (s + 0)))] h0 (fun v h' => ∃ d : Addr, v = some (.ref d) ∧ Ext h0 h' ∧ Wk.Ary Z h' d .byte []) := by
  refine Ww.Con.intro (plainFor_of_name pn5) O0 (fun m => ef47 m x (Int32.ofNat s) (Int32.ofNat (s + 0))) ?_
  intro W C
  replace C : Wk.Cx Z W "com/example/scopegate/scopegate/token/Base64Url" "decode" prog_15_method_4_code 3 (some (.array .byte)) := C
  refine Ww.getS (pc' := 3) C d_prog_15m4_0 (w42 hw) Via.refl (bs.1.ext O0) rfl ?_
  refine Ww.aloadN (pc' := 4) C d_prog_15m4_3 rfl rfl rfl ?_
  refine Ww.iloadN (pc' := 5) C d_prog_15m4_4 rfl rfl ?_
  refine Ww.iloadN (pc' := 6) C d_prog_15m4_5 rfl rfl ?_
  refine Ww.callVS (pc' := 9) C d_prog_15m4_6 (a := x) (Ww.Con.pays hE (Wn := 1) (own_substring l hw hE O0 hs x cs s (s + 0) F (by omega) (by omega) (by omega) (by omega)) (w48 hw) (w11 hw) (by decide) (by decide)) Wk.cleanC F.exa (w44 hw) (w45 hw) (fun vm0 hZ0 => notFace_of_selects (args := #[]) (mvT (s := W.s.setVm vm0) hZ0 (w47 hw))) (w47 hw) (w46 hw) (by decide) (argsL := [(.int (Int32.ofNat s)), (.int (Int32.ofNat (s + 0)))]) (st := [(.ref aD)]) rfl rfl (lenOf pd18 rfl) rfl (Nat.le_of_eq rfl) (k' := 4) rfl (n' := 24) rfl (by decide) (by decide) rfl ?_
  intro r11 h12 Q12 O12
  obtain ⟨x13, rfl, E12, t14, S12, F12, V12, D12⟩ := Q12
  have V15 : Wk.Ary Z h12 t14 .byte [] := by
    have q := V12
    rw [show s + 0 - s = 0 by omega, List.take_zero] at q
    exact q
  refine Ww.callV (pc' := 12) C d_prog_15m4_9 (a := aD) (fun vm0 C => (Wk.Con.pays C (Wn := 0) (own_decS_0 l hw O12 hs bs x13 t14 _  S12 F12 D12 V15 ) (w84 hw) (w83 hw) (by decide) (by decide))) Wk.cleanC (fun v h' q => by obtain ⟨_, -, e, -⟩ := q; exact Or.inr (Or.inl e)) ((bs.2.2.2.2.1.ext O0).ext E12) (w79 hw) (w80 hw) (fun vm0 hZ0 => notFace_of_selects (args := #[]) (mvT (s := W.s.setVm vm0) hZ0 (w82 hw))) (w82 hw) (w81 hw) (by decide) (argsL := [(.ref x13)]) (st := []) rfl rfl (lenOf pd19 rfl) rfl (Nat.le_of_eq rfl) (k' := 6) rfl (n' := 32) rfl (by decide) (by decide) rfl ?_
  intro r16 h17 Q17 O17
  obtain ⟨d18, rfl, E17, D17⟩ := Q17
  have X19 : Ext h0 h17 := Wk.Ext.trans E12 E17
  exact Ww.retA C hE rfl rfl d_prog_15m4_12 (by decide) (by decide) ⟨_, rfl, X19, D17⟩
set_option maxRecDepth 65536 in
set_option maxHeartbeats 40000000 in
theorem own_bd_2 (l : Launch) {Z : State} {a0 : Array Value} (hw : Ws a0 Z) (hE : EW Z a0 EL) {h0 : Heap} (O0 : Ext Z.heap h0) (hs : Sets Z) {aD aT aI aU : Addr} (bs : BS Z aD aT aI aU) (x : Addr) (cs : List Int32) (s : Nat) {d0 d1 u0 u1 : Int32} (F : Str Z h0 x cs) (hl14 : cs.length = 14) (hs3 : s ≤ 3) (hd : (cs.drop s).take 2 = [d0, d1]) (t0 : Tb (d0.toInt8.toInt32) u0) (t1 : Tb (d1.toInt8.toInt32) u1) :
    Ww.Con l Z EL (⟨"com/example/scopegate/scopegate/token/Base64Url", "decode", "(Ljava/lang/String;II)[B"⟩ : MethodName) prog_15_method_4_code 3 (some (.array .byte)) ({ frames := 6, cells := 8, slots := 48, locals := 110 } : Room) #[(.ref x), (.int (Int32.ofNat s)), (.int (Int32.ofNat (s + 2)))] h0 (fun v h' => ∃ d : Addr, v = some (.ref d) ∧ Ext h0 h' ∧ Wk.Ary Z h' d .byte [(.int (((dS2 u0 u1) >>> ((16 : Int32) &&& 31)).toInt8.toInt32))]) := by
  refine Ww.Con.intro (plainFor_of_name pn5) O0 (fun m => ef48 m x (Int32.ofNat s) (Int32.ofNat (s + 2))) ?_
  intro W C
  replace C : Wk.Cx Z W "com/example/scopegate/scopegate/token/Base64Url" "decode" prog_15_method_4_code 3 (some (.array .byte)) := C
  refine Ww.getS (pc' := 3) C d_prog_15m4_0 (w42 hw) Via.refl (bs.1.ext O0) rfl ?_
  refine Ww.aloadN (pc' := 4) C d_prog_15m4_3 rfl rfl rfl ?_
  refine Ww.iloadN (pc' := 5) C d_prog_15m4_4 rfl rfl ?_
  refine Ww.iloadN (pc' := 6) C d_prog_15m4_5 rfl rfl ?_
  refine Ww.callVS (pc' := 9) C d_prog_15m4_6 (a := x) (Ww.Con.pays hE (Wn := 1) (own_substring l hw hE O0 hs x cs s (s + 2) F (by omega) (by omega) (by omega) (by omega)) (w48 hw) (w11 hw) (by decide) (by decide)) Wk.cleanC F.exa (w44 hw) (w45 hw) (fun vm0 hZ0 => notFace_of_selects (args := #[]) (mvT (s := W.s.setVm vm0) hZ0 (w47 hw))) (w47 hw) (w46 hw) (by decide) (argsL := [(.int (Int32.ofNat s)), (.int (Int32.ofNat (s + 2)))]) (st := [(.ref aD)]) rfl rfl (lenOf pd18 rfl) rfl (Nat.le_of_eq rfl) (k' := 4) rfl (n' := 24) rfl (by decide) (by decide) rfl ?_
  intro r11 h12 Q12 O12
  obtain ⟨x13, rfl, E12, t14, S12, F12, V12, D12⟩ := Q12
  have V15 : Wk.Ary Z h12 t14 .byte [(.int (d0.toInt8.toInt32)), (.int (d1.toInt8.toInt32))] := by
    have q := V12
    rw [show s + 2 - s = 2 by omega, hd] at q
    exact q
  refine Ww.callV (pc' := 12) C d_prog_15m4_9 (a := aD) (fun vm0 C => (Wk.Con.pays C (Wn := 0) (own_decS_2 l hw O12 hs bs x13 t14 _ (d0.toInt8.toInt32) (d1.toInt8.toInt32) S12 F12 D12 V15 t0 t1) (w84 hw) (w83 hw) (by decide) (by decide))) Wk.cleanC (fun v h' q => by obtain ⟨_, -, e, -⟩ := q; exact Or.inr (Or.inl e)) ((bs.2.2.2.2.1.ext O0).ext E12) (w79 hw) (w80 hw) (fun vm0 hZ0 => notFace_of_selects (args := #[]) (mvT (s := W.s.setVm vm0) hZ0 (w82 hw))) (w82 hw) (w81 hw) (by decide) (argsL := [(.ref x13)]) (st := []) rfl rfl (lenOf pd19 rfl) rfl (Nat.le_of_eq rfl) (k' := 6) rfl (n' := 33) rfl (by decide) (by decide) rfl ?_
  intro r16 h17 Q17 O17
  obtain ⟨d18, rfl, E17, D17⟩ := Q17
  have X19 : Ext h0 h17 := Wk.Ext.trans E12 E17
  exact Ww.retA C hE rfl rfl d_prog_15m4_12 (by decide) (by decide) ⟨_, rfl, X19, D17⟩
set_option maxRecDepth 65536 in
set_option maxHeartbeats 40000000 in
theorem own_bd_3 (l : Launch) {Z : State} {a0 : Array Value} (hw : Ws a0 Z) (hE : EW Z a0 EL) {h0 : Heap} (O0 : Ext Z.heap h0) (hs : Sets Z) {aD aT aI aU : Addr} (bs : BS Z aD aT aI aU) (x : Addr) (cs : List Int32) (s : Nat) {d0 d1 d2 u0 u1 u2 : Int32} (F : Str Z h0 x cs) (hl14 : cs.length = 14) (hs3 : s ≤ 3) (hd : (cs.drop s).take 3 = [d0, d1, d2]) (t0 : Tb (d0.toInt8.toInt32) u0) (t1 : Tb (d1.toInt8.toInt32) u1) (t2 : Tb (d2.toInt8.toInt32) u2) :
    Ww.Con l Z EL (⟨"com/example/scopegate/scopegate/token/Base64Url", "decode", "(Ljava/lang/String;II)[B"⟩ : MethodName) prog_15_method_4_code 3 (some (.array .byte)) ({ frames := 6, cells := 8, slots := 48, locals := 110 } : Room) #[(.ref x), (.int (Int32.ofNat s)), (.int (Int32.ofNat (s + 3)))] h0 (fun v h' => ∃ d : Addr, v = some (.ref d) ∧ Ext h0 h' ∧ Wk.Ary Z h' d .byte [(.int (((dS3 u0 u1 u2) >>> ((16 : Int32) &&& 31)).toInt8.toInt32)), (.int (((dS3 u0 u1 u2) >>> ((8 : Int32) &&& 31)).toInt8.toInt32))]) := by
  refine Ww.Con.intro (plainFor_of_name pn5) O0 (fun m => ef49 m x (Int32.ofNat s) (Int32.ofNat (s + 3))) ?_
  intro W C
  replace C : Wk.Cx Z W "com/example/scopegate/scopegate/token/Base64Url" "decode" prog_15_method_4_code 3 (some (.array .byte)) := C
  refine Ww.getS (pc' := 3) C d_prog_15m4_0 (w42 hw) Via.refl (bs.1.ext O0) rfl ?_
  refine Ww.aloadN (pc' := 4) C d_prog_15m4_3 rfl rfl rfl ?_
  refine Ww.iloadN (pc' := 5) C d_prog_15m4_4 rfl rfl ?_
  refine Ww.iloadN (pc' := 6) C d_prog_15m4_5 rfl rfl ?_
  refine Ww.callVS (pc' := 9) C d_prog_15m4_6 (a := x) (Ww.Con.pays hE (Wn := 1) (own_substring l hw hE O0 hs x cs s (s + 3) F (by omega) (by omega) (by omega) (by omega)) (w48 hw) (w11 hw) (by decide) (by decide)) Wk.cleanC F.exa (w44 hw) (w45 hw) (fun vm0 hZ0 => notFace_of_selects (args := #[]) (mvT (s := W.s.setVm vm0) hZ0 (w47 hw))) (w47 hw) (w46 hw) (by decide) (argsL := [(.int (Int32.ofNat s)), (.int (Int32.ofNat (s + 3)))]) (st := [(.ref aD)]) rfl rfl (lenOf pd18 rfl) rfl (Nat.le_of_eq rfl) (k' := 4) rfl (n' := 24) rfl (by decide) (by decide) rfl ?_
  intro r11 h12 Q12 O12
  obtain ⟨x13, rfl, E12, t14, S12, F12, V12, D12⟩ := Q12
  have V15 : Wk.Ary Z h12 t14 .byte [(.int (d0.toInt8.toInt32)), (.int (d1.toInt8.toInt32)), (.int (d2.toInt8.toInt32))] := by
    have q := V12
    rw [show s + 3 - s = 3 by omega, hd] at q
    exact q
  refine Ww.callV (pc' := 12) C d_prog_15m4_9 (a := aD) (fun vm0 C => (Wk.Con.pays C (Wn := 0) (own_decS_3 l hw O12 hs bs x13 t14 _ (d0.toInt8.toInt32) (d1.toInt8.toInt32) (d2.toInt8.toInt32) S12 F12 D12 V15 t0 t1 t2) (w84 hw) (w83 hw) (by decide) (by decide))) Wk.cleanC (fun v h' q => by obtain ⟨_, -, e, -⟩ := q; exact Or.inr (Or.inl e)) ((bs.2.2.2.2.1.ext O0).ext E12) (w79 hw) (w80 hw) (fun vm0 hZ0 => notFace_of_selects (args := #[]) (mvT (s := W.s.setVm vm0) hZ0 (w82 hw))) (w82 hw) (w81 hw) (by decide) (argsL := [(.ref x13)]) (st := []) rfl rfl (lenOf pd19 rfl) rfl (Nat.le_of_eq rfl) (k' := 6) rfl (n' := 34) rfl (by decide) (by decide) rfl ?_
  intro r16 h17 Q17 O17
  obtain ⟨d18, rfl, E17, D17⟩ := Q17
  have X19 : Ext h0 h17 := Wk.Ext.trans E12 E17
  exact Ww.retA C hE rfl rfl d_prog_15m4_12 (by decide) (by decide) ⟨_, rfl, X19, D17⟩
set_option maxRecDepth 65536 in
set_option maxHeartbeats 40000000 in
theorem own_bd_4 (l : Launch) {Z : State} {a0 : Array Value} (hw : Ws a0 Z) (hE : EW Z a0 EL) {h0 : Heap} (O0 : Ext Z.heap h0) (hs : Sets Z) {aD aT aI aU : Addr} (bs : BS Z aD aT aI aU) (x : Addr) (cs : List Int32) (s : Nat) {d0 d1 d2 d3 u0 u1 u2 u3 : Int32} (F : Str Z h0 x cs) (hl14 : cs.length = 14) (hs3 : s ≤ 3) (hd : (cs.drop s).take 4 = [d0, d1, d2, d3]) (t0 : Tb (d0.toInt8.toInt32) u0) (t1 : Tb (d1.toInt8.toInt32) u1) (t2 : Tb (d2.toInt8.toInt32) u2) (t3 : Tb (d3.toInt8.toInt32) u3) :
    Ww.Con l Z EL (⟨"com/example/scopegate/scopegate/token/Base64Url", "decode", "(Ljava/lang/String;II)[B"⟩ : MethodName) prog_15_method_4_code 3 (some (.array .byte)) ({ frames := 6, cells := 8, slots := 48, locals := 110 } : Room) #[(.ref x), (.int (Int32.ofNat s)), (.int (Int32.ofNat (s + 4)))] h0 (fun v h' => ∃ d : Addr, v = some (.ref d) ∧ Ext h0 h' ∧ Wk.Ary Z h' d .byte [(.int (((dS4 u0 u1 u2 u3) >>> ((16 : Int32) &&& 31)).toInt8.toInt32)), (.int (((dS4 u0 u1 u2 u3) >>> ((8 : Int32) &&& 31)).toInt8.toInt32)), (.int ((dS4 u0 u1 u2 u3).toInt8.toInt32))]) := by
  refine Ww.Con.intro (plainFor_of_name pn5) O0 (fun m => ef50 m x (Int32.ofNat s) (Int32.ofNat (s + 4))) ?_
  intro W C
  replace C : Wk.Cx Z W "com/example/scopegate/scopegate/token/Base64Url" "decode" prog_15_method_4_code 3 (some (.array .byte)) := C
  refine Ww.getS (pc' := 3) C d_prog_15m4_0 (w42 hw) Via.refl (bs.1.ext O0) rfl ?_
  refine Ww.aloadN (pc' := 4) C d_prog_15m4_3 rfl rfl rfl ?_
  refine Ww.iloadN (pc' := 5) C d_prog_15m4_4 rfl rfl ?_
  refine Ww.iloadN (pc' := 6) C d_prog_15m4_5 rfl rfl ?_
  refine Ww.callVS (pc' := 9) C d_prog_15m4_6 (a := x) (Ww.Con.pays hE (Wn := 1) (own_substring l hw hE O0 hs x cs s (s + 4) F (by omega) (by omega) (by omega) (by omega)) (w48 hw) (w11 hw) (by decide) (by decide)) Wk.cleanC F.exa (w44 hw) (w45 hw) (fun vm0 hZ0 => notFace_of_selects (args := #[]) (mvT (s := W.s.setVm vm0) hZ0 (w47 hw))) (w47 hw) (w46 hw) (by decide) (argsL := [(.int (Int32.ofNat s)), (.int (Int32.ofNat (s + 4)))]) (st := [(.ref aD)]) rfl rfl (lenOf pd18 rfl) rfl (Nat.le_of_eq rfl) (k' := 4) rfl (n' := 24) rfl (by decide) (by decide) rfl ?_
  intro r11 h12 Q12 O12
  obtain ⟨x13, rfl, E12, t14, S12, F12, V12, D12⟩ := Q12
  have V15 : Wk.Ary Z h12 t14 .byte [(.int (d0.toInt8.toInt32)), (.int (d1.toInt8.toInt32)), (.int (d2.toInt8.toInt32)), (.int (d3.toInt8.toInt32))] := by
    have q := V12
    rw [show s + 4 - s = 4 by omega, hd] at q
    exact q
  refine Ww.callV (pc' := 12) C d_prog_15m4_9 (a := aD) (fun vm0 C => (Wk.Con.pays C (Wn := 0) (own_decS_4 l hw O12 hs bs x13 t14 _ (d0.toInt8.toInt32) (d1.toInt8.toInt32) (d2.toInt8.toInt32) (d3.toInt8.toInt32) S12 F12 D12 V15 t0 t1 t2 t3) (w84 hw) (w83 hw) (by decide) (by decide))) Wk.cleanC (fun v h' q => by obtain ⟨_, -, e, -⟩ := q; exact Or.inr (Or.inl e)) ((bs.2.2.2.2.1.ext O0).ext E12) (w79 hw) (w80 hw) (fun vm0 hZ0 => notFace_of_selects (args := #[]) (mvT (s := W.s.setVm vm0) hZ0 (w82 hw))) (w82 hw) (w81 hw) (by decide) (argsL := [(.ref x13)]) (st := []) rfl rfl (lenOf pd19 rfl) rfl (Nat.le_of_eq rfl) (k' := 6) rfl (n' := 35) rfl (by decide) (by decide) rfl ?_
  intro r16 h17 Q17 O17
  obtain ⟨d18, rfl, E17, D17⟩ := Q17
  have X19 : Ext h0 h17 := Wk.Ext.trans E12 E17
  exact Ww.retA C hE rfl rfl d_prog_15m4_12 (by decide) (by decide) ⟨_, rfl, X19, D17⟩
set_option maxRecDepth 65536 in
set_option maxHeartbeats 40000000 in
theorem own_bd_6 (l : Launch) {Z : State} {a0 : Array Value} (hw : Ws a0 Z) (hE : EW Z a0 EL) {h0 : Heap} (O0 : Ext Z.heap h0) (hs : Sets Z) {aD aT aI aU : Addr} (bs : BS Z aD aT aI aU) (x : Addr) (cs : List Int32) (s : Nat) {d0 d1 d2 d3 d4 d5 u0 u1 u2 u3 u4 u5 : Int32} (F : Str Z h0 x cs) (hl14 : cs.length = 14) (hs3 : s ≤ 3) (hd : (cs.drop s).take 6 = [d0, d1, d2, d3, d4, d5]) (t0 : Tb (d0.toInt8.toInt32) u0) (t1 : Tb (d1.toInt8.toInt32) u1) (t2 : Tb (d2.toInt8.toInt32) u2) (t3 : Tb (d3.toInt8.toInt32) u3) (t4 : Tb (d4.toInt8.toInt32) u4) (t5 : Tb (d5.toInt8.toInt32) u5) :
    Ww.Con l Z EL (⟨"com/example/scopegate/scopegate/token/Base64Url", "decode", "(Ljava/lang/String;II)[B"⟩ : MethodName) prog_15_method_4_code 3 (some (.array .byte)) ({ frames := 6, cells := 8, slots := 48, locals := 110 } : Room) #[(.ref x), (.int (Int32.ofNat s)), (.int (Int32.ofNat (s + 6)))] h0 (fun v h' => ∃ d : Addr, v = some (.ref d) ∧ Ext h0 h' ∧ Wk.Ary Z h' d .byte [(.int (((dW u0 u1 u2 u3) >>> ((16 : Int32) &&& 31)).toInt8.toInt32)), (.int (((dW u0 u1 u2 u3) >>> ((8 : Int32) &&& 31)).toInt8.toInt32)), (.int ((dW u0 u1 u2 u3).toInt8.toInt32)), (.int (((dS2 u4 u5) >>> ((16 : Int32) &&& 31)).toInt8.toInt32))]) := by
  refine Ww.Con.intro (plainFor_of_name pn5) O0 (fun m => ef51 m x (Int32.ofNat s) (Int32.ofNat (s + 6))) ?_
  intro W C
  replace C : Wk.Cx Z W "com/example/scopegate/scopegate/token/Base64Url" "decode" prog_15_method_4_code 3 (some (.array .byte)) := C
  refine Ww.getS (pc' := 3) C d_prog_15m4_0 (w42 hw) Via.refl (bs.1.ext O0) rfl ?_
  refine Ww.aloadN (pc' := 4) C d_prog_15m4_3 rfl rfl rfl ?_
  refine Ww.iloadN (pc' := 5) C d_prog_15m4_4 rfl rfl ?_
  refine Ww.iloadN (pc' := 6) C d_prog_15m4_5 rfl rfl ?_
  refine Ww.callVS (pc' := 9) C d_prog_15m4_6 (a := x) (Ww.Con.pays hE (Wn := 1) (own_substring l hw hE O0 hs x cs s (s + 6) F (by omega) (by omega) (by omega) (by omega)) (w48 hw) (w11 hw) (by decide) (by decide)) Wk.cleanC F.exa (w44 hw) (w45 hw) (fun vm0 hZ0 => notFace_of_selects (args := #[]) (mvT (s := W.s.setVm vm0) hZ0 (w47 hw))) (w47 hw) (w46 hw) (by decide) (argsL := [(.int (Int32.ofNat s)), (.int (Int32.ofNat (s + 6)))]) (st := [(.ref aD)]) rfl rfl (lenOf pd18 rfl) rfl (Nat.le_of_eq rfl) (k' := 4) rfl (n' := 24) rfl (by decide) (by decide) rfl ?_
  intro r11 h12 Q12 O12
  obtain ⟨x13, rfl, E12, t14, S12, F12, V12, D12⟩ := Q12
  have V15 : Wk.Ary Z h12 t14 .byte [(.int (d0.toInt8.toInt32)), (.int (d1.toInt8.toInt32)), (.int (d2.toInt8.toInt32)), (.int (d3.toInt8.toInt32)), (.int (d4.toInt8.toInt32)), (.int (d5.toInt8.toInt32))] := by
    have q := V12
    rw [show s + 6 - s = 6 by omega, hd] at q
    exact q
  refine Ww.callV (pc' := 12) C d_prog_15m4_9 (a := aD) (fun vm0 C => (Wk.Con.pays C (Wn := 0) (own_decS_6 l hw O12 hs bs x13 t14 _ (d0.toInt8.toInt32) (d1.toInt8.toInt32) (d2.toInt8.toInt32) (d3.toInt8.toInt32) (d4.toInt8.toInt32) (d5.toInt8.toInt32) S12 F12 D12 V15 t0 t1 t2 t3 t4 t5) (w84 hw) (w83 hw) (by decide) (by decide))) Wk.cleanC (fun v h' q => by obtain ⟨_, -, e, -⟩ := q; exact Or.inr (Or.inl e)) ((bs.2.2.2.2.1.ext O0).ext E12) (w79 hw) (w80 hw) (fun vm0 hZ0 => notFace_of_selects (args := #[]) (mvT (s := W.s.setVm vm0) hZ0 (w82 hw))) (w82 hw) (w81 hw) (by decide) (argsL := [(.ref x13)]) (st := []) rfl rfl (lenOf pd19 rfl) rfl (Nat.le_of_eq rfl) (k' := 6) rfl (n' := 36) rfl (by decide) (by decide) rfl ?_
  intro r16 h17 Q17 O17
  obtain ⟨d18, rfl, E17, D17⟩ := Q17
  have X19 : Ext h0 h17 := Wk.Ext.trans E12 E17
  exact Ww.retA C hE rfl rfl d_prog_15m4_12 (by decide) (by decide) ⟨_, rfl, X19, D17⟩
set_option maxRecDepth 65536 in
set_option maxHeartbeats 40000000 in
theorem own_bd_7 (l : Launch) {Z : State} {a0 : Array Value} (hw : Ws a0 Z) (hE : EW Z a0 EL) {h0 : Heap} (O0 : Ext Z.heap h0) (hs : Sets Z) {aD aT aI aU : Addr} (bs : BS Z aD aT aI aU) (x : Addr) (cs : List Int32) (s : Nat) {d0 d1 d2 d3 d4 d5 d6 u0 u1 u2 u3 u4 u5 u6 : Int32} (F : Str Z h0 x cs) (hl14 : cs.length = 14) (hs3 : s ≤ 3) (hd : (cs.drop s).take 7 = [d0, d1, d2, d3, d4, d5, d6]) (t0 : Tb (d0.toInt8.toInt32) u0) (t1 : Tb (d1.toInt8.toInt32) u1) (t2 : Tb (d2.toInt8.toInt32) u2) (t3 : Tb (d3.toInt8.toInt32) u3) (t4 : Tb (d4.toInt8.toInt32) u4) (t5 : Tb (d5.toInt8.toInt32) u5) (t6 : Tb (d6.toInt8.toInt32) u6) :
    Ww.Con l Z EL (⟨"com/example/scopegate/scopegate/token/Base64Url", "decode", "(Ljava/lang/String;II)[B"⟩ : MethodName) prog_15_method_4_code 3 (some (.array .byte)) ({ frames := 6, cells := 8, slots := 48, locals := 110 } : Room) #[(.ref x), (.int (Int32.ofNat s)), (.int (Int32.ofNat (s + 7)))] h0 (fun v h' => ∃ d : Addr, v = some (.ref d) ∧ Ext h0 h' ∧ Wk.Ary Z h' d .byte [(.int (((dW u0 u1 u2 u3) >>> ((16 : Int32) &&& 31)).toInt8.toInt32)), (.int (((dW u0 u1 u2 u3) >>> ((8 : Int32) &&& 31)).toInt8.toInt32)), (.int ((dW u0 u1 u2 u3).toInt8.toInt32)), (.int (((dS3 u4 u5 u6) >>> ((16 : Int32) &&& 31)).toInt8.toInt32)), (.int (((dS3 u4 u5 u6) >>> ((8 : Int32) &&& 31)).toInt8.toInt32))]) := by
  refine Ww.Con.intro (plainFor_of_name pn5) O0 (fun m => ef52 m x (Int32.ofNat s) (Int32.ofNat (s + 7))) ?_
  intro W C
  replace C : Wk.Cx Z W "com/example/scopegate/scopegate/token/Base64Url" "decode" prog_15_method_4_code 3 (some (.array .byte)) := C
  refine Ww.getS (pc' := 3) C d_prog_15m4_0 (w42 hw) Via.refl (bs.1.ext O0) rfl ?_
  refine Ww.aloadN (pc' := 4) C d_prog_15m4_3 rfl rfl rfl ?_
  refine Ww.iloadN (pc' := 5) C d_prog_15m4_4 rfl rfl ?_
  refine Ww.iloadN (pc' := 6) C d_prog_15m4_5 rfl rfl ?_
  refine Ww.callVS (pc' := 9) C d_prog_15m4_6 (a := x) (Ww.Con.pays hE (Wn := 1) (own_substring l hw hE O0 hs x cs s (s + 7) F (by omega) (by omega) (by omega) (by omega)) (w48 hw) (w11 hw) (by decide) (by decide)) Wk.cleanC F.exa (w44 hw) (w45 hw) (fun vm0 hZ0 => notFace_of_selects (args := #[]) (mvT (s := W.s.setVm vm0) hZ0 (w47 hw))) (w47 hw) (w46 hw) (by decide) (argsL := [(.int (Int32.ofNat s)), (.int (Int32.ofNat (s + 7)))]) (st := [(.ref aD)]) rfl rfl (lenOf pd18 rfl) rfl (Nat.le_of_eq rfl) (k' := 4) rfl (n' := 24) rfl (by decide) (by decide) rfl ?_
  intro r11 h12 Q12 O12
  obtain ⟨x13, rfl, E12, t14, S12, F12, V12, D12⟩ := Q12
  have V15 : Wk.Ary Z h12 t14 .byte [(.int (d0.toInt8.toInt32)), (.int (d1.toInt8.toInt32)), (.int (d2.toInt8.toInt32)), (.int (d3.toInt8.toInt32)), (.int (d4.toInt8.toInt32)), (.int (d5.toInt8.toInt32)), (.int (d6.toInt8.toInt32))] := by
    have q := V12
    rw [show s + 7 - s = 7 by omega, hd] at q
    exact q
  refine Ww.callV (pc' := 12) C d_prog_15m4_9 (a := aD) (fun vm0 C => (Wk.Con.pays C (Wn := 0) (own_decS_7 l hw O12 hs bs x13 t14 _ (d0.toInt8.toInt32) (d1.toInt8.toInt32) (d2.toInt8.toInt32) (d3.toInt8.toInt32) (d4.toInt8.toInt32) (d5.toInt8.toInt32) (d6.toInt8.toInt32) S12 F12 D12 V15 t0 t1 t2 t3 t4 t5 t6) (w84 hw) (w83 hw) (by decide) (by decide))) Wk.cleanC (fun v h' q => by obtain ⟨_, -, e, -⟩ := q; exact Or.inr (Or.inl e)) ((bs.2.2.2.2.1.ext O0).ext E12) (w79 hw) (w80 hw) (fun vm0 hZ0 => notFace_of_selects (args := #[]) (mvT (s := W.s.setVm vm0) hZ0 (w82 hw))) (w82 hw) (w81 hw) (by decide) (argsL := [(.ref x13)]) (st := []) rfl rfl (lenOf pd19 rfl) rfl (Nat.le_of_eq rfl) (k' := 6) rfl (n' := 37) rfl (by decide) (by decide) rfl ?_
  intro r16 h17 Q17 O17
  obtain ⟨d18, rfl, E17, D17⟩ := Q17
  have X19 : Ext h0 h17 := Wk.Ext.trans E12 E17
  exact Ww.retA C hE rfl rfl d_prog_15m4_12 (by decide) (by decide) ⟨_, rfl, X19, D17⟩
set_option maxRecDepth 65536 in
set_option maxHeartbeats 40000000 in
theorem own_bd_8 (l : Launch) {Z : State} {a0 : Array Value} (hw : Ws a0 Z) (hE : EW Z a0 EL) {h0 : Heap} (O0 : Ext Z.heap h0) (hs : Sets Z) {aD aT aI aU : Addr} (bs : BS Z aD aT aI aU) (x : Addr) (cs : List Int32) (s : Nat) {d0 d1 d2 d3 d4 d5 d6 d7 u0 u1 u2 u3 u4 u5 u6 u7 : Int32} (F : Str Z h0 x cs) (hl14 : cs.length = 14) (hs3 : s ≤ 3) (hd : (cs.drop s).take 8 = [d0, d1, d2, d3, d4, d5, d6, d7]) (t0 : Tb (d0.toInt8.toInt32) u0) (t1 : Tb (d1.toInt8.toInt32) u1) (t2 : Tb (d2.toInt8.toInt32) u2) (t3 : Tb (d3.toInt8.toInt32) u3) (t4 : Tb (d4.toInt8.toInt32) u4) (t5 : Tb (d5.toInt8.toInt32) u5) (t6 : Tb (d6.toInt8.toInt32) u6) (t7 : Tb (d7.toInt8.toInt32) u7) :
    Ww.Con l Z EL (⟨"com/example/scopegate/scopegate/token/Base64Url", "decode", "(Ljava/lang/String;II)[B"⟩ : MethodName) prog_15_method_4_code 3 (some (.array .byte)) ({ frames := 6, cells := 8, slots := 48, locals := 110 } : Room) #[(.ref x), (.int (Int32.ofNat s)), (.int (Int32.ofNat (s + 8)))] h0 (fun v h' => ∃ d : Addr, v = some (.ref d) ∧ Ext h0 h' ∧ Wk.Ary Z h' d .byte [(.int (((dW u0 u1 u2 u3) >>> ((16 : Int32) &&& 31)).toInt8.toInt32)), (.int (((dW u0 u1 u2 u3) >>> ((8 : Int32) &&& 31)).toInt8.toInt32)), (.int ((dW u0 u1 u2 u3).toInt8.toInt32)), (.int (((dW u4 u5 u6 u7) >>> ((16 : Int32) &&& 31)).toInt8.toInt32)), (.int (((dW u4 u5 u6 u7) >>> ((8 : Int32) &&& 31)).toInt8.toInt32)), (.int ((dW u4 u5 u6 u7).toInt8.toInt32))]) := by
  refine Ww.Con.intro (plainFor_of_name pn5) O0 (fun m => ef53 m x (Int32.ofNat s) (Int32.ofNat (s + 8))) ?_
  intro W C
  replace C : Wk.Cx Z W "com/example/scopegate/scopegate/token/Base64Url" "decode" prog_15_method_4_code 3 (some (.array .byte)) := C
  refine Ww.getS (pc' := 3) C d_prog_15m4_0 (w42 hw) Via.refl (bs.1.ext O0) rfl ?_
  refine Ww.aloadN (pc' := 4) C d_prog_15m4_3 rfl rfl rfl ?_
  refine Ww.iloadN (pc' := 5) C d_prog_15m4_4 rfl rfl ?_
  refine Ww.iloadN (pc' := 6) C d_prog_15m4_5 rfl rfl ?_
  refine Ww.callVS (pc' := 9) C d_prog_15m4_6 (a := x) (Ww.Con.pays hE (Wn := 1) (own_substring l hw hE O0 hs x cs s (s + 8) F (by omega) (by omega) (by omega) (by omega)) (w48 hw) (w11 hw) (by decide) (by decide)) Wk.cleanC F.exa (w44 hw) (w45 hw) (fun vm0 hZ0 => notFace_of_selects (args := #[]) (mvT (s := W.s.setVm vm0) hZ0 (w47 hw))) (w47 hw) (w46 hw) (by decide) (argsL := [(.int (Int32.ofNat s)), (.int (Int32.ofNat (s + 8)))]) (st := [(.ref aD)]) rfl rfl (lenOf pd18 rfl) rfl (Nat.le_of_eq rfl) (k' := 4) rfl (n' := 24) rfl (by decide) (by decide) rfl ?_
  intro r11 h12 Q12 O12
  obtain ⟨x13, rfl, E12, t14, S12, F12, V12, D12⟩ := Q12
  have V15 : Wk.Ary Z h12 t14 .byte [(.int (d0.toInt8.toInt32)), (.int (d1.toInt8.toInt32)), (.int (d2.toInt8.toInt32)), (.int (d3.toInt8.toInt32)), (.int (d4.toInt8.toInt32)), (.int (d5.toInt8.toInt32)), (.int (d6.toInt8.toInt32)), (.int (d7.toInt8.toInt32))] := by
    have q := V12
    rw [show s + 8 - s = 8 by omega, hd] at q
    exact q
  refine Ww.callV (pc' := 12) C d_prog_15m4_9 (a := aD) (fun vm0 C => (Wk.Con.pays C (Wn := 0) (own_decS_8 l hw O12 hs bs x13 t14 _ (d0.toInt8.toInt32) (d1.toInt8.toInt32) (d2.toInt8.toInt32) (d3.toInt8.toInt32) (d4.toInt8.toInt32) (d5.toInt8.toInt32) (d6.toInt8.toInt32) (d7.toInt8.toInt32) S12 F12 D12 V15 t0 t1 t2 t3 t4 t5 t6 t7) (w84 hw) (w83 hw) (by decide) (by decide))) Wk.cleanC (fun v h' q => by obtain ⟨_, -, e, -⟩ := q; exact Or.inr (Or.inl e)) ((bs.2.2.2.2.1.ext O0).ext E12) (w79 hw) (w80 hw) (fun vm0 hZ0 => notFace_of_selects (args := #[]) (mvT (s := W.s.setVm vm0) hZ0 (w82 hw))) (w82 hw) (w81 hw) (by decide) (argsL := [(.ref x13)]) (st := []) rfl rfl (lenOf pd19 rfl) rfl (Nat.le_of_eq rfl) (k' := 6) rfl (n' := 38) rfl (by decide) (by decide) rfl ?_
  intro r16 h17 Q17 O17
  obtain ⟨d18, rfl, E17, D17⟩ := Q17
  have X19 : Ext h0 h17 := Wk.Ext.trans E12 E17
  exact Ww.retA C hE rfl rfl d_prog_15m4_12 (by decide) (by decide) ⟨_, rfl, X19, D17⟩
set_option maxRecDepth 65536 in
set_option maxHeartbeats 40000000 in
theorem own_alpha (l : Launch) {Z : State} {a0 : Array Value} (hw : Ws a0 Z) {h0 : Heap} (O0 : Ext Z.heap h0) (k : Nat) (hk : k < 64) :
    Wk.Con l Z (⟨"com/example/scopegate/scopegate/token/Base64UrlDecodePinLaw", "alpha", "(I)C"⟩ : MethodName) method_4_code 1 (some .char) ({ frames := 0, cells := 0, slots := 0, locals := 0 } : Room) #[(.int (Int32.ofNat k))] h0 (fun v h' => v = some (.int (alC k)) ∧ h' = h0) := by
  refine Wk.Con.intro (plainFor_of_name pn6) O0 (fun m => ef54 m (Int32.ofNat k)) ?_
  intro W C
  replace C : Wk.Cx Z W "com/example/scopegate/scopegate/token/Base64UrlDecodePinLaw" "alpha" method_4_code 1 (some .char) := C
  refine Wk.iloadN (pc' := 1) C d_method_4_0 rfl rfl ?_
  refine Wk.bipush (pc' := 3) C d_method_4_1 (v := (26 : Int32)) rfl rfl ?_
  refine Wk.icmp_ge C d_method_4_3 (by decide) (pcT := 12) (by decide) (pc' := 6) rfl (fun q11 => ?_) (fun q11 => ?_)
  · -- pc 3: taken
    refine Wk.iloadN (pc' := 13) C d_method_4_12 rfl rfl ?_
    refine Wk.bipush (pc' := 15) C d_method_4_13 (v := (52 : Int32)) rfl rfl ?_
    refine Wk.icmp_ge C d_method_4_15 (by decide) (pcT := 27) (by decide) (pc' := 18) rfl (fun q12 => ?_) (fun q12 => ?_)
    · -- pc 15: taken
      refine Wk.iloadN (pc' := 28) C d_method_4_27 rfl rfl ?_
      refine Wk.bipush (pc' := 30) C d_method_4_28 (v := (62 : Int32)) rfl rfl ?_
      refine Wk.icmp_ge C d_method_4_30 (by decide) (pcT := 42) (by decide) (pc' := 33) rfl (fun q13 => ?_) (fun q13 => ?_)
      · -- pc 30: taken
        refine Wk.iloadN (pc' := 43) C d_method_4_42 rfl rfl ?_
        refine Wk.bipush (pc' := 45) C d_method_4_43 (v := (62 : Int32)) rfl rfl ?_
        refine Wk.icmp_ne C d_method_4_45 (by decide) (pcT := 51) (by decide) (pc' := 48) rfl (fun q14 => ?_) (fun q14 => ?_)
        · -- pc 45: taken
          refine Wk.bipush (pc' := 53) C d_method_4_51 (v := (95 : Int32)) rfl rfl ?_
          exact Wk.retNar (ty := .char) C (by simp) d_method_4_53 rfl (by decide) (by decide) ⟨congrArg (fun z => some (Value.int z)) (own_al5 k hk q13 q14), rfl⟩
        · -- pc 45: not taken
          refine Wk.bipush (pc' := 50) C d_method_4_48 (v := (45 : Int32)) rfl rfl ?_
          exact Wk.retNar (ty := .char) C (by simp) d_method_4_50 rfl (by decide) (by decide) ⟨congrArg (fun z => some (Value.int z)) (own_al4 k hk q14), rfl⟩
      · -- pc 30: not taken
        refine Wk.bipush (pc' := 35) C d_method_4_33 (v := (48 : Int32)) rfl rfl ?_
        refine Wk.iloadN (pc' := 36) C d_method_4_35 rfl rfl ?_
        refine Wk.bipush (pc' := 38) C d_method_4_36 (v := (52 : Int32)) rfl rfl ?_
        obtain ⟨v15, hv15⟩ : ∃ z : Int32, (Int32.ofNat k) - (52 : Int32) = z := ⟨_, rfl⟩
        refine Wk.isub (pc' := 39) C d_method_4_38 hv15 rfl ?_
        obtain ⟨v16, hv16⟩ : ∃ z : Int32, (48 : Int32) + v15 = z := ⟨_, rfl⟩
        refine Wk.iadd (pc' := 40) C d_method_4_39 hv16 rfl ?_
        obtain ⟨v17, hv17⟩ : ∃ z : Int32, v16.toUInt32.toUInt16.toUInt32.toInt32 = z := ⟨_, rfl⟩
        refine Wk.i2c (pc' := 41) C d_method_4_40 hv17 rfl ?_
        have hN := (Wk.nar_i2c hv17)
        subst hv15 hv16 hv17
        exact Wk.retNar (ty := .char) C (by simp) d_method_4_41 hN (by decide) (by decide) ⟨congrArg (fun z => some (Value.int z)) (own_al3 k hk q12 q13), rfl⟩
    · -- pc 15: not taken
      refine Wk.bipush (pc' := 20) C d_method_4_18 (v := (97 : Int32)) rfl rfl ?_
      refine Wk.iloadN (pc' := 21) C d_method_4_20 rfl rfl ?_
      refine Wk.bipush (pc' := 23) C d_method_4_21 (v := (26 : Int32)) rfl rfl ?_
      obtain ⟨v18, hv18⟩ : ∃ z : Int32, (Int32.ofNat k) - (26 : Int32) = z := ⟨_, rfl⟩
      refine Wk.isub (pc' := 24) C d_method_4_23 hv18 rfl ?_
      obtain ⟨v19, hv19⟩ : ∃ z : Int32, (97 : Int32) + v18 = z := ⟨_, rfl⟩
      refine Wk.iadd (pc' := 25) C d_method_4_24 hv19 rfl ?_
      obtain ⟨v20, hv20⟩ : ∃ z : Int32, v19.toUInt32.toUInt16.toUInt32.toInt32 = z := ⟨_, rfl⟩
      refine Wk.i2c (pc' := 26) C d_method_4_25 hv20 rfl ?_
      have hN := (Wk.nar_i2c hv20)
      subst hv18 hv19 hv20
      exact Wk.retNar (ty := .char) C (by simp) d_method_4_26 hN (by decide) (by decide) ⟨congrArg (fun z => some (Value.int z)) (own_al2 k hk q11 q12), rfl⟩
  · -- pc 3: not taken
    refine Wk.bipush (pc' := 8) C d_method_4_6 (v := (65 : Int32)) rfl rfl ?_
    refine Wk.iloadN (pc' := 9) C d_method_4_8 rfl rfl ?_
    obtain ⟨v21, hv21⟩ : ∃ z : Int32, (65 : Int32) + (Int32.ofNat k) = z := ⟨_, rfl⟩
    refine Wk.iadd (pc' := 10) C d_method_4_9 hv21 rfl ?_
    obtain ⟨v22, hv22⟩ : ∃ z : Int32, v21.toUInt32.toUInt16.toUInt32.toInt32 = z := ⟨_, rfl⟩
    refine Wk.i2c (pc' := 11) C d_method_4_10 hv22 rfl ?_
    have hN := (Wk.nar_i2c hv22)
    subst hv21 hv22
    exact Wk.retNar (ty := .char) C (by simp) d_method_4_11 hN (by decide) (by decide) ⟨congrArg (fun z => some (Value.int z)) (own_al1 k hk q11), rfl⟩
set_option maxRecDepth 65536 in
set_option maxHeartbeats 40000000 in
theorem own_at (l : Launch) {Z : State} {a0 : Array Value} (hw : Ws a0 Z) {h0 : Heap} (O0 : Ext Z.heap h0) (i s n : Int32) (bits gb : Int64)  :
    Wk.Con l Z (⟨"com/example/scopegate/scopegate/token/Base64UrlDecodePinLaw", "at", "(IIIJJ)C"⟩ : MethodName) method_3_code 7 (some .char) ({ frames := 1, cells := 0, slots := 0, locals := 12 } : Room) #[(.int i), (.int s), (.int n), (.long bits), (.long gb)] h0 (fun v h' => (∃ c : Int32, v = some (.int c) ∧ (¬ c < 0 ∧ ¬ (255 : Int32) < c) ∧ (¬ i < s ∧ i < s + n → c = alC (atK bits i s))) ∧ h' = h0) := by
  refine Wk.Con.intro (plainFor_of_name pn6) O0 (fun m => ef55 m i s n bits gb) ?_
  intro W C
  replace C : Wk.Cx Z W "com/example/scopegate/scopegate/token/Base64UrlDecodePinLaw" "at" method_3_code 7 (some .char) := C
  refine Wk.iloadN (pc' := 1) C d_method_3_0 rfl rfl ?_
  refine Wk.iloadN (pc' := 2) C d_method_3_1 rfl rfl ?_
  refine Wk.icmp_lt C d_method_3_2 (by decide) (pcT := 32) (by decide) (pc' := 5) rfl (fun q11 => ?_) (fun q11 => ?_)
  · -- pc 2: taken
    refine Wk.lload (pc' := 34) C d_method_3_32 rfl rfl ?_
    refine Wk.iconst (pc' := 35) C d_method_3_34 (v := (4 : Int32)) rfl rfl ?_
    refine Wk.iloadN (pc' := 36) C d_method_3_35 rfl rfl ?_
    obtain ⟨v12, hv12⟩ : ∃ z : Int32, (4 : Int32) * i = z := ⟨_, rfl⟩
    refine Wk.imul (pc' := 37) C d_method_3_36 hv12 rfl ?_
    obtain ⟨v13, hv13⟩ : ∃ z : Int64, (gb.toUInt64 >>> (v12 &&& 0x3f).toInt64.toUInt64).toInt64 = z := ⟨_, rfl⟩
    refine Wk.lushr (pc' := 38) C d_method_3_37 hv13 rfl ?_
    refine Wk.ldc2J (pc' := 41) C d_method_3_38 (w8 hw) rfl ?_
    obtain ⟨v14, hv14⟩ : ∃ z : Int64, v13 &&& (255 : Int64) = z := ⟨_, rfl⟩
    refine Wk.land (pc' := 42) C d_method_3_41 hv14 rfl ?_
    obtain ⟨v15, hv15⟩ : ∃ z : Int32, v14.toInt32 = z := ⟨_, rfl⟩
    refine Wk.l2i (pc' := 43) C d_method_3_42 hv15 rfl ?_
    obtain ⟨v16, hv16⟩ : ∃ z : Int32, v15.toUInt32.toUInt16.toUInt32.toInt32 = z := ⟨_, rfl⟩
    refine Wk.i2c (pc' := 44) C d_method_3_43 hv16 rfl ?_
    exact Wk.retNar (ty := .char) C (by simp) d_method_3_44 ((Wk.nar_i2c hv16)) (by decide) (by decide) ⟨⟨_, rfl, (Wk.rng255L hv14 hv15 hv16), (fun z => absurd q11 z.1)⟩, rfl⟩
  · -- pc 2: not taken
    refine Wk.iloadN (pc' := 6) C d_method_3_5 rfl rfl ?_
    refine Wk.iloadN (pc' := 7) C d_method_3_6 rfl rfl ?_
    refine Wk.iloadN (pc' := 8) C d_method_3_7 rfl rfl ?_
    obtain ⟨v17, hv17⟩ : ∃ z : Int32, s + n = z := ⟨_, rfl⟩
    refine Wk.iadd (pc' := 9) C d_method_3_8 hv17 rfl ?_
    refine Wk.icmp_ge C d_method_3_9 (by decide) (pcT := 32) (by decide) (pc' := 12) rfl (fun q18 => ?_) (fun q18 => ?_)
    · -- pc 9: taken
      refine Wk.lload (pc' := 34) C d_method_3_32 rfl rfl ?_
      refine Wk.iconst (pc' := 35) C d_method_3_34 (v := (4 : Int32)) rfl rfl ?_
      refine Wk.iloadN (pc' := 36) C d_method_3_35 rfl rfl ?_
      obtain ⟨v19, hv19⟩ : ∃ z : Int32, (4 : Int32) * i = z := ⟨_, rfl⟩
      refine Wk.imul (pc' := 37) C d_method_3_36 hv19 rfl ?_
      obtain ⟨v20, hv20⟩ : ∃ z : Int64, (gb.toUInt64 >>> (v19 &&& 0x3f).toInt64.toUInt64).toInt64 = z := ⟨_, rfl⟩
      refine Wk.lushr (pc' := 38) C d_method_3_37 hv20 rfl ?_
      refine Wk.ldc2J (pc' := 41) C d_method_3_38 (w8 hw) rfl ?_
      obtain ⟨v21, hv21⟩ : ∃ z : Int64, v20 &&& (255 : Int64) = z := ⟨_, rfl⟩
      refine Wk.land (pc' := 42) C d_method_3_41 hv21 rfl ?_
      obtain ⟨v22, hv22⟩ : ∃ z : Int32, v21.toInt32 = z := ⟨_, rfl⟩
      refine Wk.l2i (pc' := 43) C d_method_3_42 hv22 rfl ?_
      obtain ⟨v23, hv23⟩ : ∃ z : Int32, v22.toUInt32.toUInt16.toUInt32.toInt32 = z := ⟨_, rfl⟩
      refine Wk.i2c (pc' := 44) C d_method_3_43 hv23 rfl ?_
      exact Wk.retNar (ty := .char) C (by simp) d_method_3_44 ((Wk.nar_i2c hv23)) (by decide) (by decide) ⟨⟨_, rfl, (Wk.rng255L hv21 hv22 hv23), (fun z => absurd (hv17 ▸ z.2) q18)⟩, rfl⟩
    · -- pc 9: not taken
      refine Wk.lloadN (pc' := 13) C d_method_3_12 rfl rfl ?_
      refine Wk.bipush (pc' := 15) C d_method_3_13 (v := (42 : Int32)) rfl rfl ?_
      refine Wk.bipush (pc' := 17) C d_method_3_15 (v := (6 : Int32)) rfl rfl ?_
      refine Wk.iloadN (pc' := 18) C d_method_3_17 rfl rfl ?_
      refine Wk.iloadN (pc' := 19) C d_method_3_18 rfl rfl ?_
      obtain ⟨v24, hv24⟩ : ∃ z : Int32, i - s = z := ⟨_, rfl⟩
      refine Wk.isub (pc' := 20) C d_method_3_19 hv24 rfl ?_
      obtain ⟨v25, hv25⟩ : ∃ z : Int32, (6 : Int32) * v24 = z := ⟨_, rfl⟩
      refine Wk.imul (pc' := 21) C d_method_3_20 hv25 rfl ?_
      obtain ⟨v26, hv26⟩ : ∃ z : Int32, (42 : Int32) - v25 = z := ⟨_, rfl⟩
      refine Wk.isub (pc' := 22) C d_method_3_21 hv26 rfl ?_
      obtain ⟨v27, hv27⟩ : ∃ z : Int64, (bits.toUInt64 >>> (v26 &&& 0x3f).toInt64.toUInt64).toInt64 = z := ⟨_, rfl⟩
      refine Wk.lushr (pc' := 23) C d_method_3_22 hv27 rfl ?_
      refine Wk.ldc2J (pc' := 26) C d_method_3_23 (w134 hw) rfl ?_
      obtain ⟨v28, hv28⟩ : ∃ z : Int64, v27 &&& (63 : Int64) = z := ⟨_, rfl⟩
      refine Wk.land (pc' := 27) C d_method_3_26 hv28 rfl ?_
      obtain ⟨v29, hv29⟩ : ∃ z : Int32, v28.toInt32 = z := ⟨_, rfl⟩
      refine Wk.l2i (pc' := 28) C d_method_3_27 hv29 rfl ?_
      have f30 : v29 = Int32.ofNat (atK bits i s) := by
        have q := own_l63 hv28 hv29
        subst hv17 hv24 hv25 hv26 hv27
        exact q
      rw [f30]
      refine Wk.callS (pc' := 31) C d_method_3_28 (Wk.Con.pays C (Wn := 0) (own_alpha l hw O0 (atK bits i s) (Nat.mod_lt _ (by decide))) (w137 hw) (w6 hw) (by decide) (by decide)) Wk.cleanC (w135 hw) (w136 hw) (w6 hw) (w137 hw) (by decide) (argsL := [(.int (Int32.ofNat (atK bits i s)))]) (st := []) rfl rfl (lenOf pd20 rfl) rfl (Nat.le_of_eq rfl) (k' := 0) rfl (n' := 0) rfl (by decide) (by decide) rfl ?_
      intro r31 h32 Q32 O32
      obtain ⟨rfl, e33⟩ := Q32
      obtain rfl := e33.symm
      exact Wk.retNar (ty := .char) C (by simp) d_method_3_31 (own_r16 (own_alr _ (Nat.mod_lt _ (by decide)))) (by decide) (by decide) ⟨⟨_, rfl, own_alr _ (Nat.mod_lt _ (by decide)), fun _ => rfl⟩, rfl⟩
set_option maxRecDepth 65536 in
set_option maxHeartbeats 40000000 in
theorem own_okT (l : Launch) {Z : State} {a0 : Array Value} (hw : Ws a0 Z) {h0 : Heap} (O0 : Ext Z.heap h0) (d : Addr) (k mm : Int32) (bits : Int64) (hkm : ¬ k < mm) :
    Wk.Con l Z (⟨"com/example/scopegate/scopegate/token/Base64UrlDecodePinLaw", "ok", "([BIIJ)Z"⟩ : MethodName) method_5_code 5 (some .boolean) ({ frames := 0, cells := 0, slots := 0, locals := 0 } : Room) #[(.ref d), (.int k), (.int mm), (.long bits)] h0 (fun v h' => v = some (.int 1) ∧ h' = h0) := by
  refine Wk.Con.intro (plainFor_of_name pn6) O0 (fun m => ef56 m d k mm bits) ?_
  intro W C
  replace C : Wk.Cx Z W "com/example/scopegate/scopegate/token/Base64UrlDecodePinLaw" "ok" method_5_code 5 (some .boolean) := C
  refine Wk.iloadN (pc' := 1) C d_method_5_0 rfl rfl ?_
  refine Wk.iloadN (pc' := 2) C d_method_5_1 rfl rfl ?_
  refine Wk.icmp_ge C d_method_5_2 (by decide) (pcT := 26) (by decide) (pc' := 5) rfl (fun q11 => ?_) (fun q => absurd q hkm)
  refine Wk.iconst (pc' := 27) C d_method_5_26 (v := (1 : Int32)) rfl rfl ?_
  refine Wk.goto C d_method_5_27 (by decide) (pc' := 31) (by decide) ?_
  exact Wk.retNar (ty := .boolean) C (by simp) d_method_5_31 rfl (by decide) (by decide) ⟨rfl, rfl⟩
set_option maxRecDepth 65536 in
set_option maxHeartbeats 40000000 in
theorem own_okB (l : Launch) {Z : State} {a0 : Array Value} (hw : Ws a0 Z) {h0 : Heap} (O0 : Ext Z.heap h0) (d : Addr) (k mm : Int32) (bits : Int64) (rs : List Value) (r : Int32) (V : Wk.Ary Z h0 d .byte rs) (hkm : k < mm) (hk0 : ¬ k < 0) (hr : rs[k.toNatClampNeg]? = some (.int r)) (he : r = byt bits k) :
    Wk.Con l Z (⟨"com/example/scopegate/scopegate/token/Base64UrlDecodePinLaw", "ok", "([BIIJ)Z"⟩ : MethodName) method_5_code 5 (some .boolean) ({ frames := 0, cells := 0, slots := 0, locals := 0 } : Room) #[(.ref d), (.int k), (.int mm), (.long bits)] h0 (fun v h' => v = some (.int 1) ∧ h' = h0) := by
  refine Wk.Con.intro (plainFor_of_name pn6) O0 (fun m => ef57 m d k mm bits) ?_
  intro W C
  replace C : Wk.Cx Z W "com/example/scopegate/scopegate/token/Base64UrlDecodePinLaw" "ok" method_5_code 5 (some .boolean) := C
  refine Wk.iloadN (pc' := 1) C d_method_5_0 rfl rfl ?_
  refine Wk.iloadN (pc' := 2) C d_method_5_1 rfl rfl ?_
  refine Wk.icmp_ge C d_method_5_2 (by decide) (pcT := 26) (by decide) (pc' := 5) rfl (fun q => absurd hkm q) (fun q11 => ?_)
  refine Wk.aloadN (pc' := 6) C d_method_5_5 rfl rfl rfl ?_
  refine Wk.iloadN (pc' := 7) C d_method_5_6 rfl rfl ?_
  refine Wk.baload (pc' := 8) C d_method_5_7 V hk0 (v := (.int r)) hr rfl ?_
  refine Wk.lloadN (pc' := 9) C d_method_5_8 rfl rfl ?_
  refine Wk.bipush (pc' := 11) C d_method_5_9 (v := (40 : Int32)) rfl rfl ?_
  refine Wk.bipush (pc' := 13) C d_method_5_11 (v := (8 : Int32)) rfl rfl ?_
  refine Wk.iloadN (pc' := 14) C d_method_5_13 rfl rfl ?_
  obtain ⟨v12, hv12⟩ : ∃ z : Int32, (8 : Int32) * k = z := ⟨_, rfl⟩
  refine Wk.imul (pc' := 15) C d_method_5_14 hv12 rfl ?_
  obtain ⟨v13, hv13⟩ : ∃ z : Int32, (40 : Int32) - v12 = z := ⟨_, rfl⟩
  refine Wk.isub (pc' := 16) C d_method_5_15 hv13 rfl ?_
  obtain ⟨v14, hv14⟩ : ∃ z : Int64, (bits.toUInt64 >>> (v13 &&& 0x3f).toInt64.toUInt64).toInt64 = z := ⟨_, rfl⟩
  refine Wk.lushr (pc' := 17) C d_method_5_16 hv14 rfl ?_
  refine Wk.ldc2J (pc' := 20) C d_method_5_17 (w8 hw) rfl ?_
  obtain ⟨v15, hv15⟩ : ∃ z : Int64, v14 &&& (255 : Int64) = z := ⟨_, rfl⟩
  refine Wk.land (pc' := 21) C d_method_5_20 hv15 rfl ?_
  obtain ⟨v16, hv16⟩ : ∃ z : Int32, v15.toInt32 = z := ⟨_, rfl⟩
  refine Wk.l2i (pc' := 22) C d_method_5_21 hv16 rfl ?_
  obtain ⟨v17, hv17⟩ : ∃ z : Int32, v16.toInt8.toInt32 = z := ⟨_, rfl⟩
  refine Wk.i2b (pc' := 23) C d_method_5_22 hv17 rfl ?_
  have e18 : r = v17 := by
    subst hv12 hv13 hv14 hv15 hv16 hv17
    exact he
  refine Wk.icmp_ne C d_method_5_23 (by decide) (pcT := 30) (by decide) (pc' := 26) rfl (fun q => absurd e18 q) (fun q19 => ?_)
  refine Wk.iconst (pc' := 27) C d_method_5_26 (v := (1 : Int32)) rfl rfl ?_
  refine Wk.goto C d_method_5_27 (by decide) (pc' := 31) (by decide) ?_
  exact Wk.retNar (ty := .boolean) C (by simp) d_method_5_31 rfl (by decide) (by decide) ⟨rfl, rfl⟩
set_option maxRecDepth 65536 in
set_option maxHeartbeats 80000000 in
theorem own_law (l : Launch) {Z : State} {a0 : Array Value} (hw : Ws a0 Z) (hE : EW Z a0 EL) (p0 p1 : Int64) (p2 p3 : Int32) (hs : Sets Z) {aD aT aI aU : Addr} (bs : BS Z aD aT aI aU)  :
    Ww.Con l Z EL x code maxLocals ret room_1 #[(.long p0), (.long p1), (.int p2), (.int p3)] Z.heap (fun v _ => v = some (.int 1)) := by
  refine Ww.Con.intro (plainFor_of_name pn6) (Wk.Ext.refl _) (fun m => ef58 m p0 p1 p2 p3) ?_
  intro W C
  replace C : Wk.Cx Z W "com/example/scopegate/scopegate/token/Base64UrlDecodePinLaw" "law" code 17 (some .boolean) := C
  have O0 : Ext Z.heap Z.heap := Wk.Ext.refl _
  refine Ww.bipush (pc' := 2) C at_0 (v := (7 : Int32)) rfl rfl ?_
  refine Ww.newA (pc' := 4) C at_2 (ty := .int) rfl (w0 hw) (by decide) (cap := 7) (by decide) (by decide) (k' := 1) rfl (n' := 7) rfl (by decide) (by decide) rfl rfl ?_
  intro a11 h12 ga11 za11 E12 Va11 O12
  have V13 : Wk.Ary Z h12 a11 .int [(.int (0 : Int32)), (.int (0 : Int32)), (.int (0 : Int32)), (.int (0 : Int32)), (.int (0 : Int32)), (.int (0 : Int32)), (.int (0 : Int32))] := Va11
  refine Ww.dup (pc' := 5) C at_4 rfl rfl ?_
  refine Ww.iconst (pc' := 6) C at_5 (v := (0 : Int32)) rfl rfl ?_
  refine Ww.iconst (pc' := 7) C at_6 (v := (0 : Int32)) rfl rfl ?_
  refine Ww.iastore (pc' := 8) C at_7 V13 (by decide) (show _ < _ from Nat.le_of_ble_eq_true rfl) (vs' := [(.int (0 : Int32)), (.int (0 : Int32)), (.int (0 : Int32)), (.int (0 : Int32)), (.int (0 : Int32)), (.int (0 : Int32)), (.int (0 : Int32))]) rfl za11 (List.mem_of_getElem? (i := 0) rfl) rfl ?_
  intro h14 W14 V14 O14
  refine Ww.dup (pc' := 9) C at_8 rfl rfl ?_
  refine Ww.iconst (pc' := 10) C at_9 (v := (1 : Int32)) rfl rfl ?_
  refine Ww.iconst (pc' := 11) C at_10 (v := (2 : Int32)) rfl rfl ?_
  refine Ww.iastore (pc' := 12) C at_11 V14 (by decide) (show _ < _ from Nat.le_of_ble_eq_true rfl) (vs' := [(.int (0 : Int32)), (.int (2 : Int32)), (.int (0 : Int32)), (.int (0 : Int32)), (.int (0 : Int32)), (.int (0 : Int32)), (.int (0 : Int32))]) rfl za11 (List.mem_of_getElem? (i := 0) rfl) rfl ?_
  intro h15 W15 V15 O15
  refine Ww.dup (pc' := 13) C at_12 rfl rfl ?_
  refine Ww.iconst (pc' := 14) C at_13 (v := (2 : Int32)) rfl rfl ?_
  refine Ww.iconst (pc' := 15) C at_14 (v := (3 : Int32)) rfl rfl ?_
  refine Ww.iastore (pc' := 16) C at_15 V15 (by decide) (show _ < _ from Nat.le_of_ble_eq_true rfl) (vs' := [(.int (0 : Int32)), (.int (2 : Int32)), (.int (3 : Int32)), (.int (0 : Int32)), (.int (0 : Int32)), (.int (0 : Int32)), (.int (0 : Int32))]) rfl za11 (List.mem_of_getElem? (i := 0) rfl) rfl ?_
  intro h16 W16 V16 O16
  refine Ww.dup (pc' := 17) C at_16 rfl rfl ?_
  refine Ww.iconst (pc' := 18) C at_17 (v := (3 : Int32)) rfl rfl ?_
  refine Ww.iconst (pc' := 19) C at_18 (v := (4 : Int32)) rfl rfl ?_
  refine Ww.iastore (pc' := 20) C at_19 V16 (by decide) (show _ < _ from Nat.le_of_ble_eq_true rfl) (vs' := [(.int (0 : Int32)), (.int (2 : Int32)), (.int (3 : Int32)), (.int (4 : Int32)), (.int (0 : Int32)), (.int (0 : Int32)), (.int (0 : Int32))]) rfl za11 (List.mem_of_getElem? (i := 0) rfl) rfl ?_
  intro h17 W17 V17 O17
  refine Ww.dup (pc' := 21) C at_20 rfl rfl ?_
  refine Ww.iconst (pc' := 22) C at_21 (v := (4 : Int32)) rfl rfl ?_
  refine Ww.bipush (pc' := 24) C at_22 (v := (6 : Int32)) rfl rfl ?_
  refine Ww.iastore (pc' := 25) C at_24 V17 (by decide) (show _ < _ from Nat.le_of_ble_eq_true rfl) (vs' := [(.int (0 : Int32)), (.int (2 : Int32)), (.int (3 : Int32)), (.int (4 : Int32)), (.int (6 : Int32)), (.int (0 : Int32)), (.int (0 : Int32))]) rfl za11 (List.mem_of_getElem? (i := 0) rfl) rfl ?_
  intro h18 W18 V18 O18
  refine Ww.dup (pc' := 26) C at_25 rfl rfl ?_
  refine Ww.iconst (pc' := 27) C at_26 (v := (5 : Int32)) rfl rfl ?_
  refine Ww.bipush (pc' := 29) C at_27 (v := (7 : Int32)) rfl rfl ?_
  refine Ww.iastore (pc' := 30) C at_29 V18 (by decide) (show _ < _ from Nat.le_of_ble_eq_true rfl) (vs' := [(.int (0 : Int32)), (.int (2 : Int32)), (.int (3 : Int32)), (.int (4 : Int32)), (.int (6 : Int32)), (.int (7 : Int32)), (.int (0 : Int32))]) rfl za11 (List.mem_of_getElem? (i := 0) rfl) rfl ?_
  intro h19 W19 V19 O19
  refine Ww.dup (pc' := 31) C at_30 rfl rfl ?_
  refine Ww.bipush (pc' := 33) C at_31 (v := (6 : Int32)) rfl rfl ?_
  refine Ww.bipush (pc' := 35) C at_33 (v := (8 : Int32)) rfl rfl ?_
  refine Ww.iastore (pc' := 36) C at_35 V19 (by decide) (show _ < _ from Nat.le_of_ble_eq_true rfl) (vs' := [(.int (0 : Int32)), (.int (2 : Int32)), (.int (3 : Int32)), (.int (4 : Int32)), (.int (6 : Int32)), (.int (7 : Int32)), (.int (8 : Int32))]) rfl za11 (List.mem_of_getElem? (i := 0) rfl) rfl ?_
  intro h20 W20 V20 O20
  refine Ww.astore (pc' := 38) C at_36 rfl (Ls' := #[.val (.long p0), .second, .val (.long p1), .second, .val (.int p2), .val (.int p3), .val (.ref a11), .unset, .unset, .unset, .unset, .unset, .unset, .unset, .unset, .unset, .unset]) rfl rfl ?_
  refine Ww.aload (pc' := 40) C at_38 rfl rfl rfl ?_
  refine Ww.iload (pc' := 42) C at_40 rfl rfl ?_
  refine Ww.ldcI (pc' := 44) C at_42 (w1 hw) rfl ?_
  obtain ⟨v21, hv21⟩ : ∃ z : Int32, p2 &&& (2147483647 : Int32) = z := ⟨_, rfl⟩
  refine Ww.iand (pc' := 45) C at_44 hv21 rfl ?_
  refine Ww.bipush (pc' := 47) C at_45 (v := (7 : Int32)) rfl rfl ?_
  obtain ⟨v22, hv22⟩ : ∃ z : Int32, v21 % (7 : Int32) = z := ⟨_, rfl⟩
  refine Ww.irem (pc' := 48) C at_47 (by decide) hv22 rfl ?_
  have t0 : 0 ≤ v22.toInt ∧ v22.toInt < 7 := by
    have a := Wk.modr (Wk.mask31 hv21) (by decide) hv22
    have c7 : (7 : Int32).toInt = 7 := by decide
    omega
  have hl7 : v22 = 0 ∨ v22 = 1 ∨ v22 = 2 ∨ v22 = 3 ∨ v22 = 4 ∨ v22 = 5 ∨ v22 = 6 := by
    have c0 : (0 : Int32).toInt = 0 := by decide
    have c1 : (1 : Int32).toInt = 1 := by decide
    have c2 : (2 : Int32).toInt = 2 := by decide
    have c3 : (3 : Int32).toInt = 3 := by decide
    have c4 : (4 : Int32).toInt = 4 := by decide
    have c5 : (5 : Int32).toInt = 5 := by decide
    have c6 : (6 : Int32).toInt = 6 := by decide
    have a : v22.toInt = 0 ∨ v22.toInt = 1 ∨ v22.toInt = 2 ∨ v22.toInt = 3 ∨ v22.toInt = 4 ∨ v22.toInt = 5 ∨ v22.toInt = 6 := by omega
    rcases a with a | a | a | a | a | a | a
    · exact Or.inl (Wk.eqI (a.trans c0.symm))
    · exact Or.inr (Or.inl (Wk.eqI (a.trans c1.symm)))
    · exact Or.inr (Or.inr (Or.inl (Wk.eqI (a.trans c2.symm))))
    · exact Or.inr (Or.inr (Or.inr (Or.inl (Wk.eqI (a.trans c3.symm)))))
    · exact Or.inr (Or.inr (Or.inr (Or.inr (Or.inl (Wk.eqI (a.trans c4.symm))))))
    · exact Or.inr (Or.inr (Or.inr (Or.inr (Or.inr (Or.inl (Wk.eqI (a.trans c5.symm)))))))
    · exact Or.inr (Or.inr (Or.inr (Or.inr (Or.inr (Or.inr ((Wk.eqI (a.trans c6.symm))))))))
  obtain ⟨nV, hnV, gnV⟩ : ∃ z : Int32, ([(.int (0 : Int32)), (.int (2 : Int32)), (.int (3 : Int32)), (.int (4 : Int32)), (.int (6 : Int32)), (.int (7 : Int32)), (.int (8 : Int32))] : List Value)[v22.toNatClampNeg]? = some (.int z) ∧ (z = 0 ∨ z = 2 ∨ z = 3 ∨ z = 4 ∨ z = 6 ∨ z = 7 ∨ z = 8) := by
    rcases hl7 with rfl | rfl | rfl | rfl | rfl | rfl | rfl
    · exact ⟨(0 : Int32), rfl, by decide⟩
    · exact ⟨(2 : Int32), rfl, by decide⟩
    · exact ⟨(3 : Int32), rfl, by decide⟩
    · exact ⟨(4 : Int32), rfl, by decide⟩
    · exact ⟨(6 : Int32), rfl, by decide⟩
    · exact ⟨(7 : Int32), rfl, by decide⟩
    · exact ⟨(8 : Int32), rfl, by decide⟩
  refine Ww.iaload (pc' := 49) C at_48 V20 (Wk.nn t0.1) (v := (.int nV)) hnV rfl ?_
  refine Ww.istore (pc' := 51) C at_49 (Ls' := #[.val (.long p0), .second, .val (.long p1), .second, .val (.int p2), .val (.int p3), .val (.ref a11), .val (.int nV), .unset, .unset, .unset, .unset, .unset, .unset, .unset, .unset, .unset]) rfl rfl ?_
  refine Ww.bipush (pc' := 53) C at_51 (v := (6 : Int32)) rfl rfl ?_
  refine Ww.iload (pc' := 55) C at_53 rfl rfl ?_
  obtain ⟨v23, hv23⟩ : ∃ z : Int32, (6 : Int32) * nV = z := ⟨_, rfl⟩
  refine Ww.imul (pc' := 56) C at_55 hv23 rfl ?_
  refine Ww.bipush (pc' := 58) C at_56 (v := (8 : Int32)) rfl rfl ?_
  obtain ⟨v24, hv24⟩ : ∃ z : Int32, v23 / (8 : Int32) = z := ⟨_, rfl⟩
  refine Ww.idiv (pc' := 59) C at_58 (by decide) hv24 rfl ?_
  refine Ww.istore (pc' := 61) C at_59 (Ls' := #[.val (.long p0), .second, .val (.long p1), .second, .val (.int p2), .val (.int p3), .val (.ref a11), .val (.int nV), .val (.int v24), .unset, .unset, .unset, .unset, .unset, .unset, .unset, .unset]) rfl rfl ?_
  refine Ww.iload (pc' := 63) C at_61 rfl rfl ?_
  refine Ww.iconst (pc' := 64) C at_63 (v := (3 : Int32)) rfl rfl ?_
  obtain ⟨v25, hv25⟩ : ∃ z : Int32, p3 &&& (3 : Int32) = z := ⟨_, rfl⟩
  refine Ww.iand (pc' := 65) C at_64 hv25 rfl ?_
  refine Ww.istore (pc' := 67) C at_65 (Ls' := #[.val (.long p0), .second, .val (.long p1), .second, .val (.int p2), .val (.int p3), .val (.ref a11), .val (.int nV), .val (.int v24), .val (.int v25), .unset, .unset, .unset, .unset, .unset, .unset, .unset]) rfl rfl ?_
  obtain ⟨sN, hs3, fs⟩ := own_and3 hv25
  subst fs
  refine Ww.iload (pc' := 69) C at_67 rfl rfl ?_
  refine Ww.iload (pc' := 71) C at_69 rfl rfl ?_
  obtain ⟨v26, hv26⟩ : ∃ z : Int32, (Int32.ofNat sN) + nV = z := ⟨_, rfl⟩
  refine Ww.iadd (pc' := 72) C at_71 hv26 rfl ?_
  refine Ww.istore (pc' := 74) C at_72 (Ls' := #[.val (.long p0), .second, .val (.long p1), .second, .val (.int p2), .val (.int p3), .val (.ref a11), .val (.int nV), .val (.int v24), .val (.int (Int32.ofNat sN)), .val (.int v26), .unset, .unset, .unset, .unset, .unset, .unset]) rfl rfl ?_
  refine Ww.bipush (pc' := 76) C at_74 (v := (48 : Int32)) rfl rfl ?_
  refine Ww.bipush (pc' := 78) C at_76 (v := (8 : Int32)) rfl rfl ?_
  refine Ww.iload (pc' := 80) C at_78 rfl rfl ?_
  obtain ⟨v27, hv27⟩ : ∃ z : Int32, (8 : Int32) * v24 = z := ⟨_, rfl⟩
  refine Ww.imul (pc' := 81) C at_80 hv27 rfl ?_
  obtain ⟨v28, hv28⟩ : ∃ z : Int32, (48 : Int32) - v27 = z := ⟨_, rfl⟩
  refine Ww.isub (pc' := 82) C at_81 hv28 rfl ?_
  refine Ww.istore (pc' := 84) C at_82 (Ls' := #[.val (.long p0), .second, .val (.long p1), .second, .val (.int p2), .val (.int p3), .val (.ref a11), .val (.int nV), .val (.int v24), .val (.int (Int32.ofNat sN)), .val (.int v26), .val (.int v28), .unset, .unset, .unset, .unset, .unset]) rfl rfl ?_
  refine Ww.lloadN (pc' := 85) C at_84 rfl rfl ?_
  refine Ww.ldc2J (pc' := 88) C at_85 (w2 hw) rfl ?_
  obtain ⟨v29, hv29⟩ : ∃ z : Int64, p0 &&& (281474976710655 : Int64) = z := ⟨_, rfl⟩
  refine Ww.land (pc' := 89) C at_88 hv29 rfl ?_
  refine Ww.iload (pc' := 91) C at_89 rfl rfl ?_
  obtain ⟨v30, hv30⟩ : ∃ z : Int64, (v29.toUInt64 >>> (v28 &&& 0x3f).toInt64.toUInt64).toInt64 = z := ⟨_, rfl⟩
  refine Ww.lushr (pc' := 92) C at_91 hv30 rfl ?_
  refine Ww.iload (pc' := 94) C at_92 rfl rfl ?_
  obtain ⟨v31, hv31⟩ : ∃ z : Int64, v30 <<< (v28 &&& 0x3f).toInt64 = z := ⟨_, rfl⟩
  refine Ww.lshl (pc' := 95) C at_94 hv31 rfl ?_
  refine Ww.lstore (pc' := 97) C at_95 (Ls' := #[.val (.long p0), .second, .val (.long p1), .second, .val (.int p2), .val (.int p3), .val (.ref a11), .val (.int nV), .val (.int v24), .val (.int (Int32.ofNat sN)), .val (.int v26), .val (.int v28), .val (.long v31), .second, .unset, .unset, .unset]) rfl rfl ?_
  refine Ww.bipush (pc' := 99) C at_97 (v := (14 : Int32)) rfl rfl ?_
  refine Ww.newA (pc' := 101) C at_99 (ty := .char) rfl (w3 hw) (by decide) (cap := 14) (by decide) (by decide) (k' := 2) rfl (n' := 21) rfl (by decide) (by decide) rfl rfl ?_
  intro a32 h33 ga32 za32 E33 Va32 O33
  have V34 : Wk.Ary Z h33 a32 .char [(.int (0 : Int32)), (.int (0 : Int32)), (.int (0 : Int32)), (.int (0 : Int32)), (.int (0 : Int32)), (.int (0 : Int32)), (.int (0 : Int32)), (.int (0 : Int32)), (.int (0 : Int32)), (.int (0 : Int32)), (.int (0 : Int32)), (.int (0 : Int32)), (.int (0 : Int32)), (.int (0 : Int32))] := Va32
  refine Ww.astore (pc' := 103) C at_101 rfl (Ls' := #[.val (.long p0), .second, .val (.long p1), .second, .val (.int p2), .val (.int p3), .val (.ref a11), .val (.int nV), .val (.int v24), .val (.int (Int32.ofNat sN)), .val (.int v26), .val (.int v28), .val (.long v31), .second, .val (.ref a32), .unset, .unset]) rfl rfl ?_
  refine Ww.aload (pc' := 105) C at_103 rfl rfl rfl ?_
  refine Ww.iconst (pc' := 106) C at_105 (v := (0 : Int32)) rfl rfl ?_
  refine Ww.iconst (pc' := 107) C at_106 (v := (0 : Int32)) rfl rfl ?_
  refine Ww.iload (pc' := 109) C at_107 rfl rfl ?_
  refine Ww.iload (pc' := 111) C at_109 rfl rfl ?_
  refine Ww.lload (pc' := 113) C at_111 rfl rfl ?_
  refine Ww.lloadN (pc' := 114) C at_113 rfl rfl ?_
  refine Ww.callS (pc' := 117) C at_114 (fun vm0 C => (Wk.Con.pays C (Wn := 2) (own_at l hw O33 (0 : Int32) (Int32.ofNat sN) nV v31 p1) (w7 hw) (w6 hw) (by decide) (by decide))) Wk.cleanC (fun v h' q => Or.inl q.2) (w4 hw) (w5 hw) (w6 hw) (w7 hw) (by decide) (argsL := [(.int (0 : Int32)), (.int (Int32.ofNat sN)), (.int nV), (.long v31), (.long p1)]) (st := [(.int (0 : Int32)), (.ref a32)]) rfl rfl (lenOf pd21 rfl) rfl (Nat.le_of_eq rfl) (k' := 2) rfl (n' := 21) rfl (by decide) (by decide) rfl ?_
  intro r35 h36 Q36 O36
  obtain ⟨⟨c0, rfl, rc0, f0⟩, e37⟩ := Q36
  obtain rfl := e37.symm
  refine Ww.castore (pc' := 118) C at_117 V34 (by decide) (show _ < _ from Nat.le_of_ble_eq_true rfl) (own_r16 rc0) (vs' := [(.int c0), (.int (0 : Int32)), (.int (0 : Int32)), (.int (0 : Int32)), (.int (0 : Int32)), (.int (0 : Int32)), (.int (0 : Int32)), (.int (0 : Int32)), (.int (0 : Int32)), (.int (0 : Int32)), (.int (0 : Int32)), (.int (0 : Int32)), (.int (0 : Int32)), (.int (0 : Int32))]) rfl za32 (List.mem_of_getElem? (i := 0) rfl) rfl ?_
  intro h38 W38 V38 O38
  refine Ww.aload (pc' := 120) C at_118 rfl rfl rfl ?_
  refine Ww.iconst (pc' := 121) C at_120 (v := (1 : Int32)) rfl rfl ?_
  refine Ww.iconst (pc' := 122) C at_121 (v := (1 : Int32)) rfl rfl ?_
  refine Ww.iload (pc' := 124) C at_122 rfl rfl ?_
  refine Ww.iload (pc' := 126) C at_124 rfl rfl ?_
  refine Ww.lload (pc' := 128) C at_126 rfl rfl ?_
  refine Ww.lloadN (pc' := 129) C at_128 rfl rfl ?_
  refine Ww.callS (pc' := 132) C at_129 (fun vm0 C => (Wk.Con.pays C (Wn := 2) (own_at l hw O38 (1 : Int32) (Int32.ofNat sN) nV v31 p1) (w7 hw) (w6 hw) (by decide) (by decide))) Wk.cleanC (fun v h' q => Or.inl q.2) (w4 hw) (w5 hw) (w6 hw) (w7 hw) (by decide) (argsL := [(.int (1 : Int32)), (.int (Int32.ofNat sN)), (.int nV), (.long v31), (.long p1)]) (st := [(.int (1 : Int32)), (.ref a32)]) rfl rfl (lenOf pd21 rfl) rfl (Nat.le_of_eq rfl) (k' := 2) rfl (n' := 21) rfl (by decide) (by decide) rfl ?_
  intro r39 h40 Q40 O40
  obtain ⟨⟨c1, rfl, rc1, f1⟩, e41⟩ := Q40
  obtain rfl := e41.symm
  refine Ww.castore (pc' := 133) C at_132 V38 (by decide) (show _ < _ from Nat.le_of_ble_eq_true rfl) (own_r16 rc1) (vs' := [(.int c0), (.int c1), (.int (0 : Int32)), (.int (0 : Int32)), (.int (0 : Int32)), (.int (0 : Int32)), (.int (0 : Int32)), (.int (0 : Int32)), (.int (0 : Int32)), (.int (0 : Int32)), (.int (0 : Int32)), (.int (0 : Int32)), (.int (0 : Int32)), (.int (0 : Int32))]) rfl za32 (List.mem_of_getElem? (i := 0) rfl) rfl ?_
  intro h42 W42 V42 O42
  refine Ww.aload (pc' := 135) C at_133 rfl rfl rfl ?_
  refine Ww.iconst (pc' := 136) C at_135 (v := (2 : Int32)) rfl rfl ?_
  refine Ww.iconst (pc' := 137) C at_136 (v := (2 : Int32)) rfl rfl ?_
  refine Ww.iload (pc' := 139) C at_137 rfl rfl ?_
  refine Ww.iload (pc' := 141) C at_139 rfl rfl ?_
  refine Ww.lload (pc' := 143) C at_141 rfl rfl ?_
  refine Ww.lloadN (pc' := 144) C at_143 rfl rfl ?_
  refine Ww.callS (pc' := 147) C at_144 (fun vm0 C => (Wk.Con.pays C (Wn := 2) (own_at l hw O42 (2 : Int32) (Int32.ofNat sN) nV v31 p1) (w7 hw) (w6 hw) (by decide) (by decide))) Wk.cleanC (fun v h' q => Or.inl q.2) (w4 hw) (w5 hw) (w6 hw) (w7 hw) (by decide) (argsL := [(.int (2 : Int32)), (.int (Int32.ofNat sN)), (.int nV), (.long v31), (.long p1)]) (st := [(.int (2 : Int32)), (.ref a32)]) rfl rfl (lenOf pd21 rfl) rfl (Nat.le_of_eq rfl) (k' := 2) rfl (n' := 21) rfl (by decide) (by decide) rfl ?_
  intro r43 h44 Q44 O44
  obtain ⟨⟨c2, rfl, rc2, f2⟩, e45⟩ := Q44
  obtain rfl := e45.symm
  refine Ww.castore (pc' := 148) C at_147 V42 (by decide) (show _ < _ from Nat.le_of_ble_eq_true rfl) (own_r16 rc2) (vs' := [(.int c0), (.int c1), (.int c2), (.int (0 : Int32)), (.int (0 : Int32)), (.int (0 : Int32)), (.int (0 : Int32)), (.int (0 : Int32)), (.int (0 : Int32)), (.int (0 : Int32)), (.int (0 : Int32)), (.int (0 : Int32)), (.int (0 : Int32)), (.int (0 : Int32))]) rfl za32 (List.mem_of_getElem? (i := 0) rfl) rfl ?_
  intro h46 W46 V46 O46
  refine Ww.aload (pc' := 150) C at_148 rfl rfl rfl ?_
  refine Ww.iconst (pc' := 151) C at_150 (v := (3 : Int32)) rfl rfl ?_
  refine Ww.iconst (pc' := 152) C at_151 (v := (3 : Int32)) rfl rfl ?_
  refine Ww.iload (pc' := 154) C at_152 rfl rfl ?_
  refine Ww.iload (pc' := 156) C at_154 rfl rfl ?_
  refine Ww.lload (pc' := 158) C at_156 rfl rfl ?_
  refine Ww.lloadN (pc' := 159) C at_158 rfl rfl ?_
  refine Ww.callS (pc' := 162) C at_159 (fun vm0 C => (Wk.Con.pays C (Wn := 2) (own_at l hw O46 (3 : Int32) (Int32.ofNat sN) nV v31 p1) (w7 hw) (w6 hw) (by decide) (by decide))) Wk.cleanC (fun v h' q => Or.inl q.2) (w4 hw) (w5 hw) (w6 hw) (w7 hw) (by decide) (argsL := [(.int (3 : Int32)), (.int (Int32.ofNat sN)), (.int nV), (.long v31), (.long p1)]) (st := [(.int (3 : Int32)), (.ref a32)]) rfl rfl (lenOf pd21 rfl) rfl (Nat.le_of_eq rfl) (k' := 2) rfl (n' := 21) rfl (by decide) (by decide) rfl ?_
  intro r47 h48 Q48 O48
  obtain ⟨⟨c3, rfl, rc3, f3⟩, e49⟩ := Q48
  obtain rfl := e49.symm
  refine Ww.castore (pc' := 163) C at_162 V46 (by decide) (show _ < _ from Nat.le_of_ble_eq_true rfl) (own_r16 rc3) (vs' := [(.int c0), (.int c1), (.int c2), (.int c3), (.int (0 : Int32)), (.int (0 : Int32)), (.int (0 : Int32)), (.int (0 : Int32)), (.int (0 : Int32)), (.int (0 : Int32)), (.int (0 : Int32)), (.int (0 : Int32)), (.int (0 : Int32)), (.int (0 : Int32))]) rfl za32 (List.mem_of_getElem? (i := 0) rfl) rfl ?_
  intro h50 W50 V50 O50
  refine Ww.aload (pc' := 165) C at_163 rfl rfl rfl ?_
  refine Ww.iconst (pc' := 166) C at_165 (v := (4 : Int32)) rfl rfl ?_
  refine Ww.iconst (pc' := 167) C at_166 (v := (4 : Int32)) rfl rfl ?_
  refine Ww.iload (pc' := 169) C at_167 rfl rfl ?_
  refine Ww.iload (pc' := 171) C at_169 rfl rfl ?_
  refine Ww.lload (pc' := 173) C at_171 rfl rfl ?_
  refine Ww.lloadN (pc' := 174) C at_173 rfl rfl ?_
  refine Ww.callS (pc' := 177) C at_174 (fun vm0 C => (Wk.Con.pays C (Wn := 2) (own_at l hw O50 (4 : Int32) (Int32.ofNat sN) nV v31 p1) (w7 hw) (w6 hw) (by decide) (by decide))) Wk.cleanC (fun v h' q => Or.inl q.2) (w4 hw) (w5 hw) (w6 hw) (w7 hw) (by decide) (argsL := [(.int (4 : Int32)), (.int (Int32.ofNat sN)), (.int nV), (.long v31), (.long p1)]) (st := [(.int (4 : Int32)), (.ref a32)]) rfl rfl (lenOf pd21 rfl) rfl (Nat.le_of_eq rfl) (k' := 2) rfl (n' := 21) rfl (by decide) (by decide) rfl ?_
  intro r51 h52 Q52 O52
  obtain ⟨⟨c4, rfl, rc4, f4⟩, e53⟩ := Q52
  obtain rfl := e53.symm
  refine Ww.castore (pc' := 178) C at_177 V50 (by decide) (show _ < _ from Nat.le_of_ble_eq_true rfl) (own_r16 rc4) (vs' := [(.int c0), (.int c1), (.int c2), (.int c3), (.int c4), (.int (0 : Int32)), (.int (0 : Int32)), (.int (0 : Int32)), (.int (0 : Int32)), (.int (0 : Int32)), (.int (0 : Int32)), (.int (0 : Int32)), (.int (0 : Int32)), (.int (0 : Int32))]) rfl za32 (List.mem_of_getElem? (i := 0) rfl) rfl ?_
  intro h54 W54 V54 O54
  refine Ww.aload (pc' := 180) C at_178 rfl rfl rfl ?_
  refine Ww.iconst (pc' := 181) C at_180 (v := (5 : Int32)) rfl rfl ?_
  refine Ww.iconst (pc' := 182) C at_181 (v := (5 : Int32)) rfl rfl ?_
  refine Ww.iload (pc' := 184) C at_182 rfl rfl ?_
  refine Ww.iload (pc' := 186) C at_184 rfl rfl ?_
  refine Ww.lload (pc' := 188) C at_186 rfl rfl ?_
  refine Ww.lloadN (pc' := 189) C at_188 rfl rfl ?_
  refine Ww.callS (pc' := 192) C at_189 (fun vm0 C => (Wk.Con.pays C (Wn := 2) (own_at l hw O54 (5 : Int32) (Int32.ofNat sN) nV v31 p1) (w7 hw) (w6 hw) (by decide) (by decide))) Wk.cleanC (fun v h' q => Or.inl q.2) (w4 hw) (w5 hw) (w6 hw) (w7 hw) (by decide) (argsL := [(.int (5 : Int32)), (.int (Int32.ofNat sN)), (.int nV), (.long v31), (.long p1)]) (st := [(.int (5 : Int32)), (.ref a32)]) rfl rfl (lenOf pd21 rfl) rfl (Nat.le_of_eq rfl) (k' := 2) rfl (n' := 21) rfl (by decide) (by decide) rfl ?_
  intro r55 h56 Q56 O56
  obtain ⟨⟨c5, rfl, rc5, f5⟩, e57⟩ := Q56
  obtain rfl := e57.symm
  refine Ww.castore (pc' := 193) C at_192 V54 (by decide) (show _ < _ from Nat.le_of_ble_eq_true rfl) (own_r16 rc5) (vs' := [(.int c0), (.int c1), (.int c2), (.int c3), (.int c4), (.int c5), (.int (0 : Int32)), (.int (0 : Int32)), (.int (0 : Int32)), (.int (0 : Int32)), (.int (0 : Int32)), (.int (0 : Int32)), (.int (0 : Int32)), (.int (0 : Int32))]) rfl za32 (List.mem_of_getElem? (i := 0) rfl) rfl ?_
  intro h58 W58 V58 O58
  refine Ww.aload (pc' := 195) C at_193 rfl rfl rfl ?_
  refine Ww.bipush (pc' := 197) C at_195 (v := (6 : Int32)) rfl rfl ?_
  refine Ww.bipush (pc' := 199) C at_197 (v := (6 : Int32)) rfl rfl ?_
  refine Ww.iload (pc' := 201) C at_199 rfl rfl ?_
  refine Ww.iload (pc' := 203) C at_201 rfl rfl ?_
  refine Ww.lload (pc' := 205) C at_203 rfl rfl ?_
  refine Ww.lloadN (pc' := 206) C at_205 rfl rfl ?_
  refine Ww.callS (pc' := 209) C at_206 (fun vm0 C => (Wk.Con.pays C (Wn := 2) (own_at l hw O58 (6 : Int32) (Int32.ofNat sN) nV v31 p1) (w7 hw) (w6 hw) (by decide) (by decide))) Wk.cleanC (fun v h' q => Or.inl q.2) (w4 hw) (w5 hw) (w6 hw) (w7 hw) (by decide) (argsL := [(.int (6 : Int32)), (.int (Int32.ofNat sN)), (.int nV), (.long v31), (.long p1)]) (st := [(.int (6 : Int32)), (.ref a32)]) rfl rfl (lenOf pd21 rfl) rfl (Nat.le_of_eq rfl) (k' := 2) rfl (n' := 21) rfl (by decide) (by decide) rfl ?_
  intro r59 h60 Q60 O60
  obtain ⟨⟨c6, rfl, rc6, f6⟩, e61⟩ := Q60
  obtain rfl := e61.symm
  refine Ww.castore (pc' := 210) C at_209 V58 (by decide) (show _ < _ from Nat.le_of_ble_eq_true rfl) (own_r16 rc6) (vs' := [(.int c0), (.int c1), (.int c2), (.int c3), (.int c4), (.int c5), (.int c6), (.int (0 : Int32)), (.int (0 : Int32)), (.int (0 : Int32)), (.int (0 : Int32)), (.int (0 : Int32)), (.int (0 : Int32)), (.int (0 : Int32))]) rfl za32 (List.mem_of_getElem? (i := 0) rfl) rfl ?_
  intro h62 W62 V62 O62
  refine Ww.aload (pc' := 212) C at_210 rfl rfl rfl ?_
  refine Ww.bipush (pc' := 214) C at_212 (v := (7 : Int32)) rfl rfl ?_
  refine Ww.bipush (pc' := 216) C at_214 (v := (7 : Int32)) rfl rfl ?_
  refine Ww.iload (pc' := 218) C at_216 rfl rfl ?_
  refine Ww.iload (pc' := 220) C at_218 rfl rfl ?_
  refine Ww.lload (pc' := 222) C at_220 rfl rfl ?_
  refine Ww.lloadN (pc' := 223) C at_222 rfl rfl ?_
  refine Ww.callS (pc' := 226) C at_223 (fun vm0 C => (Wk.Con.pays C (Wn := 2) (own_at l hw O62 (7 : Int32) (Int32.ofNat sN) nV v31 p1) (w7 hw) (w6 hw) (by decide) (by decide))) Wk.cleanC (fun v h' q => Or.inl q.2) (w4 hw) (w5 hw) (w6 hw) (w7 hw) (by decide) (argsL := [(.int (7 : Int32)), (.int (Int32.ofNat sN)), (.int nV), (.long v31), (.long p1)]) (st := [(.int (7 : Int32)), (.ref a32)]) rfl rfl (lenOf pd21 rfl) rfl (Nat.le_of_eq rfl) (k' := 2) rfl (n' := 21) rfl (by decide) (by decide) rfl ?_
  intro r63 h64 Q64 O64
  obtain ⟨⟨c7, rfl, rc7, f7⟩, e65⟩ := Q64
  obtain rfl := e65.symm
  refine Ww.castore (pc' := 227) C at_226 V62 (by decide) (show _ < _ from Nat.le_of_ble_eq_true rfl) (own_r16 rc7) (vs' := [(.int c0), (.int c1), (.int c2), (.int c3), (.int c4), (.int c5), (.int c6), (.int c7), (.int (0 : Int32)), (.int (0 : Int32)), (.int (0 : Int32)), (.int (0 : Int32)), (.int (0 : Int32)), (.int (0 : Int32))]) rfl za32 (List.mem_of_getElem? (i := 0) rfl) rfl ?_
  intro h66 W66 V66 O66
  refine Ww.aload (pc' := 229) C at_227 rfl rfl rfl ?_
  refine Ww.bipush (pc' := 231) C at_229 (v := (8 : Int32)) rfl rfl ?_
  refine Ww.bipush (pc' := 233) C at_231 (v := (8 : Int32)) rfl rfl ?_
  refine Ww.iload (pc' := 235) C at_233 rfl rfl ?_
  refine Ww.iload (pc' := 237) C at_235 rfl rfl ?_
  refine Ww.lload (pc' := 239) C at_237 rfl rfl ?_
  refine Ww.lloadN (pc' := 240) C at_239 rfl rfl ?_
  refine Ww.callS (pc' := 243) C at_240 (fun vm0 C => (Wk.Con.pays C (Wn := 2) (own_at l hw O66 (8 : Int32) (Int32.ofNat sN) nV v31 p1) (w7 hw) (w6 hw) (by decide) (by decide))) Wk.cleanC (fun v h' q => Or.inl q.2) (w4 hw) (w5 hw) (w6 hw) (w7 hw) (by decide) (argsL := [(.int (8 : Int32)), (.int (Int32.ofNat sN)), (.int nV), (.long v31), (.long p1)]) (st := [(.int (8 : Int32)), (.ref a32)]) rfl rfl (lenOf pd21 rfl) rfl (Nat.le_of_eq rfl) (k' := 2) rfl (n' := 21) rfl (by decide) (by decide) rfl ?_
  intro r67 h68 Q68 O68
  obtain ⟨⟨c8, rfl, rc8, f8⟩, e69⟩ := Q68
  obtain rfl := e69.symm
  refine Ww.castore (pc' := 244) C at_243 V66 (by decide) (show _ < _ from Nat.le_of_ble_eq_true rfl) (own_r16 rc8) (vs' := [(.int c0), (.int c1), (.int c2), (.int c3), (.int c4), (.int c5), (.int c6), (.int c7), (.int c8), (.int (0 : Int32)), (.int (0 : Int32)), (.int (0 : Int32)), (.int (0 : Int32)), (.int (0 : Int32))]) rfl za32 (List.mem_of_getElem? (i := 0) rfl) rfl ?_
  intro h70 W70 V70 O70
  refine Ww.aload (pc' := 246) C at_244 rfl rfl rfl ?_
  refine Ww.bipush (pc' := 248) C at_246 (v := (9 : Int32)) rfl rfl ?_
  refine Ww.bipush (pc' := 250) C at_248 (v := (9 : Int32)) rfl rfl ?_
  refine Ww.iload (pc' := 252) C at_250 rfl rfl ?_
  refine Ww.iload (pc' := 254) C at_252 rfl rfl ?_
  refine Ww.lload (pc' := 256) C at_254 rfl rfl ?_
  refine Ww.lloadN (pc' := 257) C at_256 rfl rfl ?_
  refine Ww.callS (pc' := 260) C at_257 (fun vm0 C => (Wk.Con.pays C (Wn := 2) (own_at l hw O70 (9 : Int32) (Int32.ofNat sN) nV v31 p1) (w7 hw) (w6 hw) (by decide) (by decide))) Wk.cleanC (fun v h' q => Or.inl q.2) (w4 hw) (w5 hw) (w6 hw) (w7 hw) (by decide) (argsL := [(.int (9 : Int32)), (.int (Int32.ofNat sN)), (.int nV), (.long v31), (.long p1)]) (st := [(.int (9 : Int32)), (.ref a32)]) rfl rfl (lenOf pd21 rfl) rfl (Nat.le_of_eq rfl) (k' := 2) rfl (n' := 21) rfl (by decide) (by decide) rfl ?_
  intro r71 h72 Q72 O72
  obtain ⟨⟨c9, rfl, rc9, f9⟩, e73⟩ := Q72
  obtain rfl := e73.symm
  refine Ww.castore (pc' := 261) C at_260 V70 (by decide) (show _ < _ from Nat.le_of_ble_eq_true rfl) (own_r16 rc9) (vs' := [(.int c0), (.int c1), (.int c2), (.int c3), (.int c4), (.int c5), (.int c6), (.int c7), (.int c8), (.int c9), (.int (0 : Int32)), (.int (0 : Int32)), (.int (0 : Int32)), (.int (0 : Int32))]) rfl za32 (List.mem_of_getElem? (i := 0) rfl) rfl ?_
  intro h74 W74 V74 O74
  refine Ww.aload (pc' := 263) C at_261 rfl rfl rfl ?_
  refine Ww.bipush (pc' := 265) C at_263 (v := (10 : Int32)) rfl rfl ?_
  refine Ww.bipush (pc' := 267) C at_265 (v := (10 : Int32)) rfl rfl ?_
  refine Ww.iload (pc' := 269) C at_267 rfl rfl ?_
  refine Ww.iload (pc' := 271) C at_269 rfl rfl ?_
  refine Ww.lload (pc' := 273) C at_271 rfl rfl ?_
  refine Ww.lloadN (pc' := 274) C at_273 rfl rfl ?_
  refine Ww.callS (pc' := 277) C at_274 (fun vm0 C => (Wk.Con.pays C (Wn := 2) (own_at l hw O74 (10 : Int32) (Int32.ofNat sN) nV v31 p1) (w7 hw) (w6 hw) (by decide) (by decide))) Wk.cleanC (fun v h' q => Or.inl q.2) (w4 hw) (w5 hw) (w6 hw) (w7 hw) (by decide) (argsL := [(.int (10 : Int32)), (.int (Int32.ofNat sN)), (.int nV), (.long v31), (.long p1)]) (st := [(.int (10 : Int32)), (.ref a32)]) rfl rfl (lenOf pd21 rfl) rfl (Nat.le_of_eq rfl) (k' := 2) rfl (n' := 21) rfl (by decide) (by decide) rfl ?_
  intro r75 h76 Q76 O76
  obtain ⟨⟨c10, rfl, rc10, f10⟩, e77⟩ := Q76
  obtain rfl := e77.symm
  refine Ww.castore (pc' := 278) C at_277 V74 (by decide) (show _ < _ from Nat.le_of_ble_eq_true rfl) (own_r16 rc10) (vs' := [(.int c0), (.int c1), (.int c2), (.int c3), (.int c4), (.int c5), (.int c6), (.int c7), (.int c8), (.int c9), (.int c10), (.int (0 : Int32)), (.int (0 : Int32)), (.int (0 : Int32))]) rfl za32 (List.mem_of_getElem? (i := 0) rfl) rfl ?_
  intro h78 W78 V78 O78
  refine Ww.aload (pc' := 280) C at_278 rfl rfl rfl ?_
  refine Ww.bipush (pc' := 282) C at_280 (v := (11 : Int32)) rfl rfl ?_
  refine Ww.bipush (pc' := 284) C at_282 (v := (11 : Int32)) rfl rfl ?_
  refine Ww.iload (pc' := 286) C at_284 rfl rfl ?_
  refine Ww.iload (pc' := 288) C at_286 rfl rfl ?_
  refine Ww.lload (pc' := 290) C at_288 rfl rfl ?_
  refine Ww.lloadN (pc' := 291) C at_290 rfl rfl ?_
  refine Ww.callS (pc' := 294) C at_291 (fun vm0 C => (Wk.Con.pays C (Wn := 2) (own_at l hw O78 (11 : Int32) (Int32.ofNat sN) nV v31 p1) (w7 hw) (w6 hw) (by decide) (by decide))) Wk.cleanC (fun v h' q => Or.inl q.2) (w4 hw) (w5 hw) (w6 hw) (w7 hw) (by decide) (argsL := [(.int (11 : Int32)), (.int (Int32.ofNat sN)), (.int nV), (.long v31), (.long p1)]) (st := [(.int (11 : Int32)), (.ref a32)]) rfl rfl (lenOf pd21 rfl) rfl (Nat.le_of_eq rfl) (k' := 2) rfl (n' := 21) rfl (by decide) (by decide) rfl ?_
  intro r79 h80 Q80 O80
  obtain ⟨⟨c11, rfl, rc11, f11⟩, e81⟩ := Q80
  obtain rfl := e81.symm
  refine Ww.castore (pc' := 295) C at_294 V78 (by decide) (show _ < _ from Nat.le_of_ble_eq_true rfl) (own_r16 rc11) (vs' := [(.int c0), (.int c1), (.int c2), (.int c3), (.int c4), (.int c5), (.int c6), (.int c7), (.int c8), (.int c9), (.int c10), (.int c11), (.int (0 : Int32)), (.int (0 : Int32))]) rfl za32 (List.mem_of_getElem? (i := 0) rfl) rfl ?_
  intro h82 W82 V82 O82
  refine Ww.aload (pc' := 297) C at_295 rfl rfl rfl ?_
  refine Ww.bipush (pc' := 299) C at_297 (v := (12 : Int32)) rfl rfl ?_
  refine Ww.bipush (pc' := 301) C at_299 (v := (12 : Int32)) rfl rfl ?_
  refine Ww.iload (pc' := 303) C at_301 rfl rfl ?_
  refine Ww.iload (pc' := 305) C at_303 rfl rfl ?_
  refine Ww.lload (pc' := 307) C at_305 rfl rfl ?_
  refine Ww.lloadN (pc' := 308) C at_307 rfl rfl ?_
  refine Ww.callS (pc' := 311) C at_308 (fun vm0 C => (Wk.Con.pays C (Wn := 2) (own_at l hw O82 (12 : Int32) (Int32.ofNat sN) nV v31 p1) (w7 hw) (w6 hw) (by decide) (by decide))) Wk.cleanC (fun v h' q => Or.inl q.2) (w4 hw) (w5 hw) (w6 hw) (w7 hw) (by decide) (argsL := [(.int (12 : Int32)), (.int (Int32.ofNat sN)), (.int nV), (.long v31), (.long p1)]) (st := [(.int (12 : Int32)), (.ref a32)]) rfl rfl (lenOf pd21 rfl) rfl (Nat.le_of_eq rfl) (k' := 2) rfl (n' := 21) rfl (by decide) (by decide) rfl ?_
  intro r83 h84 Q84 O84
  obtain ⟨⟨c12, rfl, rc12, f12⟩, e85⟩ := Q84
  obtain rfl := e85.symm
  refine Ww.castore (pc' := 312) C at_311 V82 (by decide) (show _ < _ from Nat.le_of_ble_eq_true rfl) (own_r16 rc12) (vs' := [(.int c0), (.int c1), (.int c2), (.int c3), (.int c4), (.int c5), (.int c6), (.int c7), (.int c8), (.int c9), (.int c10), (.int c11), (.int c12), (.int (0 : Int32))]) rfl za32 (List.mem_of_getElem? (i := 0) rfl) rfl ?_
  intro h86 W86 V86 O86
  refine Ww.aload (pc' := 314) C at_312 rfl rfl rfl ?_
  refine Ww.bipush (pc' := 316) C at_314 (v := (13 : Int32)) rfl rfl ?_
  refine Ww.bipush (pc' := 318) C at_316 (v := (13 : Int32)) rfl rfl ?_
  refine Ww.iload (pc' := 320) C at_318 rfl rfl ?_
  refine Ww.iload (pc' := 322) C at_320 rfl rfl ?_
  refine Ww.lload (pc' := 324) C at_322 rfl rfl ?_
  refine Ww.lloadN (pc' := 325) C at_324 rfl rfl ?_
  refine Ww.callS (pc' := 328) C at_325 (fun vm0 C => (Wk.Con.pays C (Wn := 2) (own_at l hw O86 (13 : Int32) (Int32.ofNat sN) nV v31 p1) (w7 hw) (w6 hw) (by decide) (by decide))) Wk.cleanC (fun v h' q => Or.inl q.2) (w4 hw) (w5 hw) (w6 hw) (w7 hw) (by decide) (argsL := [(.int (13 : Int32)), (.int (Int32.ofNat sN)), (.int nV), (.long v31), (.long p1)]) (st := [(.int (13 : Int32)), (.ref a32)]) rfl rfl (lenOf pd21 rfl) rfl (Nat.le_of_eq rfl) (k' := 2) rfl (n' := 21) rfl (by decide) (by decide) rfl ?_
  intro r87 h88 Q88 O88
  obtain ⟨⟨c13, rfl, rc13, f13⟩, e89⟩ := Q88
  obtain rfl := e89.symm
  refine Ww.castore (pc' := 329) C at_328 V86 (by decide) (show _ < _ from Nat.le_of_ble_eq_true rfl) (own_r16 rc13) (vs' := [(.int c0), (.int c1), (.int c2), (.int c3), (.int c4), (.int c5), (.int c6), (.int c7), (.int c8), (.int c9), (.int c10), (.int c11), (.int c12), (.int c13)]) rfl za32 (List.mem_of_getElem? (i := 0) rfl) rfl ?_
  intro h90 W90 V90 O90
  refine Ww.newO (pc' := 332) C at_329 (w9 hw) (w10 hw) (w11 hw) (k' := 3) rfl (n' := 25) rfl (by decide) (by decide) rfl ?_
  intro a91 h92 ga91 za91 E92 Aa91 Da91 Ua91 O92
  have F93 : Fld Z h92 a91 "java/lang/String" "coder" "B" (.int (0 : Int32)) := Da91 (Or.inr (w35 hw)) (ty := .byte) (by decide)
  have F94 : Fld Z h92 a91 "java/lang/String" "value" "[B" .null := Da91 (Or.inr (w37 hw)) (ty := (.array .byte)) (by decide)
  refine Ww.dup (pc' := 333) C at_332 rfl rfl ?_
  refine Ww.aload (pc' := 335) C at_333 rfl rfl rfl ?_
  have hp95 : ∀ c ∈ ([c0, c1, c2, c3, c4, c5, c6, c7, c8, c9, c10, c11, c12, c13] : List Int32), ¬ c < 0 ∧ ¬ (255 : Int32) < c := (List.forall_mem_cons.mpr ⟨rc0, (List.forall_mem_cons.mpr ⟨rc1, (List.forall_mem_cons.mpr ⟨rc2, (List.forall_mem_cons.mpr ⟨rc3, (List.forall_mem_cons.mpr ⟨rc4, (List.forall_mem_cons.mpr ⟨rc5, (List.forall_mem_cons.mpr ⟨rc6, (List.forall_mem_cons.mpr ⟨rc7, (List.forall_mem_cons.mpr ⟨rc8, (List.forall_mem_cons.mpr ⟨rc9, (List.forall_mem_cons.mpr ⟨rc10, (List.forall_mem_cons.mpr ⟨rc11, (List.forall_mem_cons.mpr ⟨rc12, (List.forall_mem_cons.mpr ⟨rc13, (fun _ h => nomatch h)⟩)⟩)⟩)⟩)⟩)⟩)⟩)⟩)⟩)⟩)⟩)⟩)⟩)⟩)
  refine Ww.callI (pc' := 338) C at_335 (a := a91) (fun vm0 C => (strNew C hw hs O92 (cs := [c0, c1, c2, c3, c4, c5, c6, c7, c8, c9, c10, c11, c12, c13]) (n := 14) (Wn := 1) za91 Aa91 F94 F93 (V90.ext E92) rfl (by decide) (by decide) hp95 (by decide) (by decide))) (strNewC (n := 14) O92 za91 rfl (by decide) hp95) (fun v h' q => Or.inr (Or.inr ⟨[a91], allS (List.mem_of_getElem? (i := 0) rfl) all0, q.2.1⟩)) rfl (w12 hw) (w13 hw) (w14 hw) (by decide) (argsL := [(.ref a32)]) (st := [(.ref a91)]) rfl rfl (lenOf pd22 rfl) rfl (Nat.le_of_eq rfl) (k' := 4) rfl (n' := 39) rfl (by decide) (by decide) rfl ?_
  intro r96 h97 Q97 O97
  obtain ⟨rfl, Kh97, Sh97⟩ := Q97
  refine Ww.astore (pc' := 340) C at_338 rfl (Ls' := #[.val (.long p0), .second, .val (.long p1), .second, .val (.int p2), .val (.int p3), .val (.ref a11), .val (.int nV), .val (.int v24), .val (.int (Int32.ofNat sN)), .val (.int v26), .val (.int v28), .val (.long v31), .second, .val (.ref a32), .val (.ref a91), .unset]) rfl rfl ?_
  rcases gnV with rfl | rfl | rfl | rfl | rfl | rfl | rfl
  · -- the length is 0
    have em : v24 = (0 : Int32) := by
      subst hv23 hv24
      decide
    subst em
    have ed : v28 = (48 : Int32) := by
      subst hv27 hv28
      decide
    subst ed
    have ee : v26 = Int32.ofNat (sN + 0) := Wk.add32 (b := 0) (by omega) hv26
    subst ee
    have hb := own_bits 48 hv29 hv30 hv31 (by decide) (by decide) (by decide)
    refine Ww.aload (pc' := 342) C at_340 rfl rfl rfl ?_
    refine Ww.iload (pc' := 344) C at_342 rfl rfl ?_
    refine Ww.iload (pc' := 346) C at_344 rfl rfl ?_
    refine Ww.callSS (pc' := 349) C at_346 (Ww.Con.pays hE (Wn := 0) (own_bd_0 l hw hE O97 hs bs a91 ([c0, c1, c2, c3, c4, c5, c6, c7, c8, c9, c10, c11, c12, c13] : List Int32) sN Sh97 rfl hs3) (w41 hw) (w40 hw) (by decide) (by decide)) Wk.cleanC (w38 hw) (w39 hw) (w40 hw) (w41 hw) (by decide) (argsL := [(.ref a91), (.int (Int32.ofNat sN)), (.int (Int32.ofNat (sN + 0)))]) (st := []) rfl rfl (lenOf pd23 rfl) rfl (Nat.le_of_eq rfl) (k' := 12) rfl (n' := 87) rfl (by decide) (by decide) rfl ?_
    intro r98 h99 Q99 O99
    obtain ⟨d100, rfl, E99, D99⟩ := Q99
    refine Ww.astore (pc' := 351) C at_349 rfl (Ls' := #[.val (.long p0), .second, .val (.long p1), .second, .val (.int p2), .val (.int p3), .val (.ref a11), .val (.int (0 : Int32)), .val (.int (0 : Int32)), .val (.int (Int32.ofNat sN)), .val (.int (Int32.ofNat (sN + 0))), .val (.int (48 : Int32)), .val (.long v31), .second, .val (.ref a32), .val (.ref a91), .val (.ref d100)]) rfl rfl ?_
    refine Ww.aload (pc' := 353) C at_351 rfl rfl rfl ?_
    refine Ww.alen (pc' := 354) C at_353 D99 (z := (0 : Int32)) rfl rfl ?_
    refine Ww.iload (pc' := 356) C at_354 rfl rfl ?_
    refine Ww.icmp_eq C at_356 (by decide) (pcT := 361) (by decide) (pc' := 359) rfl (fun q101 => ?_) (fun q => absurd q (by decide))
    refine Ww.aload (pc' := 363) C at_361 rfl rfl rfl ?_
    refine Ww.iconst (pc' := 364) C at_363 (v := (0 : Int32)) rfl rfl ?_
    refine Ww.iload (pc' := 366) C at_364 rfl rfl ?_
    refine Ww.lload (pc' := 368) C at_366 rfl rfl ?_
    refine Ww.callS (pc' := 371) C at_368 (fun vm0 C => (Wk.Con.pays C (Wn := 0) (own_okT l hw O99 d100 (0 : Int32) (0 : Int32) v31 (by decide)) (w133 hw) (w6 hw) (by decide) (by decide))) Wk.cleanC (fun v h' q => Or.inl q.2) (w131 hw) (w132 hw) (w6 hw) (w133 hw) (by decide) (argsL := [(.ref d100), (.int (0 : Int32)), (.int (0 : Int32)), (.long v31)]) (st := []) rfl rfl (lenOf pd24 rfl) rfl (Nat.le_of_eq rfl) (k' := 12) rfl (n' := 87) rfl (by decide) (by decide) rfl ?_
    intro r102 h103 Q103 O103
    obtain ⟨rfl, e104⟩ := Q103
    obtain rfl := e104.symm
    refine Ww.if_eq C at_371 (by decide) (pcT := 443) (by decide) (pc' := 374) rfl (fun q => absurd q (by decide)) (fun q105 => ?_)
    refine Ww.aload (pc' := 376) C at_374 rfl rfl rfl ?_
    refine Ww.iconst (pc' := 377) C at_376 (v := (1 : Int32)) rfl rfl ?_
    refine Ww.iload (pc' := 379) C at_377 rfl rfl ?_
    refine Ww.lload (pc' := 381) C at_379 rfl rfl ?_
    refine Ww.callS (pc' := 384) C at_381 (fun vm0 C => (Wk.Con.pays C (Wn := 0) (own_okT l hw O99 d100 (1 : Int32) (0 : Int32) v31 (by decide)) (w133 hw) (w6 hw) (by decide) (by decide))) Wk.cleanC (fun v h' q => Or.inl q.2) (w131 hw) (w132 hw) (w6 hw) (w133 hw) (by decide) (argsL := [(.ref d100), (.int (1 : Int32)), (.int (0 : Int32)), (.long v31)]) (st := []) rfl rfl (lenOf pd24 rfl) rfl (Nat.le_of_eq rfl) (k' := 12) rfl (n' := 87) rfl (by decide) (by decide) rfl ?_
    intro r106 h107 Q107 O107
    obtain ⟨rfl, e108⟩ := Q107
    obtain rfl := e108.symm
    refine Ww.if_eq C at_384 (by decide) (pcT := 443) (by decide) (pc' := 387) rfl (fun q => absurd q (by decide)) (fun q109 => ?_)
    refine Ww.aload (pc' := 389) C at_387 rfl rfl rfl ?_
    refine Ww.iconst (pc' := 390) C at_389 (v := (2 : Int32)) rfl rfl ?_
    refine Ww.iload (pc' := 392) C at_390 rfl rfl ?_
    refine Ww.lload (pc' := 394) C at_392 rfl rfl ?_
    refine Ww.callS (pc' := 397) C at_394 (fun vm0 C => (Wk.Con.pays C (Wn := 0) (own_okT l hw O99 d100 (2 : Int32) (0 : Int32) v31 (by decide)) (w133 hw) (w6 hw) (by decide) (by decide))) Wk.cleanC (fun v h' q => Or.inl q.2) (w131 hw) (w132 hw) (w6 hw) (w133 hw) (by decide) (argsL := [(.ref d100), (.int (2 : Int32)), (.int (0 : Int32)), (.long v31)]) (st := []) rfl rfl (lenOf pd24 rfl) rfl (Nat.le_of_eq rfl) (k' := 12) rfl (n' := 87) rfl (by decide) (by decide) rfl ?_
    intro r110 h111 Q111 O111
    obtain ⟨rfl, e112⟩ := Q111
    obtain rfl := e112.symm
    refine Ww.if_eq C at_397 (by decide) (pcT := 443) (by decide) (pc' := 400) rfl (fun q => absurd q (by decide)) (fun q113 => ?_)
    refine Ww.aload (pc' := 402) C at_400 rfl rfl rfl ?_
    refine Ww.iconst (pc' := 403) C at_402 (v := (3 : Int32)) rfl rfl ?_
    refine Ww.iload (pc' := 405) C at_403 rfl rfl ?_
    refine Ww.lload (pc' := 407) C at_405 rfl rfl ?_
    refine Ww.callS (pc' := 410) C at_407 (fun vm0 C => (Wk.Con.pays C (Wn := 0) (own_okT l hw O99 d100 (3 : Int32) (0 : Int32) v31 (by decide)) (w133 hw) (w6 hw) (by decide) (by decide))) Wk.cleanC (fun v h' q => Or.inl q.2) (w131 hw) (w132 hw) (w6 hw) (w133 hw) (by decide) (argsL := [(.ref d100), (.int (3 : Int32)), (.int (0 : Int32)), (.long v31)]) (st := []) rfl rfl (lenOf pd24 rfl) rfl (Nat.le_of_eq rfl) (k' := 12) rfl (n' := 87) rfl (by decide) (by decide) rfl ?_
    intro r114 h115 Q115 O115
    obtain ⟨rfl, e116⟩ := Q115
    obtain rfl := e116.symm
    refine Ww.if_eq C at_410 (by decide) (pcT := 443) (by decide) (pc' := 413) rfl (fun q => absurd q (by decide)) (fun q117 => ?_)
    refine Ww.aload (pc' := 415) C at_413 rfl rfl rfl ?_
    refine Ww.iconst (pc' := 416) C at_415 (v := (4 : Int32)) rfl rfl ?_
    refine Ww.iload (pc' := 418) C at_416 rfl rfl ?_
    refine Ww.lload (pc' := 420) C at_418 rfl rfl ?_
    refine Ww.callS (pc' := 423) C at_420 (fun vm0 C => (Wk.Con.pays C (Wn := 0) (own_okT l hw O99 d100 (4 : Int32) (0 : Int32) v31 (by decide)) (w133 hw) (w6 hw) (by decide) (by decide))) Wk.cleanC (fun v h' q => Or.inl q.2) (w131 hw) (w132 hw) (w6 hw) (w133 hw) (by decide) (argsL := [(.ref d100), (.int (4 : Int32)), (.int (0 : Int32)), (.long v31)]) (st := []) rfl rfl (lenOf pd24 rfl) rfl (Nat.le_of_eq rfl) (k' := 12) rfl (n' := 87) rfl (by decide) (by decide) rfl ?_
    intro r118 h119 Q119 O119
    obtain ⟨rfl, e120⟩ := Q119
    obtain rfl := e120.symm
    refine Ww.if_eq C at_423 (by decide) (pcT := 443) (by decide) (pc' := 426) rfl (fun q => absurd q (by decide)) (fun q121 => ?_)
    refine Ww.aload (pc' := 428) C at_426 rfl rfl rfl ?_
    refine Ww.iconst (pc' := 429) C at_428 (v := (5 : Int32)) rfl rfl ?_
    refine Ww.iload (pc' := 431) C at_429 rfl rfl ?_
    refine Ww.lload (pc' := 433) C at_431 rfl rfl ?_
    refine Ww.callS (pc' := 436) C at_433 (fun vm0 C => (Wk.Con.pays C (Wn := 0) (own_okT l hw O99 d100 (5 : Int32) (0 : Int32) v31 (by decide)) (w133 hw) (w6 hw) (by decide) (by decide))) Wk.cleanC (fun v h' q => Or.inl q.2) (w131 hw) (w132 hw) (w6 hw) (w133 hw) (by decide) (argsL := [(.ref d100), (.int (5 : Int32)), (.int (0 : Int32)), (.long v31)]) (st := []) rfl rfl (lenOf pd24 rfl) rfl (Nat.le_of_eq rfl) (k' := 12) rfl (n' := 87) rfl (by decide) (by decide) rfl ?_
    intro r122 h123 Q123 O123
    obtain ⟨rfl, e124⟩ := Q123
    obtain rfl := e124.symm
    refine Ww.if_eq C at_436 (by decide) (pcT := 443) (by decide) (pc' := 439) rfl (fun q => absurd q (by decide)) (fun q125 => ?_)
    refine Ww.iconst (pc' := 440) C at_439 (v := (1 : Int32)) rfl rfl ?_
    refine Ww.goto C at_440 (by decide) (pc' := 444) (by decide) ?_
    exact Ww.retNar (ty := .boolean) C hE (by simp) at_444 rfl (by decide) (by decide) rfl
  · -- the length is 2
    have em : v24 = (1 : Int32) := by
      subst hv23 hv24
      decide
    subst em
    have ed : v28 = (40 : Int32) := by
      subst hv27 hv28
      decide
    subst ed
    have ee : v26 = Int32.ofNat (sN + 2) := Wk.add32 (b := 2) (by omega) hv26
    subst ee
    have hb := own_bits 40 hv29 hv30 hv31 (by decide) (by decide) (by decide)
    refine Ww.aload (pc' := 342) C at_340 rfl rfl rfl ?_
    refine Ww.iload (pc' := 344) C at_342 rfl rfl ?_
    refine Ww.iload (pc' := 346) C at_344 rfl rfl ?_
    obtain ⟨d0, d1, hd, e0, e1⟩ := own_seg_2 (bits := v31) hs3 f0 f1 f2 f3 f4 f5 f6 f7 f8 f9 f10 f11 f12 f13
    refine Ww.callSS (pc' := 349) C at_346 (Ww.Con.pays hE (Wn := 0) (own_bd_2 l hw hE O97 hs bs a91 ([c0, c1, c2, c3, c4, c5, c6, c7, c8, c9, c10, c11, c12, c13] : List Int32) sN Sh97 rfl hs3 hd (by rw [e0]; exact own_tb _ (six_lt _ 0)) (by rw [e1]; exact own_tb _ (six_lt _ 1))) (w41 hw) (w40 hw) (by decide) (by decide)) Wk.cleanC (w38 hw) (w39 hw) (w40 hw) (w41 hw) (by decide) (argsL := [(.ref a91), (.int (Int32.ofNat sN)), (.int (Int32.ofNat (sN + 2)))]) (st := []) rfl rfl (lenOf pd23 rfl) rfl (Nat.le_of_eq rfl) (k' := 12) rfl (n' := 87) rfl (by decide) (by decide) rfl ?_
    intro r126 h127 Q127 O127
    obtain ⟨d128, rfl, E127, D127⟩ := Q127
    refine Ww.astore (pc' := 351) C at_349 rfl (Ls' := #[.val (.long p0), .second, .val (.long p1), .second, .val (.int p2), .val (.int p3), .val (.ref a11), .val (.int (2 : Int32)), .val (.int (1 : Int32)), .val (.int (Int32.ofNat sN)), .val (.int (Int32.ofNat (sN + 2))), .val (.int (40 : Int32)), .val (.long v31), .second, .val (.ref a32), .val (.ref a91), .val (.ref d128)]) rfl rfl ?_
    refine Ww.aload (pc' := 353) C at_351 rfl rfl rfl ?_
    refine Ww.alen (pc' := 354) C at_353 D127 (z := (1 : Int32)) rfl rfl ?_
    refine Ww.iload (pc' := 356) C at_354 rfl rfl ?_
    refine Ww.icmp_eq C at_356 (by decide) (pcT := 361) (by decide) (pc' := 359) rfl (fun q129 => ?_) (fun q => absurd q (by decide))
    refine Ww.aload (pc' := 363) C at_361 rfl rfl rfl ?_
    refine Ww.iconst (pc' := 364) C at_363 (v := (0 : Int32)) rfl rfl ?_
    refine Ww.iload (pc' := 366) C at_364 rfl rfl ?_
    refine Ww.lload (pc' := 368) C at_366 rfl rfl ?_
    refine Ww.callS (pc' := 371) C at_368 (fun vm0 C => (Wk.Con.pays C (Wn := 0) (own_okB l hw O127 d128 (0 : Int32) (1 : Int32) v31 [(.int (((dS2 (Int32.ofNat (six (N64 v31) 0)) (Int32.ofNat (six (N64 v31) 1))) >>> ((16 : Int32) &&& 31)).toInt8.toInt32))] (((dS2 (Int32.ofNat (six (N64 v31) 0)) (Int32.ofNat (six (N64 v31) 1))) >>> ((16 : Int32) &&& 31)).toInt8.toInt32) D127 (by decide) (by decide) rfl (own_f_2_0 v31 hb)) (w133 hw) (w6 hw) (by decide) (by decide))) Wk.cleanC (fun v h' q => Or.inl q.2) (w131 hw) (w132 hw) (w6 hw) (w133 hw) (by decide) (argsL := [(.ref d128), (.int (0 : Int32)), (.int (1 : Int32)), (.long v31)]) (st := []) rfl rfl (lenOf pd24 rfl) rfl (Nat.le_of_eq rfl) (k' := 12) rfl (n' := 87) rfl (by decide) (by decide) rfl ?_
    intro r130 h131 Q131 O131
    obtain ⟨rfl, e132⟩ := Q131
    obtain rfl := e132.symm
    refine Ww.if_eq C at_371 (by decide) (pcT := 443) (by decide) (pc' := 374) rfl (fun q => absurd q (by decide)) (fun q133 => ?_)
    refine Ww.aload (pc' := 376) C at_374 rfl rfl rfl ?_
    refine Ww.iconst (pc' := 377) C at_376 (v := (1 : Int32)) rfl rfl ?_
    refine Ww.iload (pc' := 379) C at_377 rfl rfl ?_
    refine Ww.lload (pc' := 381) C at_379 rfl rfl ?_
    refine Ww.callS (pc' := 384) C at_381 (fun vm0 C => (Wk.Con.pays C (Wn := 0) (own_okT l hw O127 d128 (1 : Int32) (1 : Int32) v31 (by decide)) (w133 hw) (w6 hw) (by decide) (by decide))) Wk.cleanC (fun v h' q => Or.inl q.2) (w131 hw) (w132 hw) (w6 hw) (w133 hw) (by decide) (argsL := [(.ref d128), (.int (1 : Int32)), (.int (1 : Int32)), (.long v31)]) (st := []) rfl rfl (lenOf pd24 rfl) rfl (Nat.le_of_eq rfl) (k' := 12) rfl (n' := 87) rfl (by decide) (by decide) rfl ?_
    intro r134 h135 Q135 O135
    obtain ⟨rfl, e136⟩ := Q135
    obtain rfl := e136.symm
    refine Ww.if_eq C at_384 (by decide) (pcT := 443) (by decide) (pc' := 387) rfl (fun q => absurd q (by decide)) (fun q137 => ?_)
    refine Ww.aload (pc' := 389) C at_387 rfl rfl rfl ?_
    refine Ww.iconst (pc' := 390) C at_389 (v := (2 : Int32)) rfl rfl ?_
    refine Ww.iload (pc' := 392) C at_390 rfl rfl ?_
    refine Ww.lload (pc' := 394) C at_392 rfl rfl ?_
    refine Ww.callS (pc' := 397) C at_394 (fun vm0 C => (Wk.Con.pays C (Wn := 0) (own_okT l hw O127 d128 (2 : Int32) (1 : Int32) v31 (by decide)) (w133 hw) (w6 hw) (by decide) (by decide))) Wk.cleanC (fun v h' q => Or.inl q.2) (w131 hw) (w132 hw) (w6 hw) (w133 hw) (by decide) (argsL := [(.ref d128), (.int (2 : Int32)), (.int (1 : Int32)), (.long v31)]) (st := []) rfl rfl (lenOf pd24 rfl) rfl (Nat.le_of_eq rfl) (k' := 12) rfl (n' := 87) rfl (by decide) (by decide) rfl ?_
    intro r138 h139 Q139 O139
    obtain ⟨rfl, e140⟩ := Q139
    obtain rfl := e140.symm
    refine Ww.if_eq C at_397 (by decide) (pcT := 443) (by decide) (pc' := 400) rfl (fun q => absurd q (by decide)) (fun q141 => ?_)
    refine Ww.aload (pc' := 402) C at_400 rfl rfl rfl ?_
    refine Ww.iconst (pc' := 403) C at_402 (v := (3 : Int32)) rfl rfl ?_
    refine Ww.iload (pc' := 405) C at_403 rfl rfl ?_
    refine Ww.lload (pc' := 407) C at_405 rfl rfl ?_
    refine Ww.callS (pc' := 410) C at_407 (fun vm0 C => (Wk.Con.pays C (Wn := 0) (own_okT l hw O127 d128 (3 : Int32) (1 : Int32) v31 (by decide)) (w133 hw) (w6 hw) (by decide) (by decide))) Wk.cleanC (fun v h' q => Or.inl q.2) (w131 hw) (w132 hw) (w6 hw) (w133 hw) (by decide) (argsL := [(.ref d128), (.int (3 : Int32)), (.int (1 : Int32)), (.long v31)]) (st := []) rfl rfl (lenOf pd24 rfl) rfl (Nat.le_of_eq rfl) (k' := 12) rfl (n' := 87) rfl (by decide) (by decide) rfl ?_
    intro r142 h143 Q143 O143
    obtain ⟨rfl, e144⟩ := Q143
    obtain rfl := e144.symm
    refine Ww.if_eq C at_410 (by decide) (pcT := 443) (by decide) (pc' := 413) rfl (fun q => absurd q (by decide)) (fun q145 => ?_)
    refine Ww.aload (pc' := 415) C at_413 rfl rfl rfl ?_
    refine Ww.iconst (pc' := 416) C at_415 (v := (4 : Int32)) rfl rfl ?_
    refine Ww.iload (pc' := 418) C at_416 rfl rfl ?_
    refine Ww.lload (pc' := 420) C at_418 rfl rfl ?_
    refine Ww.callS (pc' := 423) C at_420 (fun vm0 C => (Wk.Con.pays C (Wn := 0) (own_okT l hw O127 d128 (4 : Int32) (1 : Int32) v31 (by decide)) (w133 hw) (w6 hw) (by decide) (by decide))) Wk.cleanC (fun v h' q => Or.inl q.2) (w131 hw) (w132 hw) (w6 hw) (w133 hw) (by decide) (argsL := [(.ref d128), (.int (4 : Int32)), (.int (1 : Int32)), (.long v31)]) (st := []) rfl rfl (lenOf pd24 rfl) rfl (Nat.le_of_eq rfl) (k' := 12) rfl (n' := 87) rfl (by decide) (by decide) rfl ?_
    intro r146 h147 Q147 O147
    obtain ⟨rfl, e148⟩ := Q147
    obtain rfl := e148.symm
    refine Ww.if_eq C at_423 (by decide) (pcT := 443) (by decide) (pc' := 426) rfl (fun q => absurd q (by decide)) (fun q149 => ?_)
    refine Ww.aload (pc' := 428) C at_426 rfl rfl rfl ?_
    refine Ww.iconst (pc' := 429) C at_428 (v := (5 : Int32)) rfl rfl ?_
    refine Ww.iload (pc' := 431) C at_429 rfl rfl ?_
    refine Ww.lload (pc' := 433) C at_431 rfl rfl ?_
    refine Ww.callS (pc' := 436) C at_433 (fun vm0 C => (Wk.Con.pays C (Wn := 0) (own_okT l hw O127 d128 (5 : Int32) (1 : Int32) v31 (by decide)) (w133 hw) (w6 hw) (by decide) (by decide))) Wk.cleanC (fun v h' q => Or.inl q.2) (w131 hw) (w132 hw) (w6 hw) (w133 hw) (by decide) (argsL := [(.ref d128), (.int (5 : Int32)), (.int (1 : Int32)), (.long v31)]) (st := []) rfl rfl (lenOf pd24 rfl) rfl (Nat.le_of_eq rfl) (k' := 12) rfl (n' := 87) rfl (by decide) (by decide) rfl ?_
    intro r150 h151 Q151 O151
    obtain ⟨rfl, e152⟩ := Q151
    obtain rfl := e152.symm
    refine Ww.if_eq C at_436 (by decide) (pcT := 443) (by decide) (pc' := 439) rfl (fun q => absurd q (by decide)) (fun q153 => ?_)
    refine Ww.iconst (pc' := 440) C at_439 (v := (1 : Int32)) rfl rfl ?_
    refine Ww.goto C at_440 (by decide) (pc' := 444) (by decide) ?_
    exact Ww.retNar (ty := .boolean) C hE (by simp) at_444 rfl (by decide) (by decide) rfl
  · -- the length is 3
    have em : v24 = (2 : Int32) := by
      subst hv23 hv24
      decide
    subst em
    have ed : v28 = (32 : Int32) := by
      subst hv27 hv28
      decide
    subst ed
    have ee : v26 = Int32.ofNat (sN + 3) := Wk.add32 (b := 3) (by omega) hv26
    subst ee
    have hb := own_bits 32 hv29 hv30 hv31 (by decide) (by decide) (by decide)
    refine Ww.aload (pc' := 342) C at_340 rfl rfl rfl ?_
    refine Ww.iload (pc' := 344) C at_342 rfl rfl ?_
    refine Ww.iload (pc' := 346) C at_344 rfl rfl ?_
    obtain ⟨d0, d1, d2, hd, e0, e1, e2⟩ := own_seg_3 (bits := v31) hs3 f0 f1 f2 f3 f4 f5 f6 f7 f8 f9 f10 f11 f12 f13
    refine Ww.callSS (pc' := 349) C at_346 (Ww.Con.pays hE (Wn := 0) (own_bd_3 l hw hE O97 hs bs a91 ([c0, c1, c2, c3, c4, c5, c6, c7, c8, c9, c10, c11, c12, c13] : List Int32) sN Sh97 rfl hs3 hd (by rw [e0]; exact own_tb _ (six_lt _ 0)) (by rw [e1]; exact own_tb _ (six_lt _ 1)) (by rw [e2]; exact own_tb _ (six_lt _ 2))) (w41 hw) (w40 hw) (by decide) (by decide)) Wk.cleanC (w38 hw) (w39 hw) (w40 hw) (w41 hw) (by decide) (argsL := [(.ref a91), (.int (Int32.ofNat sN)), (.int (Int32.ofNat (sN + 3)))]) (st := []) rfl rfl (lenOf pd23 rfl) rfl (Nat.le_of_eq rfl) (k' := 12) rfl (n' := 87) rfl (by decide) (by decide) rfl ?_
    intro r154 h155 Q155 O155
    obtain ⟨d156, rfl, E155, D155⟩ := Q155
    refine Ww.astore (pc' := 351) C at_349 rfl (Ls' := #[.val (.long p0), .second, .val (.long p1), .second, .val (.int p2), .val (.int p3), .val (.ref a11), .val (.int (3 : Int32)), .val (.int (2 : Int32)), .val (.int (Int32.ofNat sN)), .val (.int (Int32.ofNat (sN + 3))), .val (.int (32 : Int32)), .val (.long v31), .second, .val (.ref a32), .val (.ref a91), .val (.ref d156)]) rfl rfl ?_
    refine Ww.aload (pc' := 353) C at_351 rfl rfl rfl ?_
    refine Ww.alen (pc' := 354) C at_353 D155 (z := (2 : Int32)) rfl rfl ?_
    refine Ww.iload (pc' := 356) C at_354 rfl rfl ?_
    refine Ww.icmp_eq C at_356 (by decide) (pcT := 361) (by decide) (pc' := 359) rfl (fun q157 => ?_) (fun q => absurd q (by decide))
    refine Ww.aload (pc' := 363) C at_361 rfl rfl rfl ?_
    refine Ww.iconst (pc' := 364) C at_363 (v := (0 : Int32)) rfl rfl ?_
    refine Ww.iload (pc' := 366) C at_364 rfl rfl ?_
    refine Ww.lload (pc' := 368) C at_366 rfl rfl ?_
    refine Ww.callS (pc' := 371) C at_368 (fun vm0 C => (Wk.Con.pays C (Wn := 0) (own_okB l hw O155 d156 (0 : Int32) (2 : Int32) v31 [(.int (((dS3 (Int32.ofNat (six (N64 v31) 0)) (Int32.ofNat (six (N64 v31) 1)) (Int32.ofNat (six (N64 v31) 2))) >>> ((16 : Int32) &&& 31)).toInt8.toInt32)), (.int (((dS3 (Int32.ofNat (six (N64 v31) 0)) (Int32.ofNat (six (N64 v31) 1)) (Int32.ofNat (six (N64 v31) 2))) >>> ((8 : Int32) &&& 31)).toInt8.toInt32))] (((dS3 (Int32.ofNat (six (N64 v31) 0)) (Int32.ofNat (six (N64 v31) 1)) (Int32.ofNat (six (N64 v31) 2))) >>> ((16 : Int32) &&& 31)).toInt8.toInt32) D155 (by decide) (by decide) rfl (own_f_3_0 v31 hb)) (w133 hw) (w6 hw) (by decide) (by decide))) Wk.cleanC (fun v h' q => Or.inl q.2) (w131 hw) (w132 hw) (w6 hw) (w133 hw) (by decide) (argsL := [(.ref d156), (.int (0 : Int32)), (.int (2 : Int32)), (.long v31)]) (st := []) rfl rfl (lenOf pd24 rfl) rfl (Nat.le_of_eq rfl) (k' := 12) rfl (n' := 87) rfl (by decide) (by decide) rfl ?_
    intro r158 h159 Q159 O159
    obtain ⟨rfl, e160⟩ := Q159
    obtain rfl := e160.symm
    refine Ww.if_eq C at_371 (by decide) (pcT := 443) (by decide) (pc' := 374) rfl (fun q => absurd q (by decide)) (fun q161 => ?_)
    refine Ww.aload (pc' := 376) C at_374 rfl rfl rfl ?_
    refine Ww.iconst (pc' := 377) C at_376 (v := (1 : Int32)) rfl rfl ?_
    refine Ww.iload (pc' := 379) C at_377 rfl rfl ?_
    refine Ww.lload (pc' := 381) C at_379 rfl rfl ?_
    refine Ww.callS (pc' := 384) C at_381 (fun vm0 C => (Wk.Con.pays C (Wn := 0) (own_okB l hw O155 d156 (1 : Int32) (2 : Int32) v31 [(.int (((dS3 (Int32.ofNat (six (N64 v31) 0)) (Int32.ofNat (six (N64 v31) 1)) (Int32.ofNat (six (N64 v31) 2))) >>> ((16 : Int32) &&& 31)).toInt8.toInt32)), (.int (((dS3 (Int32.ofNat (six (N64 v31) 0)) (Int32.ofNat (six (N64 v31) 1)) (Int32.ofNat (six (N64 v31) 2))) >>> ((8 : Int32) &&& 31)).toInt8.toInt32))] (((dS3 (Int32.ofNat (six (N64 v31) 0)) (Int32.ofNat (six (N64 v31) 1)) (Int32.ofNat (six (N64 v31) 2))) >>> ((8 : Int32) &&& 31)).toInt8.toInt32) D155 (by decide) (by decide) rfl (own_f_3_1 v31 hb)) (w133 hw) (w6 hw) (by decide) (by decide))) Wk.cleanC (fun v h' q => Or.inl q.2) (w131 hw) (w132 hw) (w6 hw) (w133 hw) (by decide) (argsL := [(.ref d156), (.int (1 : Int32)), (.int (2 : Int32)), (.long v31)]) (st := []) rfl rfl (lenOf pd24 rfl) rfl (Nat.le_of_eq rfl) (k' := 12) rfl (n' := 87) rfl (by decide) (by decide) rfl ?_
    intro r162 h163 Q163 O163
    obtain ⟨rfl, e164⟩ := Q163
    obtain rfl := e164.symm
    refine Ww.if_eq C at_384 (by decide) (pcT := 443) (by decide) (pc' := 387) rfl (fun q => absurd q (by decide)) (fun q165 => ?_)
    refine Ww.aload (pc' := 389) C at_387 rfl rfl rfl ?_
    refine Ww.iconst (pc' := 390) C at_389 (v := (2 : Int32)) rfl rfl ?_
    refine Ww.iload (pc' := 392) C at_390 rfl rfl ?_
    refine Ww.lload (pc' := 394) C at_392 rfl rfl ?_
    refine Ww.callS (pc' := 397) C at_394 (fun vm0 C => (Wk.Con.pays C (Wn := 0) (own_okT l hw O155 d156 (2 : Int32) (2 : Int32) v31 (by decide)) (w133 hw) (w6 hw) (by decide) (by decide))) Wk.cleanC (fun v h' q => Or.inl q.2) (w131 hw) (w132 hw) (w6 hw) (w133 hw) (by decide) (argsL := [(.ref d156), (.int (2 : Int32)), (.int (2 : Int32)), (.long v31)]) (st := []) rfl rfl (lenOf pd24 rfl) rfl (Nat.le_of_eq rfl) (k' := 12) rfl (n' := 87) rfl (by decide) (by decide) rfl ?_
    intro r166 h167 Q167 O167
    obtain ⟨rfl, e168⟩ := Q167
    obtain rfl := e168.symm
    refine Ww.if_eq C at_397 (by decide) (pcT := 443) (by decide) (pc' := 400) rfl (fun q => absurd q (by decide)) (fun q169 => ?_)
    refine Ww.aload (pc' := 402) C at_400 rfl rfl rfl ?_
    refine Ww.iconst (pc' := 403) C at_402 (v := (3 : Int32)) rfl rfl ?_
    refine Ww.iload (pc' := 405) C at_403 rfl rfl ?_
    refine Ww.lload (pc' := 407) C at_405 rfl rfl ?_
    refine Ww.callS (pc' := 410) C at_407 (fun vm0 C => (Wk.Con.pays C (Wn := 0) (own_okT l hw O155 d156 (3 : Int32) (2 : Int32) v31 (by decide)) (w133 hw) (w6 hw) (by decide) (by decide))) Wk.cleanC (fun v h' q => Or.inl q.2) (w131 hw) (w132 hw) (w6 hw) (w133 hw) (by decide) (argsL := [(.ref d156), (.int (3 : Int32)), (.int (2 : Int32)), (.long v31)]) (st := []) rfl rfl (lenOf pd24 rfl) rfl (Nat.le_of_eq rfl) (k' := 12) rfl (n' := 87) rfl (by decide) (by decide) rfl ?_
    intro r170 h171 Q171 O171
    obtain ⟨rfl, e172⟩ := Q171
    obtain rfl := e172.symm
    refine Ww.if_eq C at_410 (by decide) (pcT := 443) (by decide) (pc' := 413) rfl (fun q => absurd q (by decide)) (fun q173 => ?_)
    refine Ww.aload (pc' := 415) C at_413 rfl rfl rfl ?_
    refine Ww.iconst (pc' := 416) C at_415 (v := (4 : Int32)) rfl rfl ?_
    refine Ww.iload (pc' := 418) C at_416 rfl rfl ?_
    refine Ww.lload (pc' := 420) C at_418 rfl rfl ?_
    refine Ww.callS (pc' := 423) C at_420 (fun vm0 C => (Wk.Con.pays C (Wn := 0) (own_okT l hw O155 d156 (4 : Int32) (2 : Int32) v31 (by decide)) (w133 hw) (w6 hw) (by decide) (by decide))) Wk.cleanC (fun v h' q => Or.inl q.2) (w131 hw) (w132 hw) (w6 hw) (w133 hw) (by decide) (argsL := [(.ref d156), (.int (4 : Int32)), (.int (2 : Int32)), (.long v31)]) (st := []) rfl rfl (lenOf pd24 rfl) rfl (Nat.le_of_eq rfl) (k' := 12) rfl (n' := 87) rfl (by decide) (by decide) rfl ?_
    intro r174 h175 Q175 O175
    obtain ⟨rfl, e176⟩ := Q175
    obtain rfl := e176.symm
    refine Ww.if_eq C at_423 (by decide) (pcT := 443) (by decide) (pc' := 426) rfl (fun q => absurd q (by decide)) (fun q177 => ?_)
    refine Ww.aload (pc' := 428) C at_426 rfl rfl rfl ?_
    refine Ww.iconst (pc' := 429) C at_428 (v := (5 : Int32)) rfl rfl ?_
    refine Ww.iload (pc' := 431) C at_429 rfl rfl ?_
    refine Ww.lload (pc' := 433) C at_431 rfl rfl ?_
    refine Ww.callS (pc' := 436) C at_433 (fun vm0 C => (Wk.Con.pays C (Wn := 0) (own_okT l hw O155 d156 (5 : Int32) (2 : Int32) v31 (by decide)) (w133 hw) (w6 hw) (by decide) (by decide))) Wk.cleanC (fun v h' q => Or.inl q.2) (w131 hw) (w132 hw) (w6 hw) (w133 hw) (by decide) (argsL := [(.ref d156), (.int (5 : Int32)), (.int (2 : Int32)), (.long v31)]) (st := []) rfl rfl (lenOf pd24 rfl) rfl (Nat.le_of_eq rfl) (k' := 12) rfl (n' := 87) rfl (by decide) (by decide) rfl ?_
    intro r178 h179 Q179 O179
    obtain ⟨rfl, e180⟩ := Q179
    obtain rfl := e180.symm
    refine Ww.if_eq C at_436 (by decide) (pcT := 443) (by decide) (pc' := 439) rfl (fun q => absurd q (by decide)) (fun q181 => ?_)
    refine Ww.iconst (pc' := 440) C at_439 (v := (1 : Int32)) rfl rfl ?_
    refine Ww.goto C at_440 (by decide) (pc' := 444) (by decide) ?_
    exact Ww.retNar (ty := .boolean) C hE (by simp) at_444 rfl (by decide) (by decide) rfl
  · -- the length is 4
    have em : v24 = (3 : Int32) := by
      subst hv23 hv24
      decide
    subst em
    have ed : v28 = (24 : Int32) := by
      subst hv27 hv28
      decide
    subst ed
    have ee : v26 = Int32.ofNat (sN + 4) := Wk.add32 (b := 4) (by omega) hv26
    subst ee
    have hb := own_bits 24 hv29 hv30 hv31 (by decide) (by decide) (by decide)
    refine Ww.aload (pc' := 342) C at_340 rfl rfl rfl ?_
    refine Ww.iload (pc' := 344) C at_342 rfl rfl ?_
    refine Ww.iload (pc' := 346) C at_344 rfl rfl ?_
    obtain ⟨d0, d1, d2, d3, hd, e0, e1, e2, e3⟩ := own_seg_4 (bits := v31) hs3 f0 f1 f2 f3 f4 f5 f6 f7 f8 f9 f10 f11 f12 f13
    refine Ww.callSS (pc' := 349) C at_346 (Ww.Con.pays hE (Wn := 0) (own_bd_4 l hw hE O97 hs bs a91 ([c0, c1, c2, c3, c4, c5, c6, c7, c8, c9, c10, c11, c12, c13] : List Int32) sN Sh97 rfl hs3 hd (by rw [e0]; exact own_tb _ (six_lt _ 0)) (by rw [e1]; exact own_tb _ (six_lt _ 1)) (by rw [e2]; exact own_tb _ (six_lt _ 2)) (by rw [e3]; exact own_tb _ (six_lt _ 3))) (w41 hw) (w40 hw) (by decide) (by decide)) Wk.cleanC (w38 hw) (w39 hw) (w40 hw) (w41 hw) (by decide) (argsL := [(.ref a91), (.int (Int32.ofNat sN)), (.int (Int32.ofNat (sN + 4)))]) (st := []) rfl rfl (lenOf pd23 rfl) rfl (Nat.le_of_eq rfl) (k' := 12) rfl (n' := 87) rfl (by decide) (by decide) rfl ?_
    intro r182 h183 Q183 O183
    obtain ⟨d184, rfl, E183, D183⟩ := Q183
    refine Ww.astore (pc' := 351) C at_349 rfl (Ls' := #[.val (.long p0), .second, .val (.long p1), .second, .val (.int p2), .val (.int p3), .val (.ref a11), .val (.int (4 : Int32)), .val (.int (3 : Int32)), .val (.int (Int32.ofNat sN)), .val (.int (Int32.ofNat (sN + 4))), .val (.int (24 : Int32)), .val (.long v31), .second, .val (.ref a32), .val (.ref a91), .val (.ref d184)]) rfl rfl ?_
    refine Ww.aload (pc' := 353) C at_351 rfl rfl rfl ?_
    refine Ww.alen (pc' := 354) C at_353 D183 (z := (3 : Int32)) rfl rfl ?_
    refine Ww.iload (pc' := 356) C at_354 rfl rfl ?_
    refine Ww.icmp_eq C at_356 (by decide) (pcT := 361) (by decide) (pc' := 359) rfl (fun q185 => ?_) (fun q => absurd q (by decide))
    refine Ww.aload (pc' := 363) C at_361 rfl rfl rfl ?_
    refine Ww.iconst (pc' := 364) C at_363 (v := (0 : Int32)) rfl rfl ?_
    refine Ww.iload (pc' := 366) C at_364 rfl rfl ?_
    refine Ww.lload (pc' := 368) C at_366 rfl rfl ?_
    refine Ww.callS (pc' := 371) C at_368 (fun vm0 C => (Wk.Con.pays C (Wn := 0) (own_okB l hw O183 d184 (0 : Int32) (3 : Int32) v31 [(.int (((dS4 (Int32.ofNat (six (N64 v31) 0)) (Int32.ofNat (six (N64 v31) 1)) (Int32.ofNat (six (N64 v31) 2)) (Int32.ofNat (six (N64 v31) 3))) >>> ((16 : Int32) &&& 31)).toInt8.toInt32)), (.int (((dS4 (Int32.ofNat (six (N64 v31) 0)) (Int32.ofNat (six (N64 v31) 1)) (Int32.ofNat (six (N64 v31) 2)) (Int32.ofNat (six (N64 v31) 3))) >>> ((8 : Int32) &&& 31)).toInt8.toInt32)), (.int ((dS4 (Int32.ofNat (six (N64 v31) 0)) (Int32.ofNat (six (N64 v31) 1)) (Int32.ofNat (six (N64 v31) 2)) (Int32.ofNat (six (N64 v31) 3))).toInt8.toInt32))] (((dS4 (Int32.ofNat (six (N64 v31) 0)) (Int32.ofNat (six (N64 v31) 1)) (Int32.ofNat (six (N64 v31) 2)) (Int32.ofNat (six (N64 v31) 3))) >>> ((16 : Int32) &&& 31)).toInt8.toInt32) D183 (by decide) (by decide) rfl (own_f_4_0 v31 hb)) (w133 hw) (w6 hw) (by decide) (by decide))) Wk.cleanC (fun v h' q => Or.inl q.2) (w131 hw) (w132 hw) (w6 hw) (w133 hw) (by decide) (argsL := [(.ref d184), (.int (0 : Int32)), (.int (3 : Int32)), (.long v31)]) (st := []) rfl rfl (lenOf pd24 rfl) rfl (Nat.le_of_eq rfl) (k' := 12) rfl (n' := 87) rfl (by decide) (by decide) rfl ?_
    intro r186 h187 Q187 O187
    obtain ⟨rfl, e188⟩ := Q187
    obtain rfl := e188.symm
    refine Ww.if_eq C at_371 (by decide) (pcT := 443) (by decide) (pc' := 374) rfl (fun q => absurd q (by decide)) (fun q189 => ?_)
    refine Ww.aload (pc' := 376) C at_374 rfl rfl rfl ?_
    refine Ww.iconst (pc' := 377) C at_376 (v := (1 : Int32)) rfl rfl ?_
    refine Ww.iload (pc' := 379) C at_377 rfl rfl ?_
    refine Ww.lload (pc' := 381) C at_379 rfl rfl ?_
    refine Ww.callS (pc' := 384) C at_381 (fun vm0 C => (Wk.Con.pays C (Wn := 0) (own_okB l hw O183 d184 (1 : Int32) (3 : Int32) v31 [(.int (((dS4 (Int32.ofNat (six (N64 v31) 0)) (Int32.ofNat (six (N64 v31) 1)) (Int32.ofNat (six (N64 v31) 2)) (Int32.ofNat (six (N64 v31) 3))) >>> ((16 : Int32) &&& 31)).toInt8.toInt32)), (.int (((dS4 (Int32.ofNat (six (N64 v31) 0)) (Int32.ofNat (six (N64 v31) 1)) (Int32.ofNat (six (N64 v31) 2)) (Int32.ofNat (six (N64 v31) 3))) >>> ((8 : Int32) &&& 31)).toInt8.toInt32)), (.int ((dS4 (Int32.ofNat (six (N64 v31) 0)) (Int32.ofNat (six (N64 v31) 1)) (Int32.ofNat (six (N64 v31) 2)) (Int32.ofNat (six (N64 v31) 3))).toInt8.toInt32))] (((dS4 (Int32.ofNat (six (N64 v31) 0)) (Int32.ofNat (six (N64 v31) 1)) (Int32.ofNat (six (N64 v31) 2)) (Int32.ofNat (six (N64 v31) 3))) >>> ((8 : Int32) &&& 31)).toInt8.toInt32) D183 (by decide) (by decide) rfl (own_f_4_1 v31 hb)) (w133 hw) (w6 hw) (by decide) (by decide))) Wk.cleanC (fun v h' q => Or.inl q.2) (w131 hw) (w132 hw) (w6 hw) (w133 hw) (by decide) (argsL := [(.ref d184), (.int (1 : Int32)), (.int (3 : Int32)), (.long v31)]) (st := []) rfl rfl (lenOf pd24 rfl) rfl (Nat.le_of_eq rfl) (k' := 12) rfl (n' := 87) rfl (by decide) (by decide) rfl ?_
    intro r190 h191 Q191 O191
    obtain ⟨rfl, e192⟩ := Q191
    obtain rfl := e192.symm
    refine Ww.if_eq C at_384 (by decide) (pcT := 443) (by decide) (pc' := 387) rfl (fun q => absurd q (by decide)) (fun q193 => ?_)
    refine Ww.aload (pc' := 389) C at_387 rfl rfl rfl ?_
    refine Ww.iconst (pc' := 390) C at_389 (v := (2 : Int32)) rfl rfl ?_
    refine Ww.iload (pc' := 392) C at_390 rfl rfl ?_
    refine Ww.lload (pc' := 394) C at_392 rfl rfl ?_
    refine Ww.callS (pc' := 397) C at_394 (fun vm0 C => (Wk.Con.pays C (Wn := 0) (own_okB l hw O183 d184 (2 : Int32) (3 : Int32) v31 [(.int (((dS4 (Int32.ofNat (six (N64 v31) 0)) (Int32.ofNat (six (N64 v31) 1)) (Int32.ofNat (six (N64 v31) 2)) (Int32.ofNat (six (N64 v31) 3))) >>> ((16 : Int32) &&& 31)).toInt8.toInt32)), (.int (((dS4 (Int32.ofNat (six (N64 v31) 0)) (Int32.ofNat (six (N64 v31) 1)) (Int32.ofNat (six (N64 v31) 2)) (Int32.ofNat (six (N64 v31) 3))) >>> ((8 : Int32) &&& 31)).toInt8.toInt32)), (.int ((dS4 (Int32.ofNat (six (N64 v31) 0)) (Int32.ofNat (six (N64 v31) 1)) (Int32.ofNat (six (N64 v31) 2)) (Int32.ofNat (six (N64 v31) 3))).toInt8.toInt32))] ((dS4 (Int32.ofNat (six (N64 v31) 0)) (Int32.ofNat (six (N64 v31) 1)) (Int32.ofNat (six (N64 v31) 2)) (Int32.ofNat (six (N64 v31) 3))).toInt8.toInt32) D183 (by decide) (by decide) rfl (own_f_4_2 v31 hb)) (w133 hw) (w6 hw) (by decide) (by decide))) Wk.cleanC (fun v h' q => Or.inl q.2) (w131 hw) (w132 hw) (w6 hw) (w133 hw) (by decide) (argsL := [(.ref d184), (.int (2 : Int32)), (.int (3 : Int32)), (.long v31)]) (st := []) rfl rfl (lenOf pd24 rfl) rfl (Nat.le_of_eq rfl) (k' := 12) rfl (n' := 87) rfl (by decide) (by decide) rfl ?_
    intro r194 h195 Q195 O195
    obtain ⟨rfl, e196⟩ := Q195
    obtain rfl := e196.symm
    refine Ww.if_eq C at_397 (by decide) (pcT := 443) (by decide) (pc' := 400) rfl (fun q => absurd q (by decide)) (fun q197 => ?_)
    refine Ww.aload (pc' := 402) C at_400 rfl rfl rfl ?_
    refine Ww.iconst (pc' := 403) C at_402 (v := (3 : Int32)) rfl rfl ?_
    refine Ww.iload (pc' := 405) C at_403 rfl rfl ?_
    refine Ww.lload (pc' := 407) C at_405 rfl rfl ?_
    refine Ww.callS (pc' := 410) C at_407 (fun vm0 C => (Wk.Con.pays C (Wn := 0) (own_okT l hw O183 d184 (3 : Int32) (3 : Int32) v31 (by decide)) (w133 hw) (w6 hw) (by decide) (by decide))) Wk.cleanC (fun v h' q => Or.inl q.2) (w131 hw) (w132 hw) (w6 hw) (w133 hw) (by decide) (argsL := [(.ref d184), (.int (3 : Int32)), (.int (3 : Int32)), (.long v31)]) (st := []) rfl rfl (lenOf pd24 rfl) rfl (Nat.le_of_eq rfl) (k' := 12) rfl (n' := 87) rfl (by decide) (by decide) rfl ?_
    intro r198 h199 Q199 O199
    obtain ⟨rfl, e200⟩ := Q199
    obtain rfl := e200.symm
    refine Ww.if_eq C at_410 (by decide) (pcT := 443) (by decide) (pc' := 413) rfl (fun q => absurd q (by decide)) (fun q201 => ?_)
    refine Ww.aload (pc' := 415) C at_413 rfl rfl rfl ?_
    refine Ww.iconst (pc' := 416) C at_415 (v := (4 : Int32)) rfl rfl ?_
    refine Ww.iload (pc' := 418) C at_416 rfl rfl ?_
    refine Ww.lload (pc' := 420) C at_418 rfl rfl ?_
    refine Ww.callS (pc' := 423) C at_420 (fun vm0 C => (Wk.Con.pays C (Wn := 0) (own_okT l hw O183 d184 (4 : Int32) (3 : Int32) v31 (by decide)) (w133 hw) (w6 hw) (by decide) (by decide))) Wk.cleanC (fun v h' q => Or.inl q.2) (w131 hw) (w132 hw) (w6 hw) (w133 hw) (by decide) (argsL := [(.ref d184), (.int (4 : Int32)), (.int (3 : Int32)), (.long v31)]) (st := []) rfl rfl (lenOf pd24 rfl) rfl (Nat.le_of_eq rfl) (k' := 12) rfl (n' := 87) rfl (by decide) (by decide) rfl ?_
    intro r202 h203 Q203 O203
    obtain ⟨rfl, e204⟩ := Q203
    obtain rfl := e204.symm
    refine Ww.if_eq C at_423 (by decide) (pcT := 443) (by decide) (pc' := 426) rfl (fun q => absurd q (by decide)) (fun q205 => ?_)
    refine Ww.aload (pc' := 428) C at_426 rfl rfl rfl ?_
    refine Ww.iconst (pc' := 429) C at_428 (v := (5 : Int32)) rfl rfl ?_
    refine Ww.iload (pc' := 431) C at_429 rfl rfl ?_
    refine Ww.lload (pc' := 433) C at_431 rfl rfl ?_
    refine Ww.callS (pc' := 436) C at_433 (fun vm0 C => (Wk.Con.pays C (Wn := 0) (own_okT l hw O183 d184 (5 : Int32) (3 : Int32) v31 (by decide)) (w133 hw) (w6 hw) (by decide) (by decide))) Wk.cleanC (fun v h' q => Or.inl q.2) (w131 hw) (w132 hw) (w6 hw) (w133 hw) (by decide) (argsL := [(.ref d184), (.int (5 : Int32)), (.int (3 : Int32)), (.long v31)]) (st := []) rfl rfl (lenOf pd24 rfl) rfl (Nat.le_of_eq rfl) (k' := 12) rfl (n' := 87) rfl (by decide) (by decide) rfl ?_
    intro r206 h207 Q207 O207
    obtain ⟨rfl, e208⟩ := Q207
    obtain rfl := e208.symm
    refine Ww.if_eq C at_436 (by decide) (pcT := 443) (by decide) (pc' := 439) rfl (fun q => absurd q (by decide)) (fun q209 => ?_)
    refine Ww.iconst (pc' := 440) C at_439 (v := (1 : Int32)) rfl rfl ?_
    refine Ww.goto C at_440 (by decide) (pc' := 444) (by decide) ?_
    exact Ww.retNar (ty := .boolean) C hE (by simp) at_444 rfl (by decide) (by decide) rfl
  · -- the length is 6
    have em : v24 = (4 : Int32) := by
      subst hv23 hv24
      decide
    subst em
    have ed : v28 = (16 : Int32) := by
      subst hv27 hv28
      decide
    subst ed
    have ee : v26 = Int32.ofNat (sN + 6) := Wk.add32 (b := 6) (by omega) hv26
    subst ee
    have hb := own_bits 16 hv29 hv30 hv31 (by decide) (by decide) (by decide)
    refine Ww.aload (pc' := 342) C at_340 rfl rfl rfl ?_
    refine Ww.iload (pc' := 344) C at_342 rfl rfl ?_
    refine Ww.iload (pc' := 346) C at_344 rfl rfl ?_
    obtain ⟨d0, d1, d2, d3, d4, d5, hd, e0, e1, e2, e3, e4, e5⟩ := own_seg_6 (bits := v31) hs3 f0 f1 f2 f3 f4 f5 f6 f7 f8 f9 f10 f11 f12 f13
    refine Ww.callSS (pc' := 349) C at_346 (Ww.Con.pays hE (Wn := 0) (own_bd_6 l hw hE O97 hs bs a91 ([c0, c1, c2, c3, c4, c5, c6, c7, c8, c9, c10, c11, c12, c13] : List Int32) sN Sh97 rfl hs3 hd (by rw [e0]; exact own_tb _ (six_lt _ 0)) (by rw [e1]; exact own_tb _ (six_lt _ 1)) (by rw [e2]; exact own_tb _ (six_lt _ 2)) (by rw [e3]; exact own_tb _ (six_lt _ 3)) (by rw [e4]; exact own_tb _ (six_lt _ 4)) (by rw [e5]; exact own_tb _ (six_lt _ 5))) (w41 hw) (w40 hw) (by decide) (by decide)) Wk.cleanC (w38 hw) (w39 hw) (w40 hw) (w41 hw) (by decide) (argsL := [(.ref a91), (.int (Int32.ofNat sN)), (.int (Int32.ofNat (sN + 6)))]) (st := []) rfl rfl (lenOf pd23 rfl) rfl (Nat.le_of_eq rfl) (k' := 12) rfl (n' := 87) rfl (by decide) (by decide) rfl ?_
    intro r210 h211 Q211 O211
    obtain ⟨d212, rfl, E211, D211⟩ := Q211
    refine Ww.astore (pc' := 351) C at_349 rfl (Ls' := #[.val (.long p0), .second, .val (.long p1), .second, .val (.int p2), .val (.int p3), .val (.ref a11), .val (.int (6 : Int32)), .val (.int (4 : Int32)), .val (.int (Int32.ofNat sN)), .val (.int (Int32.ofNat (sN + 6))), .val (.int (16 : Int32)), .val (.long v31), .second, .val (.ref a32), .val (.ref a91), .val (.ref d212)]) rfl rfl ?_
    refine Ww.aload (pc' := 353) C at_351 rfl rfl rfl ?_
    refine Ww.alen (pc' := 354) C at_353 D211 (z := (4 : Int32)) rfl rfl ?_
    refine Ww.iload (pc' := 356) C at_354 rfl rfl ?_
    refine Ww.icmp_eq C at_356 (by decide) (pcT := 361) (by decide) (pc' := 359) rfl (fun q213 => ?_) (fun q => absurd q (by decide))
    refine Ww.aload (pc' := 363) C at_361 rfl rfl rfl ?_
    refine Ww.iconst (pc' := 364) C at_363 (v := (0 : Int32)) rfl rfl ?_
    refine Ww.iload (pc' := 366) C at_364 rfl rfl ?_
    refine Ww.lload (pc' := 368) C at_366 rfl rfl ?_
    refine Ww.callS (pc' := 371) C at_368 (fun vm0 C => (Wk.Con.pays C (Wn := 0) (own_okB l hw O211 d212 (0 : Int32) (4 : Int32) v31 [(.int (((dW (Int32.ofNat (six (N64 v31) 0)) (Int32.ofNat (six (N64 v31) 1)) (Int32.ofNat (six (N64 v31) 2)) (Int32.ofNat (six (N64 v31) 3))) >>> ((16 : Int32) &&& 31)).toInt8.toInt32)), (.int (((dW (Int32.ofNat (six (N64 v31) 0)) (Int32.ofNat (six (N64 v31) 1)) (Int32.ofNat (six (N64 v31) 2)) (Int32.ofNat (six (N64 v31) 3))) >>> ((8 : Int32) &&& 31)).toInt8.toInt32)), (.int ((dW (Int32.ofNat (six (N64 v31) 0)) (Int32.ofNat (six (N64 v31) 1)) (Int32.ofNat (six (N64 v31) 2)) (Int32.ofNat (six (N64 v31) 3))).toInt8.toInt32)), (.int (((dS2 (Int32.ofNat (six (N64 v31) 4)) (Int32.ofNat (six (N64 v31) 5))) >>> ((16 : Int32) &&& 31)).toInt8.toInt32))] (((dW (Int32.ofNat (six (N64 v31) 0)) (Int32.ofNat (six (N64 v31) 1)) (Int32.ofNat (six (N64 v31) 2)) (Int32.ofNat (six (N64 v31) 3))) >>> ((16 : Int32) &&& 31)).toInt8.toInt32) D211 (by decide) (by decide) rfl (own_f_6_0 v31 hb)) (w133 hw) (w6 hw) (by decide) (by decide))) Wk.cleanC (fun v h' q => Or.inl q.2) (w131 hw) (w132 hw) (w6 hw) (w133 hw) (by decide) (argsL := [(.ref d212), (.int (0 : Int32)), (.int (4 : Int32)), (.long v31)]) (st := []) rfl rfl (lenOf pd24 rfl) rfl (Nat.le_of_eq rfl) (k' := 12) rfl (n' := 87) rfl (by decide) (by decide) rfl ?_
    intro r214 h215 Q215 O215
    obtain ⟨rfl, e216⟩ := Q215
    obtain rfl := e216.symm
    refine Ww.if_eq C at_371 (by decide) (pcT := 443) (by decide) (pc' := 374) rfl (fun q => absurd q (by decide)) (fun q217 => ?_)
    refine Ww.aload (pc' := 376) C at_374 rfl rfl rfl ?_
    refine Ww.iconst (pc' := 377) C at_376 (v := (1 : Int32)) rfl rfl ?_
    refine Ww.iload (pc' := 379) C at_377 rfl rfl ?_
    refine Ww.lload (pc' := 381) C at_379 rfl rfl ?_
    refine Ww.callS (pc' := 384) C at_381 (fun vm0 C => (Wk.Con.pays C (Wn := 0) (own_okB l hw O211 d212 (1 : Int32) (4 : Int32) v31 [(.int (((dW (Int32.ofNat (six (N64 v31) 0)) (Int32.ofNat (six (N64 v31) 1)) (Int32.ofNat (six (N64 v31) 2)) (Int32.ofNat (six (N64 v31) 3))) >>> ((16 : Int32) &&& 31)).toInt8.toInt32)), (.int (((dW (Int32.ofNat (six (N64 v31) 0)) (Int32.ofNat (six (N64 v31) 1)) (Int32.ofNat (six (N64 v31) 2)) (Int32.ofNat (six (N64 v31) 3))) >>> ((8 : Int32) &&& 31)).toInt8.toInt32)), (.int ((dW (Int32.ofNat (six (N64 v31) 0)) (Int32.ofNat (six (N64 v31) 1)) (Int32.ofNat (six (N64 v31) 2)) (Int32.ofNat (six (N64 v31) 3))).toInt8.toInt32)), (.int (((dS2 (Int32.ofNat (six (N64 v31) 4)) (Int32.ofNat (six (N64 v31) 5))) >>> ((16 : Int32) &&& 31)).toInt8.toInt32))] (((dW (Int32.ofNat (six (N64 v31) 0)) (Int32.ofNat (six (N64 v31) 1)) (Int32.ofNat (six (N64 v31) 2)) (Int32.ofNat (six (N64 v31) 3))) >>> ((8 : Int32) &&& 31)).toInt8.toInt32) D211 (by decide) (by decide) rfl (own_f_6_1 v31 hb)) (w133 hw) (w6 hw) (by decide) (by decide))) Wk.cleanC (fun v h' q => Or.inl q.2) (w131 hw) (w132 hw) (w6 hw) (w133 hw) (by decide) (argsL := [(.ref d212), (.int (1 : Int32)), (.int (4 : Int32)), (.long v31)]) (st := []) rfl rfl (lenOf pd24 rfl) rfl (Nat.le_of_eq rfl) (k' := 12) rfl (n' := 87) rfl (by decide) (by decide) rfl ?_
    intro r218 h219 Q219 O219
    obtain ⟨rfl, e220⟩ := Q219
    obtain rfl := e220.symm
    refine Ww.if_eq C at_384 (by decide) (pcT := 443) (by decide) (pc' := 387) rfl (fun q => absurd q (by decide)) (fun q221 => ?_)
    refine Ww.aload (pc' := 389) C at_387 rfl rfl rfl ?_
    refine Ww.iconst (pc' := 390) C at_389 (v := (2 : Int32)) rfl rfl ?_
    refine Ww.iload (pc' := 392) C at_390 rfl rfl ?_
    refine Ww.lload (pc' := 394) C at_392 rfl rfl ?_
    refine Ww.callS (pc' := 397) C at_394 (fun vm0 C => (Wk.Con.pays C (Wn := 0) (own_okB l hw O211 d212 (2 : Int32) (4 : Int32) v31 [(.int (((dW (Int32.ofNat (six (N64 v31) 0)) (Int32.ofNat (six (N64 v31) 1)) (Int32.ofNat (six (N64 v31) 2)) (Int32.ofNat (six (N64 v31) 3))) >>> ((16 : Int32) &&& 31)).toInt8.toInt32)), (.int (((dW (Int32.ofNat (six (N64 v31) 0)) (Int32.ofNat (six (N64 v31) 1)) (Int32.ofNat (six (N64 v31) 2)) (Int32.ofNat (six (N64 v31) 3))) >>> ((8 : Int32) &&& 31)).toInt8.toInt32)), (.int ((dW (Int32.ofNat (six (N64 v31) 0)) (Int32.ofNat (six (N64 v31) 1)) (Int32.ofNat (six (N64 v31) 2)) (Int32.ofNat (six (N64 v31) 3))).toInt8.toInt32)), (.int (((dS2 (Int32.ofNat (six (N64 v31) 4)) (Int32.ofNat (six (N64 v31) 5))) >>> ((16 : Int32) &&& 31)).toInt8.toInt32))] ((dW (Int32.ofNat (six (N64 v31) 0)) (Int32.ofNat (six (N64 v31) 1)) (Int32.ofNat (six (N64 v31) 2)) (Int32.ofNat (six (N64 v31) 3))).toInt8.toInt32) D211 (by decide) (by decide) rfl (own_f_6_2 v31 hb)) (w133 hw) (w6 hw) (by decide) (by decide))) Wk.cleanC (fun v h' q => Or.inl q.2) (w131 hw) (w132 hw) (w6 hw) (w133 hw) (by decide) (argsL := [(.ref d212), (.int (2 : Int32)), (.int (4 : Int32)), (.long v31)]) (st := []) rfl rfl (lenOf pd24 rfl) rfl (Nat.le_of_eq rfl) (k' := 12) rfl (n' := 87) rfl (by decide) (by decide) rfl ?_
    intro r222 h223 Q223 O223
    obtain ⟨rfl, e224⟩ := Q223
    obtain rfl := e224.symm
    refine Ww.if_eq C at_397 (by decide) (pcT := 443) (by decide) (pc' := 400) rfl (fun q => absurd q (by decide)) (fun q225 => ?_)
    refine Ww.aload (pc' := 402) C at_400 rfl rfl rfl ?_
    refine Ww.iconst (pc' := 403) C at_402 (v := (3 : Int32)) rfl rfl ?_
    refine Ww.iload (pc' := 405) C at_403 rfl rfl ?_
    refine Ww.lload (pc' := 407) C at_405 rfl rfl ?_
    refine Ww.callS (pc' := 410) C at_407 (fun vm0 C => (Wk.Con.pays C (Wn := 0) (own_okB l hw O211 d212 (3 : Int32) (4 : Int32) v31 [(.int (((dW (Int32.ofNat (six (N64 v31) 0)) (Int32.ofNat (six (N64 v31) 1)) (Int32.ofNat (six (N64 v31) 2)) (Int32.ofNat (six (N64 v31) 3))) >>> ((16 : Int32) &&& 31)).toInt8.toInt32)), (.int (((dW (Int32.ofNat (six (N64 v31) 0)) (Int32.ofNat (six (N64 v31) 1)) (Int32.ofNat (six (N64 v31) 2)) (Int32.ofNat (six (N64 v31) 3))) >>> ((8 : Int32) &&& 31)).toInt8.toInt32)), (.int ((dW (Int32.ofNat (six (N64 v31) 0)) (Int32.ofNat (six (N64 v31) 1)) (Int32.ofNat (six (N64 v31) 2)) (Int32.ofNat (six (N64 v31) 3))).toInt8.toInt32)), (.int (((dS2 (Int32.ofNat (six (N64 v31) 4)) (Int32.ofNat (six (N64 v31) 5))) >>> ((16 : Int32) &&& 31)).toInt8.toInt32))] (((dS2 (Int32.ofNat (six (N64 v31) 4)) (Int32.ofNat (six (N64 v31) 5))) >>> ((16 : Int32) &&& 31)).toInt8.toInt32) D211 (by decide) (by decide) rfl (own_f_6_3 v31 hb)) (w133 hw) (w6 hw) (by decide) (by decide))) Wk.cleanC (fun v h' q => Or.inl q.2) (w131 hw) (w132 hw) (w6 hw) (w133 hw) (by decide) (argsL := [(.ref d212), (.int (3 : Int32)), (.int (4 : Int32)), (.long v31)]) (st := []) rfl rfl (lenOf pd24 rfl) rfl (Nat.le_of_eq rfl) (k' := 12) rfl (n' := 87) rfl (by decide) (by decide) rfl ?_
    intro r226 h227 Q227 O227
    obtain ⟨rfl, e228⟩ := Q227
    obtain rfl := e228.symm
    refine Ww.if_eq C at_410 (by decide) (pcT := 443) (by decide) (pc' := 413) rfl (fun q => absurd q (by decide)) (fun q229 => ?_)
    refine Ww.aload (pc' := 415) C at_413 rfl rfl rfl ?_
    refine Ww.iconst (pc' := 416) C at_415 (v := (4 : Int32)) rfl rfl ?_
    refine Ww.iload (pc' := 418) C at_416 rfl rfl ?_
    refine Ww.lload (pc' := 420) C at_418 rfl rfl ?_
    refine Ww.callS (pc' := 423) C at_420 (fun vm0 C => (Wk.Con.pays C (Wn := 0) (own_okT l hw O211 d212 (4 : Int32) (4 : Int32) v31 (by decide)) (w133 hw) (w6 hw) (by decide) (by decide))) Wk.cleanC (fun v h' q => Or.inl q.2) (w131 hw) (w132 hw) (w6 hw) (w133 hw) (by decide) (argsL := [(.ref d212), (.int (4 : Int32)), (.int (4 : Int32)), (.long v31)]) (st := []) rfl rfl (lenOf pd24 rfl) rfl (Nat.le_of_eq rfl) (k' := 12) rfl (n' := 87) rfl (by decide) (by decide) rfl ?_
    intro r230 h231 Q231 O231
    obtain ⟨rfl, e232⟩ := Q231
    obtain rfl := e232.symm
    refine Ww.if_eq C at_423 (by decide) (pcT := 443) (by decide) (pc' := 426) rfl (fun q => absurd q (by decide)) (fun q233 => ?_)
    refine Ww.aload (pc' := 428) C at_426 rfl rfl rfl ?_
    refine Ww.iconst (pc' := 429) C at_428 (v := (5 : Int32)) rfl rfl ?_
    refine Ww.iload (pc' := 431) C at_429 rfl rfl ?_
    refine Ww.lload (pc' := 433) C at_431 rfl rfl ?_
    refine Ww.callS (pc' := 436) C at_433 (fun vm0 C => (Wk.Con.pays C (Wn := 0) (own_okT l hw O211 d212 (5 : Int32) (4 : Int32) v31 (by decide)) (w133 hw) (w6 hw) (by decide) (by decide))) Wk.cleanC (fun v h' q => Or.inl q.2) (w131 hw) (w132 hw) (w6 hw) (w133 hw) (by decide) (argsL := [(.ref d212), (.int (5 : Int32)), (.int (4 : Int32)), (.long v31)]) (st := []) rfl rfl (lenOf pd24 rfl) rfl (Nat.le_of_eq rfl) (k' := 12) rfl (n' := 87) rfl (by decide) (by decide) rfl ?_
    intro r234 h235 Q235 O235
    obtain ⟨rfl, e236⟩ := Q235
    obtain rfl := e236.symm
    refine Ww.if_eq C at_436 (by decide) (pcT := 443) (by decide) (pc' := 439) rfl (fun q => absurd q (by decide)) (fun q237 => ?_)
    refine Ww.iconst (pc' := 440) C at_439 (v := (1 : Int32)) rfl rfl ?_
    refine Ww.goto C at_440 (by decide) (pc' := 444) (by decide) ?_
    exact Ww.retNar (ty := .boolean) C hE (by simp) at_444 rfl (by decide) (by decide) rfl
  · -- the length is 7
    have em : v24 = (5 : Int32) := by
      subst hv23 hv24
      decide
    subst em
    have ed : v28 = (8 : Int32) := by
      subst hv27 hv28
      decide
    subst ed
    have ee : v26 = Int32.ofNat (sN + 7) := Wk.add32 (b := 7) (by omega) hv26
    subst ee
    have hb := own_bits 8 hv29 hv30 hv31 (by decide) (by decide) (by decide)
    refine Ww.aload (pc' := 342) C at_340 rfl rfl rfl ?_
    refine Ww.iload (pc' := 344) C at_342 rfl rfl ?_
    refine Ww.iload (pc' := 346) C at_344 rfl rfl ?_
    obtain ⟨d0, d1, d2, d3, d4, d5, d6, hd, e0, e1, e2, e3, e4, e5, e6⟩ := own_seg_7 (bits := v31) hs3 f0 f1 f2 f3 f4 f5 f6 f7 f8 f9 f10 f11 f12 f13
    refine Ww.callSS (pc' := 349) C at_346 (Ww.Con.pays hE (Wn := 0) (own_bd_7 l hw hE O97 hs bs a91 ([c0, c1, c2, c3, c4, c5, c6, c7, c8, c9, c10, c11, c12, c13] : List Int32) sN Sh97 rfl hs3 hd (by rw [e0]; exact own_tb _ (six_lt _ 0)) (by rw [e1]; exact own_tb _ (six_lt _ 1)) (by rw [e2]; exact own_tb _ (six_lt _ 2)) (by rw [e3]; exact own_tb _ (six_lt _ 3)) (by rw [e4]; exact own_tb _ (six_lt _ 4)) (by rw [e5]; exact own_tb _ (six_lt _ 5)) (by rw [e6]; exact own_tb _ (six_lt _ 6))) (w41 hw) (w40 hw) (by decide) (by decide)) Wk.cleanC (w38 hw) (w39 hw) (w40 hw) (w41 hw) (by decide) (argsL := [(.ref a91), (.int (Int32.ofNat sN)), (.int (Int32.ofNat (sN + 7)))]) (st := []) rfl rfl (lenOf pd23 rfl) rfl (Nat.le_of_eq rfl) (k' := 12) rfl (n' := 87) rfl (by decide) (by decide) rfl ?_
    intro r238 h239 Q239 O239
    obtain ⟨d240, rfl, E239, D239⟩ := Q239
    refine Ww.astore (pc' := 351) C at_349 rfl (Ls' := #[.val (.long p0), .second, .val (.long p1), .second, .val (.int p2), .val (.int p3), .val (.ref a11), .val (.int (7 : Int32)), .val (.int (5 : Int32)), .val (.int (Int32.ofNat sN)), .val (.int (Int32.ofNat (sN + 7))), .val (.int (8 : Int32)), .val (.long v31), .second, .val (.ref a32), .val (.ref a91), .val (.ref d240)]) rfl rfl ?_
    refine Ww.aload (pc' := 353) C at_351 rfl rfl rfl ?_
    refine Ww.alen (pc' := 354) C at_353 D239 (z := (5 : Int32)) rfl rfl ?_
    refine Ww.iload (pc' := 356) C at_354 rfl rfl ?_
    refine Ww.icmp_eq C at_356 (by decide) (pcT := 361) (by decide) (pc' := 359) rfl (fun q241 => ?_) (fun q => absurd q (by decide))
    refine Ww.aload (pc' := 363) C at_361 rfl rfl rfl ?_
    refine Ww.iconst (pc' := 364) C at_363 (v := (0 : Int32)) rfl rfl ?_
    refine Ww.iload (pc' := 366) C at_364 rfl rfl ?_
    refine Ww.lload (pc' := 368) C at_366 rfl rfl ?_
    refine Ww.callS (pc' := 371) C at_368 (fun vm0 C => (Wk.Con.pays C (Wn := 0) (own_okB l hw O239 d240 (0 : Int32) (5 : Int32) v31 [(.int (((dW (Int32.ofNat (six (N64 v31) 0)) (Int32.ofNat (six (N64 v31) 1)) (Int32.ofNat (six (N64 v31) 2)) (Int32.ofNat (six (N64 v31) 3))) >>> ((16 : Int32) &&& 31)).toInt8.toInt32)), (.int (((dW (Int32.ofNat (six (N64 v31) 0)) (Int32.ofNat (six (N64 v31) 1)) (Int32.ofNat (six (N64 v31) 2)) (Int32.ofNat (six (N64 v31) 3))) >>> ((8 : Int32) &&& 31)).toInt8.toInt32)), (.int ((dW (Int32.ofNat (six (N64 v31) 0)) (Int32.ofNat (six (N64 v31) 1)) (Int32.ofNat (six (N64 v31) 2)) (Int32.ofNat (six (N64 v31) 3))).toInt8.toInt32)), (.int (((dS3 (Int32.ofNat (six (N64 v31) 4)) (Int32.ofNat (six (N64 v31) 5)) (Int32.ofNat (six (N64 v31) 6))) >>> ((16 : Int32) &&& 31)).toInt8.toInt32)), (.int (((dS3 (Int32.ofNat (six (N64 v31) 4)) (Int32.ofNat (six (N64 v31) 5)) (Int32.ofNat (six (N64 v31) 6))) >>> ((8 : Int32) &&& 31)).toInt8.toInt32))] (((dW (Int32.ofNat (six (N64 v31) 0)) (Int32.ofNat (six (N64 v31) 1)) (Int32.ofNat (six (N64 v31) 2)) (Int32.ofNat (six (N64 v31) 3))) >>> ((16 : Int32) &&& 31)).toInt8.toInt32) D239 (by decide) (by decide) rfl (own_f_7_0 v31 hb)) (w133 hw) (w6 hw) (by decide) (by decide))) Wk.cleanC (fun v h' q => Or.inl q.2) (w131 hw) (w132 hw) (w6 hw) (w133 hw) (by decide) (argsL := [(.ref d240), (.int (0 : Int32)), (.int (5 : Int32)), (.long v31)]) (st := []) rfl rfl (lenOf pd24 rfl) rfl (Nat.le_of_eq rfl) (k' := 12) rfl (n' := 87) rfl (by decide) (by decide) rfl ?_
    intro r242 h243 Q243 O243
    obtain ⟨rfl, e244⟩ := Q243
    obtain rfl := e244.symm
    refine Ww.if_eq C at_371 (by decide) (pcT := 443) (by decide) (pc' := 374) rfl (fun q => absurd q (by decide)) (fun q245 => ?_)
    refine Ww.aload (pc' := 376) C at_374 rfl rfl rfl ?_
    refine Ww.iconst (pc' := 377) C at_376 (v := (1 : Int32)) rfl rfl ?_
    refine Ww.iload (pc' := 379) C at_377 rfl rfl ?_
    refine Ww.lload (pc' := 381) C at_379 rfl rfl ?_
    refine Ww.callS (pc' := 384) C at_381 (fun vm0 C => (Wk.Con.pays C (Wn := 0) (own_okB l hw O239 d240 (1 : Int32) (5 : Int32) v31 [(.int (((dW (Int32.ofNat (six (N64 v31) 0)) (Int32.ofNat (six (N64 v31) 1)) (Int32.ofNat (six (N64 v31) 2)) (Int32.ofNat (six (N64 v31) 3))) >>> ((16 : Int32) &&& 31)).toInt8.toInt32)), (.int (((dW (Int32.ofNat (six (N64 v31) 0)) (Int32.ofNat (six (N64 v31) 1)) (Int32.ofNat (six (N64 v31) 2)) (Int32.ofNat (six (N64 v31) 3))) >>> ((8 : Int32) &&& 31)).toInt8.toInt32)), (.int ((dW (Int32.ofNat (six (N64 v31) 0)) (Int32.ofNat (six (N64 v31) 1)) (Int32.ofNat (six (N64 v31) 2)) (Int32.ofNat (six (N64 v31) 3))).toInt8.toInt32)), (.int (((dS3 (Int32.ofNat (six (N64 v31) 4)) (Int32.ofNat (six (N64 v31) 5)) (Int32.ofNat (six (N64 v31) 6))) >>> ((16 : Int32) &&& 31)).toInt8.toInt32)), (.int (((dS3 (Int32.ofNat (six (N64 v31) 4)) (Int32.ofNat (six (N64 v31) 5)) (Int32.ofNat (six (N64 v31) 6))) >>> ((8 : Int32) &&& 31)).toInt8.toInt32))] (((dW (Int32.ofNat (six (N64 v31) 0)) (Int32.ofNat (six (N64 v31) 1)) (Int32.ofNat (six (N64 v31) 2)) (Int32.ofNat (six (N64 v31) 3))) >>> ((8 : Int32) &&& 31)).toInt8.toInt32) D239 (by decide) (by decide) rfl (own_f_7_1 v31 hb)) (w133 hw) (w6 hw) (by decide) (by decide))) Wk.cleanC (fun v h' q => Or.inl q.2) (w131 hw) (w132 hw) (w6 hw) (w133 hw) (by decide) (argsL := [(.ref d240), (.int (1 : Int32)), (.int (5 : Int32)), (.long v31)]) (st := []) rfl rfl (lenOf pd24 rfl) rfl (Nat.le_of_eq rfl) (k' := 12) rfl (n' := 87) rfl (by decide) (by decide) rfl ?_
    intro r246 h247 Q247 O247
    obtain ⟨rfl, e248⟩ := Q247
    obtain rfl := e248.symm
    refine Ww.if_eq C at_384 (by decide) (pcT := 443) (by decide) (pc' := 387) rfl (fun q => absurd q (by decide)) (fun q249 => ?_)
    refine Ww.aload (pc' := 389) C at_387 rfl rfl rfl ?_
    refine Ww.iconst (pc' := 390) C at_389 (v := (2 : Int32)) rfl rfl ?_
    refine Ww.iload (pc' := 392) C at_390 rfl rfl ?_
    refine Ww.lload (pc' := 394) C at_392 rfl rfl ?_
    refine Ww.callS (pc' := 397) C at_394 (fun vm0 C => (Wk.Con.pays C (Wn := 0) (own_okB l hw O239 d240 (2 : Int32) (5 : Int32) v31 [(.int (((dW (Int32.ofNat (six (N64 v31) 0)) (Int32.ofNat (six (N64 v31) 1)) (Int32.ofNat (six (N64 v31) 2)) (Int32.ofNat (six (N64 v31) 3))) >>> ((16 : Int32) &&& 31)).toInt8.toInt32)), (.int (((dW (Int32.ofNat (six (N64 v31) 0)) (Int32.ofNat (six (N64 v31) 1)) (Int32.ofNat (six (N64 v31) 2)) (Int32.ofNat (six (N64 v31) 3))) >>> ((8 : Int32) &&& 31)).toInt8.toInt32)), (.int ((dW (Int32.ofNat (six (N64 v31) 0)) (Int32.ofNat (six (N64 v31) 1)) (Int32.ofNat (six (N64 v31) 2)) (Int32.ofNat (six (N64 v31) 3))).toInt8.toInt32)), (.int (((dS3 (Int32.ofNat (six (N64 v31) 4)) (Int32.ofNat (six (N64 v31) 5)) (Int32.ofNat (six (N64 v31) 6))) >>> ((16 : Int32) &&& 31)).toInt8.toInt32)), (.int (((dS3 (Int32.ofNat (six (N64 v31) 4)) (Int32.ofNat (six (N64 v31) 5)) (Int32.ofNat (six (N64 v31) 6))) >>> ((8 : Int32) &&& 31)).toInt8.toInt32))] ((dW (Int32.ofNat (six (N64 v31) 0)) (Int32.ofNat (six (N64 v31) 1)) (Int32.ofNat (six (N64 v31) 2)) (Int32.ofNat (six (N64 v31) 3))).toInt8.toInt32) D239 (by decide) (by decide) rfl (own_f_7_2 v31 hb)) (w133 hw) (w6 hw) (by decide) (by decide))) Wk.cleanC (fun v h' q => Or.inl q.2) (w131 hw) (w132 hw) (w6 hw) (w133 hw) (by decide) (argsL := [(.ref d240), (.int (2 : Int32)), (.int (5 : Int32)), (.long v31)]) (st := []) rfl rfl (lenOf pd24 rfl) rfl (Nat.le_of_eq rfl) (k' := 12) rfl (n' := 87) rfl (by decide) (by decide) rfl ?_
    intro r250 h251 Q251 O251
    obtain ⟨rfl, e252⟩ := Q251
    obtain rfl := e252.symm
    refine Ww.if_eq C at_397 (by decide) (pcT := 443) (by decide) (pc' := 400) rfl (fun q => absurd q (by decide)) (fun q253 => ?_)
    refine Ww.aload (pc' := 402) C at_400 rfl rfl rfl ?_
    refine Ww.iconst (pc' := 403) C at_402 (v := (3 : Int32)) rfl rfl ?_
    refine Ww.iload (pc' := 405) C at_403 rfl rfl ?_
    refine Ww.lload (pc' := 407) C at_405 rfl rfl ?_
    refine Ww.callS (pc' := 410) C at_407 (fun vm0 C => (Wk.Con.pays C (Wn := 0) (own_okB l hw O239 d240 (3 : Int32) (5 : Int32) v31 [(.int (((dW (Int32.ofNat (six (N64 v31) 0)) (Int32.ofNat (six (N64 v31) 1)) (Int32.ofNat (six (N64 v31) 2)) (Int32.ofNat (six (N64 v31) 3))) >>> ((16 : Int32) &&& 31)).toInt8.toInt32)), (.int (((dW (Int32.ofNat (six (N64 v31) 0)) (Int32.ofNat (six (N64 v31) 1)) (Int32.ofNat (six (N64 v31) 2)) (Int32.ofNat (six (N64 v31) 3))) >>> ((8 : Int32) &&& 31)).toInt8.toInt32)), (.int ((dW (Int32.ofNat (six (N64 v31) 0)) (Int32.ofNat (six (N64 v31) 1)) (Int32.ofNat (six (N64 v31) 2)) (Int32.ofNat (six (N64 v31) 3))).toInt8.toInt32)), (.int (((dS3 (Int32.ofNat (six (N64 v31) 4)) (Int32.ofNat (six (N64 v31) 5)) (Int32.ofNat (six (N64 v31) 6))) >>> ((16 : Int32) &&& 31)).toInt8.toInt32)), (.int (((dS3 (Int32.ofNat (six (N64 v31) 4)) (Int32.ofNat (six (N64 v31) 5)) (Int32.ofNat (six (N64 v31) 6))) >>> ((8 : Int32) &&& 31)).toInt8.toInt32))] (((dS3 (Int32.ofNat (six (N64 v31) 4)) (Int32.ofNat (six (N64 v31) 5)) (Int32.ofNat (six (N64 v31) 6))) >>> ((16 : Int32) &&& 31)).toInt8.toInt32) D239 (by decide) (by decide) rfl (own_f_7_3 v31 hb)) (w133 hw) (w6 hw) (by decide) (by decide))) Wk.cleanC (fun v h' q => Or.inl q.2) (w131 hw) (w132 hw) (w6 hw) (w133 hw) (by decide) (argsL := [(.ref d240), (.int (3 : Int32)), (.int (5 : Int32)), (.long v31)]) (st := []) rfl rfl (lenOf pd24 rfl) rfl (Nat.le_of_eq rfl) (k' := 12) rfl (n' := 87) rfl (by decide) (by decide) rfl ?_
    intro r254 h255 Q255 O255
    obtain ⟨rfl, e256⟩ := Q255
    obtain rfl := e256.symm
    refine Ww.if_eq C at_410 (by decide) (pcT := 443) (by decide) (pc' := 413) rfl (fun q => absurd q (by decide)) (fun q257 => ?_)
    refine Ww.aload (pc' := 415) C at_413 rfl rfl rfl ?_
    refine Ww.iconst (pc' := 416) C at_415 (v := (4 : Int32)) rfl rfl ?_
    refine Ww.iload (pc' := 418) C at_416 rfl rfl ?_
    refine Ww.lload (pc' := 420) C at_418 rfl rfl ?_
    refine Ww.callS (pc' := 423) C at_420 (fun vm0 C => (Wk.Con.pays C (Wn := 0) (own_okB l hw O239 d240 (4 : Int32) (5 : Int32) v31 [(.int (((dW (Int32.ofNat (six (N64 v31) 0)) (Int32.ofNat (six (N64 v31) 1)) (Int32.ofNat (six (N64 v31) 2)) (Int32.ofNat (six (N64 v31) 3))) >>> ((16 : Int32) &&& 31)).toInt8.toInt32)), (.int (((dW (Int32.ofNat (six (N64 v31) 0)) (Int32.ofNat (six (N64 v31) 1)) (Int32.ofNat (six (N64 v31) 2)) (Int32.ofNat (six (N64 v31) 3))) >>> ((8 : Int32) &&& 31)).toInt8.toInt32)), (.int ((dW (Int32.ofNat (six (N64 v31) 0)) (Int32.ofNat (six (N64 v31) 1)) (Int32.ofNat (six (N64 v31) 2)) (Int32.ofNat (six (N64 v31) 3))).toInt8.toInt32)), (.int (((dS3 (Int32.ofNat (six (N64 v31) 4)) (Int32.ofNat (six (N64 v31) 5)) (Int32.ofNat (six (N64 v31) 6))) >>> ((16 : Int32) &&& 31)).toInt8.toInt32)), (.int (((dS3 (Int32.ofNat (six (N64 v31) 4)) (Int32.ofNat (six (N64 v31) 5)) (Int32.ofNat (six (N64 v31) 6))) >>> ((8 : Int32) &&& 31)).toInt8.toInt32))] (((dS3 (Int32.ofNat (six (N64 v31) 4)) (Int32.ofNat (six (N64 v31) 5)) (Int32.ofNat (six (N64 v31) 6))) >>> ((8 : Int32) &&& 31)).toInt8.toInt32) D239 (by decide) (by decide) rfl (own_f_7_4 v31 hb)) (w133 hw) (w6 hw) (by decide) (by decide))) Wk.cleanC (fun v h' q => Or.inl q.2) (w131 hw) (w132 hw) (w6 hw) (w133 hw) (by decide) (argsL := [(.ref d240), (.int (4 : Int32)), (.int (5 : Int32)), (.long v31)]) (st := []) rfl rfl (lenOf pd24 rfl) rfl (Nat.le_of_eq rfl) (k' := 12) rfl (n' := 87) rfl (by decide) (by decide) rfl ?_
    intro r258 h259 Q259 O259
    obtain ⟨rfl, e260⟩ := Q259
    obtain rfl := e260.symm
    refine Ww.if_eq C at_423 (by decide) (pcT := 443) (by decide) (pc' := 426) rfl (fun q => absurd q (by decide)) (fun q261 => ?_)
    refine Ww.aload (pc' := 428) C at_426 rfl rfl rfl ?_
    refine Ww.iconst (pc' := 429) C at_428 (v := (5 : Int32)) rfl rfl ?_
    refine Ww.iload (pc' := 431) C at_429 rfl rfl ?_
    refine Ww.lload (pc' := 433) C at_431 rfl rfl ?_
    refine Ww.callS (pc' := 436) C at_433 (fun vm0 C => (Wk.Con.pays C (Wn := 0) (own_okT l hw O239 d240 (5 : Int32) (5 : Int32) v31 (by decide)) (w133 hw) (w6 hw) (by decide) (by decide))) Wk.cleanC (fun v h' q => Or.inl q.2) (w131 hw) (w132 hw) (w6 hw) (w133 hw) (by decide) (argsL := [(.ref d240), (.int (5 : Int32)), (.int (5 : Int32)), (.long v31)]) (st := []) rfl rfl (lenOf pd24 rfl) rfl (Nat.le_of_eq rfl) (k' := 12) rfl (n' := 87) rfl (by decide) (by decide) rfl ?_
    intro r262 h263 Q263 O263
    obtain ⟨rfl, e264⟩ := Q263
    obtain rfl := e264.symm
    refine Ww.if_eq C at_436 (by decide) (pcT := 443) (by decide) (pc' := 439) rfl (fun q => absurd q (by decide)) (fun q265 => ?_)
    refine Ww.iconst (pc' := 440) C at_439 (v := (1 : Int32)) rfl rfl ?_
    refine Ww.goto C at_440 (by decide) (pc' := 444) (by decide) ?_
    exact Ww.retNar (ty := .boolean) C hE (by simp) at_444 rfl (by decide) (by decide) rfl
  · -- the length is 8
    have em : v24 = (6 : Int32) := by
      subst hv23 hv24
      decide
    subst em
    have ed : v28 = (0 : Int32) := by
      subst hv27 hv28
      decide
    subst ed
    have ee : v26 = Int32.ofNat (sN + 8) := Wk.add32 (b := 8) (by omega) hv26
    subst ee
    have hb := own_bits 0 hv29 hv30 hv31 (by decide) (by decide) (by decide)
    refine Ww.aload (pc' := 342) C at_340 rfl rfl rfl ?_
    refine Ww.iload (pc' := 344) C at_342 rfl rfl ?_
    refine Ww.iload (pc' := 346) C at_344 rfl rfl ?_
    obtain ⟨d0, d1, d2, d3, d4, d5, d6, d7, hd, e0, e1, e2, e3, e4, e5, e6, e7⟩ := own_seg_8 (bits := v31) hs3 f0 f1 f2 f3 f4 f5 f6 f7 f8 f9 f10 f11 f12 f13
    refine Ww.callSS (pc' := 349) C at_346 (Ww.Con.pays hE (Wn := 0) (own_bd_8 l hw hE O97 hs bs a91 ([c0, c1, c2, c3, c4, c5, c6, c7, c8, c9, c10, c11, c12, c13] : List Int32) sN Sh97 rfl hs3 hd (by rw [e0]; exact own_tb _ (six_lt _ 0)) (by rw [e1]; exact own_tb _ (six_lt _ 1)) (by rw [e2]; exact own_tb _ (six_lt _ 2)) (by rw [e3]; exact own_tb _ (six_lt _ 3)) (by rw [e4]; exact own_tb _ (six_lt _ 4)) (by rw [e5]; exact own_tb _ (six_lt _ 5)) (by rw [e6]; exact own_tb _ (six_lt _ 6)) (by rw [e7]; exact own_tb _ (six_lt _ 7))) (w41 hw) (w40 hw) (by decide) (by decide)) Wk.cleanC (w38 hw) (w39 hw) (w40 hw) (w41 hw) (by decide) (argsL := [(.ref a91), (.int (Int32.ofNat sN)), (.int (Int32.ofNat (sN + 8)))]) (st := []) rfl rfl (lenOf pd23 rfl) rfl (Nat.le_of_eq rfl) (k' := 12) rfl (n' := 87) rfl (by decide) (by decide) rfl ?_
    intro r266 h267 Q267 O267
    obtain ⟨d268, rfl, E267, D267⟩ := Q267
    refine Ww.astore (pc' := 351) C at_349 rfl (Ls' := #[.val (.long p0), .second, .val (.long p1), .second, .val (.int p2), .val (.int p3), .val (.ref a11), .val (.int (8 : Int32)), .val (.int (6 : Int32)), .val (.int (Int32.ofNat sN)), .val (.int (Int32.ofNat (sN + 8))), .val (.int (0 : Int32)), .val (.long v31), .second, .val (.ref a32), .val (.ref a91), .val (.ref d268)]) rfl rfl ?_
    refine Ww.aload (pc' := 353) C at_351 rfl rfl rfl ?_
    refine Ww.alen (pc' := 354) C at_353 D267 (z := (6 : Int32)) rfl rfl ?_
    refine Ww.iload (pc' := 356) C at_354 rfl rfl ?_
    refine Ww.icmp_eq C at_356 (by decide) (pcT := 361) (by decide) (pc' := 359) rfl (fun q269 => ?_) (fun q => absurd q (by decide))
    refine Ww.aload (pc' := 363) C at_361 rfl rfl rfl ?_
    refine Ww.iconst (pc' := 364) C at_363 (v := (0 : Int32)) rfl rfl ?_
    refine Ww.iload (pc' := 366) C at_364 rfl rfl ?_
    refine Ww.lload (pc' := 368) C at_366 rfl rfl ?_
    refine Ww.callS (pc' := 371) C at_368 (fun vm0 C => (Wk.Con.pays C (Wn := 0) (own_okB l hw O267 d268 (0 : Int32) (6 : Int32) v31 [(.int (((dW (Int32.ofNat (six (N64 v31) 0)) (Int32.ofNat (six (N64 v31) 1)) (Int32.ofNat (six (N64 v31) 2)) (Int32.ofNat (six (N64 v31) 3))) >>> ((16 : Int32) &&& 31)).toInt8.toInt32)), (.int (((dW (Int32.ofNat (six (N64 v31) 0)) (Int32.ofNat (six (N64 v31) 1)) (Int32.ofNat (six (N64 v31) 2)) (Int32.ofNat (six (N64 v31) 3))) >>> ((8 : Int32) &&& 31)).toInt8.toInt32)), (.int ((dW (Int32.ofNat (six (N64 v31) 0)) (Int32.ofNat (six (N64 v31) 1)) (Int32.ofNat (six (N64 v31) 2)) (Int32.ofNat (six (N64 v31) 3))).toInt8.toInt32)), (.int (((dW (Int32.ofNat (six (N64 v31) 4)) (Int32.ofNat (six (N64 v31) 5)) (Int32.ofNat (six (N64 v31) 6)) (Int32.ofNat (six (N64 v31) 7))) >>> ((16 : Int32) &&& 31)).toInt8.toInt32)), (.int (((dW (Int32.ofNat (six (N64 v31) 4)) (Int32.ofNat (six (N64 v31) 5)) (Int32.ofNat (six (N64 v31) 6)) (Int32.ofNat (six (N64 v31) 7))) >>> ((8 : Int32) &&& 31)).toInt8.toInt32)), (.int ((dW (Int32.ofNat (six (N64 v31) 4)) (Int32.ofNat (six (N64 v31) 5)) (Int32.ofNat (six (N64 v31) 6)) (Int32.ofNat (six (N64 v31) 7))).toInt8.toInt32))] (((dW (Int32.ofNat (six (N64 v31) 0)) (Int32.ofNat (six (N64 v31) 1)) (Int32.ofNat (six (N64 v31) 2)) (Int32.ofNat (six (N64 v31) 3))) >>> ((16 : Int32) &&& 31)).toInt8.toInt32) D267 (by decide) (by decide) rfl (own_f_8_0 v31 hb)) (w133 hw) (w6 hw) (by decide) (by decide))) Wk.cleanC (fun v h' q => Or.inl q.2) (w131 hw) (w132 hw) (w6 hw) (w133 hw) (by decide) (argsL := [(.ref d268), (.int (0 : Int32)), (.int (6 : Int32)), (.long v31)]) (st := []) rfl rfl (lenOf pd24 rfl) rfl (Nat.le_of_eq rfl) (k' := 12) rfl (n' := 87) rfl (by decide) (by decide) rfl ?_
    intro r270 h271 Q271 O271
    obtain ⟨rfl, e272⟩ := Q271
    obtain rfl := e272.symm
    refine Ww.if_eq C at_371 (by decide) (pcT := 443) (by decide) (pc' := 374) rfl (fun q => absurd q (by decide)) (fun q273 => ?_)
    refine Ww.aload (pc' := 376) C at_374 rfl rfl rfl ?_
    refine Ww.iconst (pc' := 377) C at_376 (v := (1 : Int32)) rfl rfl ?_
    refine Ww.iload (pc' := 379) C at_377 rfl rfl ?_
    refine Ww.lload (pc' := 381) C at_379 rfl rfl ?_
    refine Ww.callS (pc' := 384) C at_381 (fun vm0 C => (Wk.Con.pays C (Wn := 0) (own_okB l hw O267 d268 (1 : Int32) (6 : Int32) v31 [(.int (((dW (Int32.ofNat (six (N64 v31) 0)) (Int32.ofNat (six (N64 v31) 1)) (Int32.ofNat (six (N64 v31) 2)) (Int32.ofNat (six (N64 v31) 3))) >>> ((16 : Int32) &&& 31)).toInt8.toInt32)), (.int (((dW (Int32.ofNat (six (N64 v31) 0)) (Int32.ofNat (six (N64 v31) 1)) (Int32.ofNat (six (N64 v31) 2)) (Int32.ofNat (six (N64 v31) 3))) >>> ((8 : Int32) &&& 31)).toInt8.toInt32)), (.int ((dW (Int32.ofNat (six (N64 v31) 0)) (Int32.ofNat (six (N64 v31) 1)) (Int32.ofNat (six (N64 v31) 2)) (Int32.ofNat (six (N64 v31) 3))).toInt8.toInt32)), (.int (((dW (Int32.ofNat (six (N64 v31) 4)) (Int32.ofNat (six (N64 v31) 5)) (Int32.ofNat (six (N64 v31) 6)) (Int32.ofNat (six (N64 v31) 7))) >>> ((16 : Int32) &&& 31)).toInt8.toInt32)), (.int (((dW (Int32.ofNat (six (N64 v31) 4)) (Int32.ofNat (six (N64 v31) 5)) (Int32.ofNat (six (N64 v31) 6)) (Int32.ofNat (six (N64 v31) 7))) >>> ((8 : Int32) &&& 31)).toInt8.toInt32)), (.int ((dW (Int32.ofNat (six (N64 v31) 4)) (Int32.ofNat (six (N64 v31) 5)) (Int32.ofNat (six (N64 v31) 6)) (Int32.ofNat (six (N64 v31) 7))).toInt8.toInt32))] (((dW (Int32.ofNat (six (N64 v31) 0)) (Int32.ofNat (six (N64 v31) 1)) (Int32.ofNat (six (N64 v31) 2)) (Int32.ofNat (six (N64 v31) 3))) >>> ((8 : Int32) &&& 31)).toInt8.toInt32) D267 (by decide) (by decide) rfl (own_f_8_1 v31 hb)) (w133 hw) (w6 hw) (by decide) (by decide))) Wk.cleanC (fun v h' q => Or.inl q.2) (w131 hw) (w132 hw) (w6 hw) (w133 hw) (by decide) (argsL := [(.ref d268), (.int (1 : Int32)), (.int (6 : Int32)), (.long v31)]) (st := []) rfl rfl (lenOf pd24 rfl) rfl (Nat.le_of_eq rfl) (k' := 12) rfl (n' := 87) rfl (by decide) (by decide) rfl ?_
    intro r274 h275 Q275 O275
    obtain ⟨rfl, e276⟩ := Q275
    obtain rfl := e276.symm
    refine Ww.if_eq C at_384 (by decide) (pcT := 443) (by decide) (pc' := 387) rfl (fun q => absurd q (by decide)) (fun q277 => ?_)
    refine Ww.aload (pc' := 389) C at_387 rfl rfl rfl ?_
    refine Ww.iconst (pc' := 390) C at_389 (v := (2 : Int32)) rfl rfl ?_
    refine Ww.iload (pc' := 392) C at_390 rfl rfl ?_
    refine Ww.lload (pc' := 394) C at_392 rfl rfl ?_
    refine Ww.callS (pc' := 397) C at_394 (fun vm0 C => (Wk.Con.pays C (Wn := 0) (own_okB l hw O267 d268 (2 : Int32) (6 : Int32) v31 [(.int (((dW (Int32.ofNat (six (N64 v31) 0)) (Int32.ofNat (six (N64 v31) 1)) (Int32.ofNat (six (N64 v31) 2)) (Int32.ofNat (six (N64 v31) 3))) >>> ((16 : Int32) &&& 31)).toInt8.toInt32)), (.int (((dW (Int32.ofNat (six (N64 v31) 0)) (Int32.ofNat (six (N64 v31) 1)) (Int32.ofNat (six (N64 v31) 2)) (Int32.ofNat (six (N64 v31) 3))) >>> ((8 : Int32) &&& 31)).toInt8.toInt32)), (.int ((dW (Int32.ofNat (six (N64 v31) 0)) (Int32.ofNat (six (N64 v31) 1)) (Int32.ofNat (six (N64 v31) 2)) (Int32.ofNat (six (N64 v31) 3))).toInt8.toInt32)), (.int (((dW (Int32.ofNat (six (N64 v31) 4)) (Int32.ofNat (six (N64 v31) 5)) (Int32.ofNat (six (N64 v31) 6)) (Int32.ofNat (six (N64 v31) 7))) >>> ((16 : Int32) &&& 31)).toInt8.toInt32)), (.int (((dW (Int32.ofNat (six (N64 v31) 4)) (Int32.ofNat (six (N64 v31) 5)) (Int32.ofNat (six (N64 v31) 6)) (Int32.ofNat (six (N64 v31) 7))) >>> ((8 : Int32) &&& 31)).toInt8.toInt32)), (.int ((dW (Int32.ofNat (six (N64 v31) 4)) (Int32.ofNat (six (N64 v31) 5)) (Int32.ofNat (six (N64 v31) 6)) (Int32.ofNat (six (N64 v31) 7))).toInt8.toInt32))] ((dW (Int32.ofNat (six (N64 v31) 0)) (Int32.ofNat (six (N64 v31) 1)) (Int32.ofNat (six (N64 v31) 2)) (Int32.ofNat (six (N64 v31) 3))).toInt8.toInt32) D267 (by decide) (by decide) rfl (own_f_8_2 v31 hb)) (w133 hw) (w6 hw) (by decide) (by decide))) Wk.cleanC (fun v h' q => Or.inl q.2) (w131 hw) (w132 hw) (w6 hw) (w133 hw) (by decide) (argsL := [(.ref d268), (.int (2 : Int32)), (.int (6 : Int32)), (.long v31)]) (st := []) rfl rfl (lenOf pd24 rfl) rfl (Nat.le_of_eq rfl) (k' := 12) rfl (n' := 87) rfl (by decide) (by decide) rfl ?_
    intro r278 h279 Q279 O279
    obtain ⟨rfl, e280⟩ := Q279
    obtain rfl := e280.symm
    refine Ww.if_eq C at_397 (by decide) (pcT := 443) (by decide) (pc' := 400) rfl (fun q => absurd q (by decide)) (fun q281 => ?_)
    refine Ww.aload (pc' := 402) C at_400 rfl rfl rfl ?_
    refine Ww.iconst (pc' := 403) C at_402 (v := (3 : Int32)) rfl rfl ?_
    refine Ww.iload (pc' := 405) C at_403 rfl rfl ?_
    refine Ww.lload (pc' := 407) C at_405 rfl rfl ?_
    refine Ww.callS (pc' := 410) C at_407 (fun vm0 C => (Wk.Con.pays C (Wn := 0) (own_okB l hw O267 d268 (3 : Int32) (6 : Int32) v31 [(.int (((dW (Int32.ofNat (six (N64 v31) 0)) (Int32.ofNat (six (N64 v31) 1)) (Int32.ofNat (six (N64 v31) 2)) (Int32.ofNat (six (N64 v31) 3))) >>> ((16 : Int32) &&& 31)).toInt8.toInt32)), (.int (((dW (Int32.ofNat (six (N64 v31) 0)) (Int32.ofNat (six (N64 v31) 1)) (Int32.ofNat (six (N64 v31) 2)) (Int32.ofNat (six (N64 v31) 3))) >>> ((8 : Int32) &&& 31)).toInt8.toInt32)), (.int ((dW (Int32.ofNat (six (N64 v31) 0)) (Int32.ofNat (six (N64 v31) 1)) (Int32.ofNat (six (N64 v31) 2)) (Int32.ofNat (six (N64 v31) 3))).toInt8.toInt32)), (.int (((dW (Int32.ofNat (six (N64 v31) 4)) (Int32.ofNat (six (N64 v31) 5)) (Int32.ofNat (six (N64 v31) 6)) (Int32.ofNat (six (N64 v31) 7))) >>> ((16 : Int32) &&& 31)).toInt8.toInt32)), (.int (((dW (Int32.ofNat (six (N64 v31) 4)) (Int32.ofNat (six (N64 v31) 5)) (Int32.ofNat (six (N64 v31) 6)) (Int32.ofNat (six (N64 v31) 7))) >>> ((8 : Int32) &&& 31)).toInt8.toInt32)), (.int ((dW (Int32.ofNat (six (N64 v31) 4)) (Int32.ofNat (six (N64 v31) 5)) (Int32.ofNat (six (N64 v31) 6)) (Int32.ofNat (six (N64 v31) 7))).toInt8.toInt32))] (((dW (Int32.ofNat (six (N64 v31) 4)) (Int32.ofNat (six (N64 v31) 5)) (Int32.ofNat (six (N64 v31) 6)) (Int32.ofNat (six (N64 v31) 7))) >>> ((16 : Int32) &&& 31)).toInt8.toInt32) D267 (by decide) (by decide) rfl (own_f_8_3 v31 hb)) (w133 hw) (w6 hw) (by decide) (by decide))) Wk.cleanC (fun v h' q => Or.inl q.2) (w131 hw) (w132 hw) (w6 hw) (w133 hw) (by decide) (argsL := [(.ref d268), (.int (3 : Int32)), (.int (6 : Int32)), (.long v31)]) (st := []) rfl rfl (lenOf pd24 rfl) rfl (Nat.le_of_eq rfl) (k' := 12) rfl (n' := 87) rfl (by decide) (by decide) rfl ?_
    intro r282 h283 Q283 O283
    obtain ⟨rfl, e284⟩ := Q283
    obtain rfl := e284.symm
    refine Ww.if_eq C at_410 (by decide) (pcT := 443) (by decide) (pc' := 413) rfl (fun q => absurd q (by decide)) (fun q285 => ?_)
    refine Ww.aload (pc' := 415) C at_413 rfl rfl rfl ?_
    refine Ww.iconst (pc' := 416) C at_415 (v := (4 : Int32)) rfl rfl ?_
    refine Ww.iload (pc' := 418) C at_416 rfl rfl ?_
    refine Ww.lload (pc' := 420) C at_418 rfl rfl ?_
    refine Ww.callS (pc' := 423) C at_420 (fun vm0 C => (Wk.Con.pays C (Wn := 0) (own_okB l hw O267 d268 (4 : Int32) (6 : Int32) v31 [(.int (((dW (Int32.ofNat (six (N64 v31) 0)) (Int32.ofNat (six (N64 v31) 1)) (Int32.ofNat (six (N64 v31) 2)) (Int32.ofNat (six (N64 v31) 3))) >>> ((16 : Int32) &&& 31)).toInt8.toInt32)), (.int (((dW (Int32.ofNat (six (N64 v31) 0)) (Int32.ofNat (six (N64 v31) 1)) (Int32.ofNat (six (N64 v31) 2)) (Int32.ofNat (six (N64 v31) 3))) >>> ((8 : Int32) &&& 31)).toInt8.toInt32)), (.int ((dW (Int32.ofNat (six (N64 v31) 0)) (Int32.ofNat (six (N64 v31) 1)) (Int32.ofNat (six (N64 v31) 2)) (Int32.ofNat (six (N64 v31) 3))).toInt8.toInt32)), (.int (((dW (Int32.ofNat (six (N64 v31) 4)) (Int32.ofNat (six (N64 v31) 5)) (Int32.ofNat (six (N64 v31) 6)) (Int32.ofNat (six (N64 v31) 7))) >>> ((16 : Int32) &&& 31)).toInt8.toInt32)), (.int (((dW (Int32.ofNat (six (N64 v31) 4)) (Int32.ofNat (six (N64 v31) 5)) (Int32.ofNat (six (N64 v31) 6)) (Int32.ofNat (six (N64 v31) 7))) >>> ((8 : Int32) &&& 31)).toInt8.toInt32)), (.int ((dW (Int32.ofNat (six (N64 v31) 4)) (Int32.ofNat (six (N64 v31) 5)) (Int32.ofNat (six (N64 v31) 6)) (Int32.ofNat (six (N64 v31) 7))).toInt8.toInt32))] (((dW (Int32.ofNat (six (N64 v31) 4)) (Int32.ofNat (six (N64 v31) 5)) (Int32.ofNat (six (N64 v31) 6)) (Int32.ofNat (six (N64 v31) 7))) >>> ((8 : Int32) &&& 31)).toInt8.toInt32) D267 (by decide) (by decide) rfl (own_f_8_4 v31 hb)) (w133 hw) (w6 hw) (by decide) (by decide))) Wk.cleanC (fun v h' q => Or.inl q.2) (w131 hw) (w132 hw) (w6 hw) (w133 hw) (by decide) (argsL := [(.ref d268), (.int (4 : Int32)), (.int (6 : Int32)), (.long v31)]) (st := []) rfl rfl (lenOf pd24 rfl) rfl (Nat.le_of_eq rfl) (k' := 12) rfl (n' := 87) rfl (by decide) (by decide) rfl ?_
    intro r286 h287 Q287 O287
    obtain ⟨rfl, e288⟩ := Q287
    obtain rfl := e288.symm
    refine Ww.if_eq C at_423 (by decide) (pcT := 443) (by decide) (pc' := 426) rfl (fun q => absurd q (by decide)) (fun q289 => ?_)
    refine Ww.aload (pc' := 428) C at_426 rfl rfl rfl ?_
    refine Ww.iconst (pc' := 429) C at_428 (v := (5 : Int32)) rfl rfl ?_
    refine Ww.iload (pc' := 431) C at_429 rfl rfl ?_
    refine Ww.lload (pc' := 433) C at_431 rfl rfl ?_
    refine Ww.callS (pc' := 436) C at_433 (fun vm0 C => (Wk.Con.pays C (Wn := 0) (own_okB l hw O267 d268 (5 : Int32) (6 : Int32) v31 [(.int (((dW (Int32.ofNat (six (N64 v31) 0)) (Int32.ofNat (six (N64 v31) 1)) (Int32.ofNat (six (N64 v31) 2)) (Int32.ofNat (six (N64 v31) 3))) >>> ((16 : Int32) &&& 31)).toInt8.toInt32)), (.int (((dW (Int32.ofNat (six (N64 v31) 0)) (Int32.ofNat (six (N64 v31) 1)) (Int32.ofNat (six (N64 v31) 2)) (Int32.ofNat (six (N64 v31) 3))) >>> ((8 : Int32) &&& 31)).toInt8.toInt32)), (.int ((dW (Int32.ofNat (six (N64 v31) 0)) (Int32.ofNat (six (N64 v31) 1)) (Int32.ofNat (six (N64 v31) 2)) (Int32.ofNat (six (N64 v31) 3))).toInt8.toInt32)), (.int (((dW (Int32.ofNat (six (N64 v31) 4)) (Int32.ofNat (six (N64 v31) 5)) (Int32.ofNat (six (N64 v31) 6)) (Int32.ofNat (six (N64 v31) 7))) >>> ((16 : Int32) &&& 31)).toInt8.toInt32)), (.int (((dW (Int32.ofNat (six (N64 v31) 4)) (Int32.ofNat (six (N64 v31) 5)) (Int32.ofNat (six (N64 v31) 6)) (Int32.ofNat (six (N64 v31) 7))) >>> ((8 : Int32) &&& 31)).toInt8.toInt32)), (.int ((dW (Int32.ofNat (six (N64 v31) 4)) (Int32.ofNat (six (N64 v31) 5)) (Int32.ofNat (six (N64 v31) 6)) (Int32.ofNat (six (N64 v31) 7))).toInt8.toInt32))] ((dW (Int32.ofNat (six (N64 v31) 4)) (Int32.ofNat (six (N64 v31) 5)) (Int32.ofNat (six (N64 v31) 6)) (Int32.ofNat (six (N64 v31) 7))).toInt8.toInt32) D267 (by decide) (by decide) rfl (own_f_8_5 v31 hb)) (w133 hw) (w6 hw) (by decide) (by decide))) Wk.cleanC (fun v h' q => Or.inl q.2) (w131 hw) (w132 hw) (w6 hw) (w133 hw) (by decide) (argsL := [(.ref d268), (.int (5 : Int32)), (.int (6 : Int32)), (.long v31)]) (st := []) rfl rfl (lenOf pd24 rfl) rfl (Nat.le_of_eq rfl) (k' := 12) rfl (n' := 87) rfl (by decide) (by decide) rfl ?_
    intro r290 h291 Q291 O291
    obtain ⟨rfl, e292⟩ := Q291
    obtain rfl := e292.symm
    refine Ww.if_eq C at_436 (by decide) (pcT := 443) (by decide) (pc' := 439) rfl (fun q => absurd q (by decide)) (fun q293 => ?_)
    refine Ww.iconst (pc' := 440) C at_439 (v := (1 : Int32)) rfl rfl ?_
    refine Ww.goto C at_440 (by decide) (pc' := 444) (by decide) ?_
    exact Ww.retNar (ty := .boolean) C hE (by simp) at_444 rfl (by decide) (by decide) rfl
theorem Wk.ordZ {args : Array Value} {s : State} {t : Term} {a : Addr} {C n : String} {k : Int32} (ht : t.eval args s none [] s = some (.ref a)) (h : (Jvm.Cond.eq (.field t C n "Z") (.int k)).value args s none s [] = some true) : Fld s s.heap a C n "Z" (.int k) := by
  obtain ⟨x, y, e1, e2, -, kin⟩ := cmp_v (Or.inl h)
  cases (Term.int_eval k).symm.trans e2
  obtain ⟨z, rfl⟩ := kin
  cases gotT (Cond.eq_ints e1 e2) h
  exact Fld.start ((fld_at ht).symm.trans e1)
theorem Wk.exaNe {Z : State} {h : Heap} {a b : Addr} {A B : String} (E : Exa Z h a A) (F : Exa Z h b B) (ne : A ≠ B) : a ≠ b := fun e => by
  subst e
  obtain ⟨c1, k1, e1, e2, e3, -⟩ := E
  obtain ⟨c2, k2, f1, f2, f3, -⟩ := F
  cases e1.symm.trans f1
  obtain ⟨q1, z1, z2⟩ := Vm.findClass_spec e2
  obtain ⟨q2, z3, z4⟩ := Vm.findClass_spec f2
  cases z1.symm.trans z3
  exact ne (z2.symm.trans z4)
set_option maxRecDepth 65536 in
set_option maxHeartbeats 40000000 in
theorem comes_1 {Post : Tables → Env → Array Value → State → Outcome → State → Prop} (hpost : ∀ tb e args s v u, (limb_1_1.after args s (.returned v) u = true ∧ limb_1_2.after args s (.returned v) u = true ∧ True) → ReturnedEndW s (.returned v) u (Jvm.fieldLocs frame_1_writes args s ++ Jvm.arrayLocs frame_1_arrays args s ++ Jvm.staticLocs frame_1_statics s) 32 1280 → Post tb e args s (.returned v) u) :
    ArmFor flags0 classFile x code maxLocals ret World_1 tables_1 room_1 Calls_1 rest_1 Pre_1 Post := by
  intro l hfl _ _ p e ha hc hk s m args below hf hA hF happ hP
  obtain ⟨hcalls, hrest, hpre⟩ := hP
  obtain ⟨-, -, -, hnamed, -, -, -, hat⟩ := (Spec.applies_iff hf).mp happ
  obtain ⟨hg, hn⟩ := and_e (Cond.before_iff.mp (show (Jvm.Cond.and given_1 narrow_1).before args s = true from hpre))
  obtain ⟨gc0, gr0⟩ := and_e hg
  obtain ⟨gc1, gr1⟩ := and_e gr0
  obtain ⟨gc2, gr2⟩ := and_e gr1
  obtain ⟨gc3, gr3⟩ := and_e gr2
  obtain ⟨w0, w1, w2, w3, rfl⟩ : ∃ w0 w1 w2 w3 : Value, args = #[w0, w1, w2, w3] := by
    have hs : args.size = 4 := by simpa [Cond.value, given_1] using gc0
    obtain ⟨L⟩ := args
    match L, hs with
    | [w0, w1, w2, w3], _ => exact ⟨w0, w1, w2, w3, rfl⟩
  have hw : Ws _ s := fun d (hd : d ∈ tables_1) => atoms_spec (ws := Jvm.Cond.code x code maxLocals ret :: tables_1) hat d (List.mem_cons_of_mem _ hd)
  have hfit : Fit s := fun {y c} hc i hi => by
    obtain ⟨ha, rfl⟩ := Array.getElem?_eq_some_iff.mp hc
    have q := List.all_eq_true.mp ((Array.all_eq_true_iff_forall_mem.mp hF) _ (Array.getElem_mem ha)) i (List.mem_range.mpr hi)
    simpa [Array.getElem?_eq_getElem hi] using q
  obtain ⟨i0, ei0⟩ := isL_v gc1
  obtain rfl : w0 = (.long i0) := Option.some.inj ei0
  obtain ⟨i1, ei1⟩ := isL_v gc2
  obtain rfl : w1 = (.long i1) := Option.some.inj ei1
  obtain ⟨i2, ei2⟩ := is_v gc3
  obtain rfl : w2 = (.int i2) := Option.some.inj ei2
  obtain ⟨i3, ei3⟩ := is_v gr3
  obtain rfl : w3 = (.int i3) := Option.some.inj ei3
  obtain ⟨hsets, hown0⟩ := atoms_of _ (rest_1_c_eq ▸ (show rest_1_c.before _ s = true from hrest))
  have hS : Sets s := by
    have n5 := not_v (Cond.before_iff.mp (hsets _ (List.mem_of_getElem? (i := 2) rfl)))
    obtain ⟨zc, ez⟩ := is_v (Cond.before_iff.mp (hsets _ (List.mem_of_getElem? (i := 1) rfl)))
    obtain ⟨fm, ef, rf⟩ := isR_v (Cond.before_iff.mp (hsets _ (List.mem_of_getElem? (i := 8) rfl)))
    exact ⟨zc, fm, Sta.start ez (Or.inl (hsets _ (List.mem_of_getElem? (i := 0) rfl))), gotF (Cond.eq_ints ez (Term.int_eval (0))) n5, Sta.start ef (Or.inl (hsets _ (List.mem_of_getElem? (i := 7) rfl))), rf⟩
  obtain ⟨nw0, nr0⟩ := and_e hn
  obtain ⟨nw1, nr1⟩ := and_e nr0
  obtain ⟨aD, eD⟩ := exa_v nw0
  have ED := Exa.start eD nw0
  have SD := Sta.start eD (Or.inr ⟨(w40 hw), (w43 hw)⟩)
  have F1 := Wk.ordZ eD nw1
  have F2 := Wk.ordZ eD nr1
  obtain ⟨aI, eaI⟩ := exa_v (Cond.before_iff.mp (hsets _ (List.mem_of_getElem? (i := 11) rfl)))
  have EaI := Exa.start eaI (Cond.before_iff.mp (hsets _ (List.mem_of_getElem? (i := 11) rfl)))
  have SaI := Sta.start eaI (Or.inl (hsets _ (List.mem_of_getElem? (i := 10) rfl)))
  obtain ⟨aU, eaU⟩ := exa_v (Cond.before_iff.mp (hsets _ (List.mem_of_getElem? (i := 14) rfl)))
  have EaU := Exa.start eaU (Cond.before_iff.mp (hsets _ (List.mem_of_getElem? (i := 14) rfl)))
  have SaU := Sta.start eaU (Or.inl (hsets _ (List.mem_of_getElem? (i := 13) rfl)))
  have hIU : aI ≠ aU := Wk.exaNe EaI EaU (by decide)
  obtain ⟨aT, eT⟩ := arr_v (Cond.before_iff.mp (hsets _ (List.mem_of_getElem? (i := 17) rfl)))
  obtain ⟨cT, AT⟩ := Arr.start eT (Cond.before_iff.mp (hsets _ (List.mem_of_getElem? (i := 17) rfl)))
  have ST := Sta.start eT (Or.inl (hsets _ (List.mem_of_getElem? (i := 16) rfl)))
  have hn := Wk.lenS eT AT (Cond.before_iff.mp (hsets _ (List.mem_of_getElem? (i := 19) rfl)))
  have y0 : cT.slots[0]? = some (.int (-1 : Int32)) := Wk.elemS eT AT (Cond.before_iff.mp (hsets _ (List.mem_of_getElem? (i := 20) rfl)))
  have y1 : cT.slots[1]? = some (.int (-1 : Int32)) := Wk.elemS eT AT (Cond.before_iff.mp (hsets _ (List.mem_of_getElem? (i := 21) rfl)))
  have y2 : cT.slots[2]? = some (.int (-1 : Int32)) := Wk.elemS eT AT (Cond.before_iff.mp (hsets _ (List.mem_of_getElem? (i := 22) rfl)))
  have y3 : cT.slots[3]? = some (.int (-1 : Int32)) := Wk.elemS eT AT (Cond.before_iff.mp (hsets _ (List.mem_of_getElem? (i := 23) rfl)))
  have y4 : cT.slots[4]? = some (.int (-1 : Int32)) := Wk.elemS eT AT (Cond.before_iff.mp (hsets _ (List.mem_of_getElem? (i := 24) rfl)))
  have y5 : cT.slots[5]? = some (.int (-1 : Int32)) := Wk.elemS eT AT (Cond.before_iff.mp (hsets _ (List.mem_of_getElem? (i := 25) rfl)))
  have y6 : cT.slots[6]? = some (.int (-1 : Int32)) := Wk.elemS eT AT (Cond.before_iff.mp (hsets _ (List.mem_of_getElem? (i := 26) rfl)))
  have y7 : cT.slots[7]? = some (.int (-1 : Int32)) := Wk.elemS eT AT (Cond.before_iff.mp (hsets _ (List.mem_of_getElem? (i := 27) rfl)))
  have y8 : cT.slots[8]? = some (.int (-1 : Int32)) := Wk.elemS eT AT (Cond.before_iff.mp (hsets _ (List.mem_of_getElem? (i := 28) rfl)))
  have y9 : cT.slots[9]? = some (.int (-1 : Int32)) := Wk.elemS eT AT (Cond.before_iff.mp (hsets _ (List.mem_of_getElem? (i := 29) rfl)))
  have y10 : cT.slots[10]? = some (.int (-1 : Int32)) := Wk.elemS eT AT (Cond.before_iff.mp (hsets _ (List.mem_of_getElem? (i := 30) rfl)))
  have y11 : cT.slots[11]? = some (.int (-1 : Int32)) := Wk.elemS eT AT (Cond.before_iff.mp (hsets _ (List.mem_of_getElem? (i := 31) rfl)))
  have y12 : cT.slots[12]? = some (.int (-1 : Int32)) := Wk.elemS eT AT (Cond.before_iff.mp (hsets _ (List.mem_of_getElem? (i := 32) rfl)))
  have y13 : cT.slots[13]? = some (.int (-1 : Int32)) := Wk.elemS eT AT (Cond.before_iff.mp (hsets _ (List.mem_of_getElem? (i := 33) rfl)))
  have y14 : cT.slots[14]? = some (.int (-1 : Int32)) := Wk.elemS eT AT (Cond.before_iff.mp (hsets _ (List.mem_of_getElem? (i := 34) rfl)))
  have y15 : cT.slots[15]? = some (.int (-1 : Int32)) := Wk.elemS eT AT (Cond.before_iff.mp (hsets _ (List.mem_of_getElem? (i := 35) rfl)))
  have y16 : cT.slots[16]? = some (.int (-1 : Int32)) := Wk.elemS eT AT (Cond.before_iff.mp (hsets _ (List.mem_of_getElem? (i := 36) rfl)))
  have y17 : cT.slots[17]? = some (.int (-1 : Int32)) := Wk.elemS eT AT (Cond.before_iff.mp (hsets _ (List.mem_of_getElem? (i := 37) rfl)))
  have y18 : cT.slots[18]? = some (.int (-1 : Int32)) := Wk.elemS eT AT (Cond.before_iff.mp (hsets _ (List.mem_of_getElem? (i := 38) rfl)))
  have y19 : cT.slots[19]? = some (.int (-1 : Int32)) := Wk.elemS eT AT (Cond.before_iff.mp (hsets _ (List.mem_of_getElem? (i := 39) rfl)))
  have y20 : cT.slots[20]? = some (.int (-1 : Int32)) := Wk.elemS eT AT (Cond.before_iff.mp (hsets _ (List.mem_of_getElem? (i := 40) rfl)))
  have y21 : cT.slots[21]? = some (.int (-1 : Int32)) := Wk.elemS eT AT (Cond.before_iff.mp (hsets _ (List.mem_of_getElem? (i := 41) rfl)))
  have y22 : cT.slots[22]? = some (.int (-1 : Int32)) := Wk.elemS eT AT (Cond.before_iff.mp (hsets _ (List.mem_of_getElem? (i := 42) rfl)))
  have y23 : cT.slots[23]? = some (.int (-1 : Int32)) := Wk.elemS eT AT (Cond.before_iff.mp (hsets _ (List.mem_of_getElem? (i := 43) rfl)))
  have y24 : cT.slots[24]? = some (.int (-1 : Int32)) := Wk.elemS eT AT (Cond.before_iff.mp (hsets _ (List.mem_of_getElem? (i := 44) rfl)))
  have y25 : cT.slots[25]? = some (.int (-1 : Int32)) := Wk.elemS eT AT (Cond.before_iff.mp (hsets _ (List.mem_of_getElem? (i := 45) rfl)))
  have y26 : cT.slots[26]? = some (.int (-1 : Int32)) := Wk.elemS eT AT (Cond.before_iff.mp (hsets _ (List.mem_of_getElem? (i := 46) rfl)))
  have y27 : cT.slots[27]? = some (.int (-1 : Int32)) := Wk.elemS eT AT (Cond.before_iff.mp (hsets _ (List.mem_of_getElem? (i := 47) rfl)))
  have y28 : cT.slots[28]? = some (.int (-1 : Int32)) := Wk.elemS eT AT (Cond.before_iff.mp (hsets _ (List.mem_of_getElem? (i := 48) rfl)))
  have y29 : cT.slots[29]? = some (.int (-1 : Int32)) := Wk.elemS eT AT (Cond.before_iff.mp (hsets _ (List.mem_of_getElem? (i := 49) rfl)))
  have y30 : cT.slots[30]? = some (.int (-1 : Int32)) := Wk.elemS eT AT (Cond.before_iff.mp (hsets _ (List.mem_of_getElem? (i := 50) rfl)))
  have y31 : cT.slots[31]? = some (.int (-1 : Int32)) := Wk.elemS eT AT (Cond.before_iff.mp (hsets _ (List.mem_of_getElem? (i := 51) rfl)))
  have y32 : cT.slots[32]? = some (.int (-1 : Int32)) := Wk.elemS eT AT (Cond.before_iff.mp (hsets _ (List.mem_of_getElem? (i := 52) rfl)))
  have y33 : cT.slots[33]? = some (.int (-1 : Int32)) := Wk.elemS eT AT (Cond.before_iff.mp (hsets _ (List.mem_of_getElem? (i := 53) rfl)))
  have y34 : cT.slots[34]? = some (.int (-1 : Int32)) := Wk.elemS eT AT (Cond.before_iff.mp (hsets _ (List.mem_of_getElem? (i := 54) rfl)))
  have y35 : cT.slots[35]? = some (.int (-1 : Int32)) := Wk.elemS eT AT (Cond.before_iff.mp (hsets _ (List.mem_of_getElem? (i := 55) rfl)))
  have y36 : cT.slots[36]? = some (.int (-1 : Int32)) := Wk.elemS eT AT (Cond.before_iff.mp (hsets _ (List.mem_of_getElem? (i := 56) rfl)))
  have y37 : cT.slots[37]? = some (.int (-1 : Int32)) := Wk.elemS eT AT (Cond.before_iff.mp (hsets _ (List.mem_of_getElem? (i := 57) rfl)))
  have y38 : cT.slots[38]? = some (.int (-1 : Int32)) := Wk.elemS eT AT (Cond.before_iff.mp (hsets _ (List.mem_of_getElem? (i := 58) rfl)))
  have y39 : cT.slots[39]? = some (.int (-1 : Int32)) := Wk.elemS eT AT (Cond.before_iff.mp (hsets _ (List.mem_of_getElem? (i := 59) rfl)))
  have y40 : cT.slots[40]? = some (.int (-1 : Int32)) := Wk.elemS eT AT (Cond.before_iff.mp (hsets _ (List.mem_of_getElem? (i := 60) rfl)))
  have y41 : cT.slots[41]? = some (.int (-1 : Int32)) := Wk.elemS eT AT (Cond.before_iff.mp (hsets _ (List.mem_of_getElem? (i := 61) rfl)))
  have y42 : cT.slots[42]? = some (.int (-1 : Int32)) := Wk.elemS eT AT (Cond.before_iff.mp (hsets _ (List.mem_of_getElem? (i := 62) rfl)))
  have y43 : cT.slots[43]? = some (.int (-1 : Int32)) := Wk.elemS eT AT (Cond.before_iff.mp (hsets _ (List.mem_of_getElem? (i := 63) rfl)))
  have y44 : cT.slots[44]? = some (.int (-1 : Int32)) := Wk.elemS eT AT (Cond.before_iff.mp (hsets _ (List.mem_of_getElem? (i := 64) rfl)))
  have y45 : cT.slots[45]? = some (.int (62 : Int32)) := Wk.elemS eT AT (Cond.before_iff.mp (hsets _ (List.mem_of_getElem? (i := 65) rfl)))
  have y46 : cT.slots[46]? = some (.int (-1 : Int32)) := Wk.elemS eT AT (Cond.before_iff.mp (hsets _ (List.mem_of_getElem? (i := 66) rfl)))
  have y47 : cT.slots[47]? = some (.int (-1 : Int32)) := Wk.elemS eT AT (Cond.before_iff.mp (hsets _ (List.mem_of_getElem? (i := 67) rfl)))
  have y48 : cT.slots[48]? = some (.int (52 : Int32)) := Wk.elemS eT AT (Cond.before_iff.mp (hsets _ (List.mem_of_getElem? (i := 68) rfl)))
  have y49 : cT.slots[49]? = some (.int (53 : Int32)) := Wk.elemS eT AT (Cond.before_iff.mp (hsets _ (List.mem_of_getElem? (i := 69) rfl)))
  have y50 : cT.slots[50]? = some (.int (54 : Int32)) := Wk.elemS eT AT (Cond.before_iff.mp (hsets _ (List.mem_of_getElem? (i := 70) rfl)))
  have y51 : cT.slots[51]? = some (.int (55 : Int32)) := Wk.elemS eT AT (Cond.before_iff.mp (hsets _ (List.mem_of_getElem? (i := 71) rfl)))
  have y52 : cT.slots[52]? = some (.int (56 : Int32)) := Wk.elemS eT AT (Cond.before_iff.mp (hsets _ (List.mem_of_getElem? (i := 72) rfl)))
  have y53 : cT.slots[53]? = some (.int (57 : Int32)) := Wk.elemS eT AT (Cond.before_iff.mp (hsets _ (List.mem_of_getElem? (i := 73) rfl)))
  have y54 : cT.slots[54]? = some (.int (58 : Int32)) := Wk.elemS eT AT (Cond.before_iff.mp (hsets _ (List.mem_of_getElem? (i := 74) rfl)))
  have y55 : cT.slots[55]? = some (.int (59 : Int32)) := Wk.elemS eT AT (Cond.before_iff.mp (hsets _ (List.mem_of_getElem? (i := 75) rfl)))
  have y56 : cT.slots[56]? = some (.int (60 : Int32)) := Wk.elemS eT AT (Cond.before_iff.mp (hsets _ (List.mem_of_getElem? (i := 76) rfl)))
  have y57 : cT.slots[57]? = some (.int (61 : Int32)) := Wk.elemS eT AT (Cond.before_iff.mp (hsets _ (List.mem_of_getElem? (i := 77) rfl)))
  have y58 : cT.slots[58]? = some (.int (-1 : Int32)) := Wk.elemS eT AT (Cond.before_iff.mp (hsets _ (List.mem_of_getElem? (i := 78) rfl)))
  have y59 : cT.slots[59]? = some (.int (-1 : Int32)) := Wk.elemS eT AT (Cond.before_iff.mp (hsets _ (List.mem_of_getElem? (i := 79) rfl)))
  have y60 : cT.slots[60]? = some (.int (-1 : Int32)) := Wk.elemS eT AT (Cond.before_iff.mp (hsets _ (List.mem_of_getElem? (i := 80) rfl)))
  have y61 : cT.slots[61]? = some (.int (-2 : Int32)) := Wk.elemS eT AT (Cond.before_iff.mp (hsets _ (List.mem_of_getElem? (i := 81) rfl)))
  have y62 : cT.slots[62]? = some (.int (-1 : Int32)) := Wk.elemS eT AT (Cond.before_iff.mp (hsets _ (List.mem_of_getElem? (i := 82) rfl)))
  have y63 : cT.slots[63]? = some (.int (-1 : Int32)) := Wk.elemS eT AT (Cond.before_iff.mp (hsets _ (List.mem_of_getElem? (i := 83) rfl)))
  have y64 : cT.slots[64]? = some (.int (-1 : Int32)) := Wk.elemS eT AT (Cond.before_iff.mp (hsets _ (List.mem_of_getElem? (i := 84) rfl)))
  have y65 : cT.slots[65]? = some (.int (0 : Int32)) := Wk.elemS eT AT (Cond.before_iff.mp (hsets _ (List.mem_of_getElem? (i := 85) rfl)))
  have y66 : cT.slots[66]? = some (.int (1 : Int32)) := Wk.elemS eT AT (Cond.before_iff.mp (hsets _ (List.mem_of_getElem? (i := 86) rfl)))
  have y67 : cT.slots[67]? = some (.int (2 : Int32)) := Wk.elemS eT AT (Cond.before_iff.mp (hsets _ (List.mem_of_getElem? (i := 87) rfl)))
  have y68 : cT.slots[68]? = some (.int (3 : Int32)) := Wk.elemS eT AT (Cond.before_iff.mp (hsets _ (List.mem_of_getElem? (i := 88) rfl)))
  have y69 : cT.slots[69]? = some (.int (4 : Int32)) := Wk.elemS eT AT (Cond.before_iff.mp (hsets _ (List.mem_of_getElem? (i := 89) rfl)))
  have y70 : cT.slots[70]? = some (.int (5 : Int32)) := Wk.elemS eT AT (Cond.before_iff.mp (hsets _ (List.mem_of_getElem? (i := 90) rfl)))
  have y71 : cT.slots[71]? = some (.int (6 : Int32)) := Wk.elemS eT AT (Cond.before_iff.mp (hsets _ (List.mem_of_getElem? (i := 91) rfl)))
  have y72 : cT.slots[72]? = some (.int (7 : Int32)) := Wk.elemS eT AT (Cond.before_iff.mp (hsets _ (List.mem_of_getElem? (i := 92) rfl)))
  have y73 : cT.slots[73]? = some (.int (8 : Int32)) := Wk.elemS eT AT (Cond.before_iff.mp (hsets _ (List.mem_of_getElem? (i := 93) rfl)))
  have y74 : cT.slots[74]? = some (.int (9 : Int32)) := Wk.elemS eT AT (Cond.before_iff.mp (hsets _ (List.mem_of_getElem? (i := 94) rfl)))
  have y75 : cT.slots[75]? = some (.int (10 : Int32)) := Wk.elemS eT AT (Cond.before_iff.mp (hsets _ (List.mem_of_getElem? (i := 95) rfl)))
  have y76 : cT.slots[76]? = some (.int (11 : Int32)) := Wk.elemS eT AT (Cond.before_iff.mp (hsets _ (List.mem_of_getElem? (i := 96) rfl)))
  have y77 : cT.slots[77]? = some (.int (12 : Int32)) := Wk.elemS eT AT (Cond.before_iff.mp (hsets _ (List.mem_of_getElem? (i := 97) rfl)))
  have y78 : cT.slots[78]? = some (.int (13 : Int32)) := Wk.elemS eT AT (Cond.before_iff.mp (hsets _ (List.mem_of_getElem? (i := 98) rfl)))
  have y79 : cT.slots[79]? = some (.int (14 : Int32)) := Wk.elemS eT AT (Cond.before_iff.mp (hsets _ (List.mem_of_getElem? (i := 99) rfl)))
  have y80 : cT.slots[80]? = some (.int (15 : Int32)) := Wk.elemS eT AT (Cond.before_iff.mp (hsets _ (List.mem_of_getElem? (i := 100) rfl)))
  have y81 : cT.slots[81]? = some (.int (16 : Int32)) := Wk.elemS eT AT (Cond.before_iff.mp (hsets _ (List.mem_of_getElem? (i := 101) rfl)))
  have y82 : cT.slots[82]? = some (.int (17 : Int32)) := Wk.elemS eT AT (Cond.before_iff.mp (hsets _ (List.mem_of_getElem? (i := 102) rfl)))
  have y83 : cT.slots[83]? = some (.int (18 : Int32)) := Wk.elemS eT AT (Cond.before_iff.mp (hsets _ (List.mem_of_getElem? (i := 103) rfl)))
  have y84 : cT.slots[84]? = some (.int (19 : Int32)) := Wk.elemS eT AT (Cond.before_iff.mp (hsets _ (List.mem_of_getElem? (i := 104) rfl)))
  have y85 : cT.slots[85]? = some (.int (20 : Int32)) := Wk.elemS eT AT (Cond.before_iff.mp (hsets _ (List.mem_of_getElem? (i := 105) rfl)))
  have y86 : cT.slots[86]? = some (.int (21 : Int32)) := Wk.elemS eT AT (Cond.before_iff.mp (hsets _ (List.mem_of_getElem? (i := 106) rfl)))
  have y87 : cT.slots[87]? = some (.int (22 : Int32)) := Wk.elemS eT AT (Cond.before_iff.mp (hsets _ (List.mem_of_getElem? (i := 107) rfl)))
  have y88 : cT.slots[88]? = some (.int (23 : Int32)) := Wk.elemS eT AT (Cond.before_iff.mp (hsets _ (List.mem_of_getElem? (i := 108) rfl)))
  have y89 : cT.slots[89]? = some (.int (24 : Int32)) := Wk.elemS eT AT (Cond.before_iff.mp (hsets _ (List.mem_of_getElem? (i := 109) rfl)))
  have y90 : cT.slots[90]? = some (.int (25 : Int32)) := Wk.elemS eT AT (Cond.before_iff.mp (hsets _ (List.mem_of_getElem? (i := 110) rfl)))
  have y91 : cT.slots[91]? = some (.int (-1 : Int32)) := Wk.elemS eT AT (Cond.before_iff.mp (hsets _ (List.mem_of_getElem? (i := 111) rfl)))
  have y92 : cT.slots[92]? = some (.int (-1 : Int32)) := Wk.elemS eT AT (Cond.before_iff.mp (hsets _ (List.mem_of_getElem? (i := 112) rfl)))
  have y93 : cT.slots[93]? = some (.int (-1 : Int32)) := Wk.elemS eT AT (Cond.before_iff.mp (hsets _ (List.mem_of_getElem? (i := 113) rfl)))
  have y94 : cT.slots[94]? = some (.int (-1 : Int32)) := Wk.elemS eT AT (Cond.before_iff.mp (hsets _ (List.mem_of_getElem? (i := 114) rfl)))
  have y95 : cT.slots[95]? = some (.int (63 : Int32)) := Wk.elemS eT AT (Cond.before_iff.mp (hsets _ (List.mem_of_getElem? (i := 115) rfl)))
  have y96 : cT.slots[96]? = some (.int (-1 : Int32)) := Wk.elemS eT AT (Cond.before_iff.mp (hsets _ (List.mem_of_getElem? (i := 116) rfl)))
  have y97 : cT.slots[97]? = some (.int (26 : Int32)) := Wk.elemS eT AT (Cond.before_iff.mp (hsets _ (List.mem_of_getElem? (i := 117) rfl)))
  have y98 : cT.slots[98]? = some (.int (27 : Int32)) := Wk.elemS eT AT (Cond.before_iff.mp (hsets _ (List.mem_of_getElem? (i := 118) rfl)))
  have y99 : cT.slots[99]? = some (.int (28 : Int32)) := Wk.elemS eT AT (Cond.before_iff.mp (hsets _ (List.mem_of_getElem? (i := 119) rfl)))
  have y100 : cT.slots[100]? = some (.int (29 : Int32)) := Wk.elemS eT AT (Cond.before_iff.mp (hsets _ (List.mem_of_getElem? (i := 120) rfl)))
  have y101 : cT.slots[101]? = some (.int (30 : Int32)) := Wk.elemS eT AT (Cond.before_iff.mp (hsets _ (List.mem_of_getElem? (i := 121) rfl)))
  have y102 : cT.slots[102]? = some (.int (31 : Int32)) := Wk.elemS eT AT (Cond.before_iff.mp (hsets _ (List.mem_of_getElem? (i := 122) rfl)))
  have y103 : cT.slots[103]? = some (.int (32 : Int32)) := Wk.elemS eT AT (Cond.before_iff.mp (hsets _ (List.mem_of_getElem? (i := 123) rfl)))
  have y104 : cT.slots[104]? = some (.int (33 : Int32)) := Wk.elemS eT AT (Cond.before_iff.mp (hsets _ (List.mem_of_getElem? (i := 124) rfl)))
  have y105 : cT.slots[105]? = some (.int (34 : Int32)) := Wk.elemS eT AT (Cond.before_iff.mp (hsets _ (List.mem_of_getElem? (i := 125) rfl)))
  have y106 : cT.slots[106]? = some (.int (35 : Int32)) := Wk.elemS eT AT (Cond.before_iff.mp (hsets _ (List.mem_of_getElem? (i := 126) rfl)))
  have y107 : cT.slots[107]? = some (.int (36 : Int32)) := Wk.elemS eT AT (Cond.before_iff.mp (hsets _ (List.mem_of_getElem? (i := 127) rfl)))
  have y108 : cT.slots[108]? = some (.int (37 : Int32)) := Wk.elemS eT AT (Cond.before_iff.mp (hsets _ (List.mem_of_getElem? (i := 128) rfl)))
  have y109 : cT.slots[109]? = some (.int (38 : Int32)) := Wk.elemS eT AT (Cond.before_iff.mp (hsets _ (List.mem_of_getElem? (i := 129) rfl)))
  have y110 : cT.slots[110]? = some (.int (39 : Int32)) := Wk.elemS eT AT (Cond.before_iff.mp (hsets _ (List.mem_of_getElem? (i := 130) rfl)))
  have y111 : cT.slots[111]? = some (.int (40 : Int32)) := Wk.elemS eT AT (Cond.before_iff.mp (hsets _ (List.mem_of_getElem? (i := 131) rfl)))
  have y112 : cT.slots[112]? = some (.int (41 : Int32)) := Wk.elemS eT AT (Cond.before_iff.mp (hsets _ (List.mem_of_getElem? (i := 132) rfl)))
  have y113 : cT.slots[113]? = some (.int (42 : Int32)) := Wk.elemS eT AT (Cond.before_iff.mp (hsets _ (List.mem_of_getElem? (i := 133) rfl)))
  have y114 : cT.slots[114]? = some (.int (43 : Int32)) := Wk.elemS eT AT (Cond.before_iff.mp (hsets _ (List.mem_of_getElem? (i := 134) rfl)))
  have y115 : cT.slots[115]? = some (.int (44 : Int32)) := Wk.elemS eT AT (Cond.before_iff.mp (hsets _ (List.mem_of_getElem? (i := 135) rfl)))
  have y116 : cT.slots[116]? = some (.int (45 : Int32)) := Wk.elemS eT AT (Cond.before_iff.mp (hsets _ (List.mem_of_getElem? (i := 136) rfl)))
  have y117 : cT.slots[117]? = some (.int (46 : Int32)) := Wk.elemS eT AT (Cond.before_iff.mp (hsets _ (List.mem_of_getElem? (i := 137) rfl)))
  have y118 : cT.slots[118]? = some (.int (47 : Int32)) := Wk.elemS eT AT (Cond.before_iff.mp (hsets _ (List.mem_of_getElem? (i := 138) rfl)))
  have y119 : cT.slots[119]? = some (.int (48 : Int32)) := Wk.elemS eT AT (Cond.before_iff.mp (hsets _ (List.mem_of_getElem? (i := 139) rfl)))
  have y120 : cT.slots[120]? = some (.int (49 : Int32)) := Wk.elemS eT AT (Cond.before_iff.mp (hsets _ (List.mem_of_getElem? (i := 140) rfl)))
  have y121 : cT.slots[121]? = some (.int (50 : Int32)) := Wk.elemS eT AT (Cond.before_iff.mp (hsets _ (List.mem_of_getElem? (i := 141) rfl)))
  have y122 : cT.slots[122]? = some (.int (51 : Int32)) := Wk.elemS eT AT (Cond.before_iff.mp (hsets _ (List.mem_of_getElem? (i := 142) rfl)))
  have y123 : cT.slots[123]? = some (.int (-1 : Int32)) := Wk.elemS eT AT (Cond.before_iff.mp (hsets _ (List.mem_of_getElem? (i := 143) rfl)))
  have y124 : cT.slots[124]? = some (.int (-1 : Int32)) := Wk.elemS eT AT (Cond.before_iff.mp (hsets _ (List.mem_of_getElem? (i := 144) rfl)))
  have y125 : cT.slots[125]? = some (.int (-1 : Int32)) := Wk.elemS eT AT (Cond.before_iff.mp (hsets _ (List.mem_of_getElem? (i := 145) rfl)))
  have y126 : cT.slots[126]? = some (.int (-1 : Int32)) := Wk.elemS eT AT (Cond.before_iff.mp (hsets _ (List.mem_of_getElem? (i := 146) rfl)))
  have y127 : cT.slots[127]? = some (.int (-1 : Int32)) := Wk.elemS eT AT (Cond.before_iff.mp (hsets _ (List.mem_of_getElem? (i := 147) rfl)))
  have y128 : cT.slots[128]? = some (.int (-1 : Int32)) := Wk.elemS eT AT (Cond.before_iff.mp (hsets _ (List.mem_of_getElem? (i := 148) rfl)))
  have y129 : cT.slots[129]? = some (.int (-1 : Int32)) := Wk.elemS eT AT (Cond.before_iff.mp (hsets _ (List.mem_of_getElem? (i := 149) rfl)))
  have y130 : cT.slots[130]? = some (.int (-1 : Int32)) := Wk.elemS eT AT (Cond.before_iff.mp (hsets _ (List.mem_of_getElem? (i := 150) rfl)))
  have y131 : cT.slots[131]? = some (.int (-1 : Int32)) := Wk.elemS eT AT (Cond.before_iff.mp (hsets _ (List.mem_of_getElem? (i := 151) rfl)))
  have y132 : cT.slots[132]? = some (.int (-1 : Int32)) := Wk.elemS eT AT (Cond.before_iff.mp (hsets _ (List.mem_of_getElem? (i := 152) rfl)))
  have y133 : cT.slots[133]? = some (.int (-1 : Int32)) := Wk.elemS eT AT (Cond.before_iff.mp (hsets _ (List.mem_of_getElem? (i := 153) rfl)))
  have y134 : cT.slots[134]? = some (.int (-1 : Int32)) := Wk.elemS eT AT (Cond.before_iff.mp (hsets _ (List.mem_of_getElem? (i := 154) rfl)))
  have y135 : cT.slots[135]? = some (.int (-1 : Int32)) := Wk.elemS eT AT (Cond.before_iff.mp (hsets _ (List.mem_of_getElem? (i := 155) rfl)))
  have y136 : cT.slots[136]? = some (.int (-1 : Int32)) := Wk.elemS eT AT (Cond.before_iff.mp (hsets _ (List.mem_of_getElem? (i := 156) rfl)))
  have y137 : cT.slots[137]? = some (.int (-1 : Int32)) := Wk.elemS eT AT (Cond.before_iff.mp (hsets _ (List.mem_of_getElem? (i := 157) rfl)))
  have y138 : cT.slots[138]? = some (.int (-1 : Int32)) := Wk.elemS eT AT (Cond.before_iff.mp (hsets _ (List.mem_of_getElem? (i := 158) rfl)))
  have y139 : cT.slots[139]? = some (.int (-1 : Int32)) := Wk.elemS eT AT (Cond.before_iff.mp (hsets _ (List.mem_of_getElem? (i := 159) rfl)))
  have y140 : cT.slots[140]? = some (.int (-1 : Int32)) := Wk.elemS eT AT (Cond.before_iff.mp (hsets _ (List.mem_of_getElem? (i := 160) rfl)))
  have y141 : cT.slots[141]? = some (.int (-1 : Int32)) := Wk.elemS eT AT (Cond.before_iff.mp (hsets _ (List.mem_of_getElem? (i := 161) rfl)))
  have y142 : cT.slots[142]? = some (.int (-1 : Int32)) := Wk.elemS eT AT (Cond.before_iff.mp (hsets _ (List.mem_of_getElem? (i := 162) rfl)))
  have y143 : cT.slots[143]? = some (.int (-1 : Int32)) := Wk.elemS eT AT (Cond.before_iff.mp (hsets _ (List.mem_of_getElem? (i := 163) rfl)))
  have y144 : cT.slots[144]? = some (.int (-1 : Int32)) := Wk.elemS eT AT (Cond.before_iff.mp (hsets _ (List.mem_of_getElem? (i := 164) rfl)))
  have y145 : cT.slots[145]? = some (.int (-1 : Int32)) := Wk.elemS eT AT (Cond.before_iff.mp (hsets _ (List.mem_of_getElem? (i := 165) rfl)))
  have y146 : cT.slots[146]? = some (.int (-1 : Int32)) := Wk.elemS eT AT (Cond.before_iff.mp (hsets _ (List.mem_of_getElem? (i := 166) rfl)))
  have y147 : cT.slots[147]? = some (.int (-1 : Int32)) := Wk.elemS eT AT (Cond.before_iff.mp (hsets _ (List.mem_of_getElem? (i := 167) rfl)))
  have y148 : cT.slots[148]? = some (.int (-1 : Int32)) := Wk.elemS eT AT (Cond.before_iff.mp (hsets _ (List.mem_of_getElem? (i := 168) rfl)))
  have y149 : cT.slots[149]? = some (.int (-1 : Int32)) := Wk.elemS eT AT (Cond.before_iff.mp (hsets _ (List.mem_of_getElem? (i := 169) rfl)))
  have y150 : cT.slots[150]? = some (.int (-1 : Int32)) := Wk.elemS eT AT (Cond.before_iff.mp (hsets _ (List.mem_of_getElem? (i := 170) rfl)))
  have y151 : cT.slots[151]? = some (.int (-1 : Int32)) := Wk.elemS eT AT (Cond.before_iff.mp (hsets _ (List.mem_of_getElem? (i := 171) rfl)))
  have y152 : cT.slots[152]? = some (.int (-1 : Int32)) := Wk.elemS eT AT (Cond.before_iff.mp (hsets _ (List.mem_of_getElem? (i := 172) rfl)))
  have y153 : cT.slots[153]? = some (.int (-1 : Int32)) := Wk.elemS eT AT (Cond.before_iff.mp (hsets _ (List.mem_of_getElem? (i := 173) rfl)))
  have y154 : cT.slots[154]? = some (.int (-1 : Int32)) := Wk.elemS eT AT (Cond.before_iff.mp (hsets _ (List.mem_of_getElem? (i := 174) rfl)))
  have y155 : cT.slots[155]? = some (.int (-1 : Int32)) := Wk.elemS eT AT (Cond.before_iff.mp (hsets _ (List.mem_of_getElem? (i := 175) rfl)))
  have y156 : cT.slots[156]? = some (.int (-1 : Int32)) := Wk.elemS eT AT (Cond.before_iff.mp (hsets _ (List.mem_of_getElem? (i := 176) rfl)))
  have y157 : cT.slots[157]? = some (.int (-1 : Int32)) := Wk.elemS eT AT (Cond.before_iff.mp (hsets _ (List.mem_of_getElem? (i := 177) rfl)))
  have y158 : cT.slots[158]? = some (.int (-1 : Int32)) := Wk.elemS eT AT (Cond.before_iff.mp (hsets _ (List.mem_of_getElem? (i := 178) rfl)))
  have y159 : cT.slots[159]? = some (.int (-1 : Int32)) := Wk.elemS eT AT (Cond.before_iff.mp (hsets _ (List.mem_of_getElem? (i := 179) rfl)))
  have y160 : cT.slots[160]? = some (.int (-1 : Int32)) := Wk.elemS eT AT (Cond.before_iff.mp (hsets _ (List.mem_of_getElem? (i := 180) rfl)))
  have y161 : cT.slots[161]? = some (.int (-1 : Int32)) := Wk.elemS eT AT (Cond.before_iff.mp (hsets _ (List.mem_of_getElem? (i := 181) rfl)))
  have y162 : cT.slots[162]? = some (.int (-1 : Int32)) := Wk.elemS eT AT (Cond.before_iff.mp (hsets _ (List.mem_of_getElem? (i := 182) rfl)))
  have y163 : cT.slots[163]? = some (.int (-1 : Int32)) := Wk.elemS eT AT (Cond.before_iff.mp (hsets _ (List.mem_of_getElem? (i := 183) rfl)))
  have y164 : cT.slots[164]? = some (.int (-1 : Int32)) := Wk.elemS eT AT (Cond.before_iff.mp (hsets _ (List.mem_of_getElem? (i := 184) rfl)))
  have y165 : cT.slots[165]? = some (.int (-1 : Int32)) := Wk.elemS eT AT (Cond.before_iff.mp (hsets _ (List.mem_of_getElem? (i := 185) rfl)))
  have y166 : cT.slots[166]? = some (.int (-1 : Int32)) := Wk.elemS eT AT (Cond.before_iff.mp (hsets _ (List.mem_of_getElem? (i := 186) rfl)))
  have y167 : cT.slots[167]? = some (.int (-1 : Int32)) := Wk.elemS eT AT (Cond.before_iff.mp (hsets _ (List.mem_of_getElem? (i := 187) rfl)))
  have y168 : cT.slots[168]? = some (.int (-1 : Int32)) := Wk.elemS eT AT (Cond.before_iff.mp (hsets _ (List.mem_of_getElem? (i := 188) rfl)))
  have y169 : cT.slots[169]? = some (.int (-1 : Int32)) := Wk.elemS eT AT (Cond.before_iff.mp (hsets _ (List.mem_of_getElem? (i := 189) rfl)))
  have y170 : cT.slots[170]? = some (.int (-1 : Int32)) := Wk.elemS eT AT (Cond.before_iff.mp (hsets _ (List.mem_of_getElem? (i := 190) rfl)))
  have y171 : cT.slots[171]? = some (.int (-1 : Int32)) := Wk.elemS eT AT (Cond.before_iff.mp (hsets _ (List.mem_of_getElem? (i := 191) rfl)))
  have y172 : cT.slots[172]? = some (.int (-1 : Int32)) := Wk.elemS eT AT (Cond.before_iff.mp (hsets _ (List.mem_of_getElem? (i := 192) rfl)))
  have y173 : cT.slots[173]? = some (.int (-1 : Int32)) := Wk.elemS eT AT (Cond.before_iff.mp (hsets _ (List.mem_of_getElem? (i := 193) rfl)))
  have y174 : cT.slots[174]? = some (.int (-1 : Int32)) := Wk.elemS eT AT (Cond.before_iff.mp (hsets _ (List.mem_of_getElem? (i := 194) rfl)))
  have y175 : cT.slots[175]? = some (.int (-1 : Int32)) := Wk.elemS eT AT (Cond.before_iff.mp (hsets _ (List.mem_of_getElem? (i := 195) rfl)))
  have y176 : cT.slots[176]? = some (.int (-1 : Int32)) := Wk.elemS eT AT (Cond.before_iff.mp (hsets _ (List.mem_of_getElem? (i := 196) rfl)))
  have y177 : cT.slots[177]? = some (.int (-1 : Int32)) := Wk.elemS eT AT (Cond.before_iff.mp (hsets _ (List.mem_of_getElem? (i := 197) rfl)))
  have y178 : cT.slots[178]? = some (.int (-1 : Int32)) := Wk.elemS eT AT (Cond.before_iff.mp (hsets _ (List.mem_of_getElem? (i := 198) rfl)))
  have y179 : cT.slots[179]? = some (.int (-1 : Int32)) := Wk.elemS eT AT (Cond.before_iff.mp (hsets _ (List.mem_of_getElem? (i := 199) rfl)))
  have y180 : cT.slots[180]? = some (.int (-1 : Int32)) := Wk.elemS eT AT (Cond.before_iff.mp (hsets _ (List.mem_of_getElem? (i := 200) rfl)))
  have y181 : cT.slots[181]? = some (.int (-1 : Int32)) := Wk.elemS eT AT (Cond.before_iff.mp (hsets _ (List.mem_of_getElem? (i := 201) rfl)))
  have y182 : cT.slots[182]? = some (.int (-1 : Int32)) := Wk.elemS eT AT (Cond.before_iff.mp (hsets _ (List.mem_of_getElem? (i := 202) rfl)))
  have y183 : cT.slots[183]? = some (.int (-1 : Int32)) := Wk.elemS eT AT (Cond.before_iff.mp (hsets _ (List.mem_of_getElem? (i := 203) rfl)))
  have y184 : cT.slots[184]? = some (.int (-1 : Int32)) := Wk.elemS eT AT (Cond.before_iff.mp (hsets _ (List.mem_of_getElem? (i := 204) rfl)))
  have y185 : cT.slots[185]? = some (.int (-1 : Int32)) := Wk.elemS eT AT (Cond.before_iff.mp (hsets _ (List.mem_of_getElem? (i := 205) rfl)))
  have y186 : cT.slots[186]? = some (.int (-1 : Int32)) := Wk.elemS eT AT (Cond.before_iff.mp (hsets _ (List.mem_of_getElem? (i := 206) rfl)))
  have y187 : cT.slots[187]? = some (.int (-1 : Int32)) := Wk.elemS eT AT (Cond.before_iff.mp (hsets _ (List.mem_of_getElem? (i := 207) rfl)))
  have y188 : cT.slots[188]? = some (.int (-1 : Int32)) := Wk.elemS eT AT (Cond.before_iff.mp (hsets _ (List.mem_of_getElem? (i := 208) rfl)))
  have y189 : cT.slots[189]? = some (.int (-1 : Int32)) := Wk.elemS eT AT (Cond.before_iff.mp (hsets _ (List.mem_of_getElem? (i := 209) rfl)))
  have y190 : cT.slots[190]? = some (.int (-1 : Int32)) := Wk.elemS eT AT (Cond.before_iff.mp (hsets _ (List.mem_of_getElem? (i := 210) rfl)))
  have y191 : cT.slots[191]? = some (.int (-1 : Int32)) := Wk.elemS eT AT (Cond.before_iff.mp (hsets _ (List.mem_of_getElem? (i := 211) rfl)))
  have y192 : cT.slots[192]? = some (.int (-1 : Int32)) := Wk.elemS eT AT (Cond.before_iff.mp (hsets _ (List.mem_of_getElem? (i := 212) rfl)))
  have y193 : cT.slots[193]? = some (.int (-1 : Int32)) := Wk.elemS eT AT (Cond.before_iff.mp (hsets _ (List.mem_of_getElem? (i := 213) rfl)))
  have y194 : cT.slots[194]? = some (.int (-1 : Int32)) := Wk.elemS eT AT (Cond.before_iff.mp (hsets _ (List.mem_of_getElem? (i := 214) rfl)))
  have y195 : cT.slots[195]? = some (.int (-1 : Int32)) := Wk.elemS eT AT (Cond.before_iff.mp (hsets _ (List.mem_of_getElem? (i := 215) rfl)))
  have y196 : cT.slots[196]? = some (.int (-1 : Int32)) := Wk.elemS eT AT (Cond.before_iff.mp (hsets _ (List.mem_of_getElem? (i := 216) rfl)))
  have y197 : cT.slots[197]? = some (.int (-1 : Int32)) := Wk.elemS eT AT (Cond.before_iff.mp (hsets _ (List.mem_of_getElem? (i := 217) rfl)))
  have y198 : cT.slots[198]? = some (.int (-1 : Int32)) := Wk.elemS eT AT (Cond.before_iff.mp (hsets _ (List.mem_of_getElem? (i := 218) rfl)))
  have y199 : cT.slots[199]? = some (.int (-1 : Int32)) := Wk.elemS eT AT (Cond.before_iff.mp (hsets _ (List.mem_of_getElem? (i := 219) rfl)))
  have y200 : cT.slots[200]? = some (.int (-1 : Int32)) := Wk.elemS eT AT (Cond.before_iff.mp (hsets _ (List.mem_of_getElem? (i := 220) rfl)))
  have y201 : cT.slots[201]? = some (.int (-1 : Int32)) := Wk.elemS eT AT (Cond.before_iff.mp (hsets _ (List.mem_of_getElem? (i := 221) rfl)))
  have y202 : cT.slots[202]? = some (.int (-1 : Int32)) := Wk.elemS eT AT (Cond.before_iff.mp (hsets _ (List.mem_of_getElem? (i := 222) rfl)))
  have y203 : cT.slots[203]? = some (.int (-1 : Int32)) := Wk.elemS eT AT (Cond.before_iff.mp (hsets _ (List.mem_of_getElem? (i := 223) rfl)))
  have y204 : cT.slots[204]? = some (.int (-1 : Int32)) := Wk.elemS eT AT (Cond.before_iff.mp (hsets _ (List.mem_of_getElem? (i := 224) rfl)))
  have y205 : cT.slots[205]? = some (.int (-1 : Int32)) := Wk.elemS eT AT (Cond.before_iff.mp (hsets _ (List.mem_of_getElem? (i := 225) rfl)))
  have y206 : cT.slots[206]? = some (.int (-1 : Int32)) := Wk.elemS eT AT (Cond.before_iff.mp (hsets _ (List.mem_of_getElem? (i := 226) rfl)))
  have y207 : cT.slots[207]? = some (.int (-1 : Int32)) := Wk.elemS eT AT (Cond.before_iff.mp (hsets _ (List.mem_of_getElem? (i := 227) rfl)))
  have y208 : cT.slots[208]? = some (.int (-1 : Int32)) := Wk.elemS eT AT (Cond.before_iff.mp (hsets _ (List.mem_of_getElem? (i := 228) rfl)))
  have y209 : cT.slots[209]? = some (.int (-1 : Int32)) := Wk.elemS eT AT (Cond.before_iff.mp (hsets _ (List.mem_of_getElem? (i := 229) rfl)))
  have y210 : cT.slots[210]? = some (.int (-1 : Int32)) := Wk.elemS eT AT (Cond.before_iff.mp (hsets _ (List.mem_of_getElem? (i := 230) rfl)))
  have y211 : cT.slots[211]? = some (.int (-1 : Int32)) := Wk.elemS eT AT (Cond.before_iff.mp (hsets _ (List.mem_of_getElem? (i := 231) rfl)))
  have y212 : cT.slots[212]? = some (.int (-1 : Int32)) := Wk.elemS eT AT (Cond.before_iff.mp (hsets _ (List.mem_of_getElem? (i := 232) rfl)))
  have y213 : cT.slots[213]? = some (.int (-1 : Int32)) := Wk.elemS eT AT (Cond.before_iff.mp (hsets _ (List.mem_of_getElem? (i := 233) rfl)))
  have y214 : cT.slots[214]? = some (.int (-1 : Int32)) := Wk.elemS eT AT (Cond.before_iff.mp (hsets _ (List.mem_of_getElem? (i := 234) rfl)))
  have y215 : cT.slots[215]? = some (.int (-1 : Int32)) := Wk.elemS eT AT (Cond.before_iff.mp (hsets _ (List.mem_of_getElem? (i := 235) rfl)))
  have y216 : cT.slots[216]? = some (.int (-1 : Int32)) := Wk.elemS eT AT (Cond.before_iff.mp (hsets _ (List.mem_of_getElem? (i := 236) rfl)))
  have y217 : cT.slots[217]? = some (.int (-1 : Int32)) := Wk.elemS eT AT (Cond.before_iff.mp (hsets _ (List.mem_of_getElem? (i := 237) rfl)))
  have y218 : cT.slots[218]? = some (.int (-1 : Int32)) := Wk.elemS eT AT (Cond.before_iff.mp (hsets _ (List.mem_of_getElem? (i := 238) rfl)))
  have y219 : cT.slots[219]? = some (.int (-1 : Int32)) := Wk.elemS eT AT (Cond.before_iff.mp (hsets _ (List.mem_of_getElem? (i := 239) rfl)))
  have y220 : cT.slots[220]? = some (.int (-1 : Int32)) := Wk.elemS eT AT (Cond.before_iff.mp (hsets _ (List.mem_of_getElem? (i := 240) rfl)))
  have y221 : cT.slots[221]? = some (.int (-1 : Int32)) := Wk.elemS eT AT (Cond.before_iff.mp (hsets _ (List.mem_of_getElem? (i := 241) rfl)))
  have y222 : cT.slots[222]? = some (.int (-1 : Int32)) := Wk.elemS eT AT (Cond.before_iff.mp (hsets _ (List.mem_of_getElem? (i := 242) rfl)))
  have y223 : cT.slots[223]? = some (.int (-1 : Int32)) := Wk.elemS eT AT (Cond.before_iff.mp (hsets _ (List.mem_of_getElem? (i := 243) rfl)))
  have y224 : cT.slots[224]? = some (.int (-1 : Int32)) := Wk.elemS eT AT (Cond.before_iff.mp (hsets _ (List.mem_of_getElem? (i := 244) rfl)))
  have y225 : cT.slots[225]? = some (.int (-1 : Int32)) := Wk.elemS eT AT (Cond.before_iff.mp (hsets _ (List.mem_of_getElem? (i := 245) rfl)))
  have y226 : cT.slots[226]? = some (.int (-1 : Int32)) := Wk.elemS eT AT (Cond.before_iff.mp (hsets _ (List.mem_of_getElem? (i := 246) rfl)))
  have y227 : cT.slots[227]? = some (.int (-1 : Int32)) := Wk.elemS eT AT (Cond.before_iff.mp (hsets _ (List.mem_of_getElem? (i := 247) rfl)))
  have y228 : cT.slots[228]? = some (.int (-1 : Int32)) := Wk.elemS eT AT (Cond.before_iff.mp (hsets _ (List.mem_of_getElem? (i := 248) rfl)))
  have y229 : cT.slots[229]? = some (.int (-1 : Int32)) := Wk.elemS eT AT (Cond.before_iff.mp (hsets _ (List.mem_of_getElem? (i := 249) rfl)))
  have y230 : cT.slots[230]? = some (.int (-1 : Int32)) := Wk.elemS eT AT (Cond.before_iff.mp (hsets _ (List.mem_of_getElem? (i := 250) rfl)))
  have y231 : cT.slots[231]? = some (.int (-1 : Int32)) := Wk.elemS eT AT (Cond.before_iff.mp (hsets _ (List.mem_of_getElem? (i := 251) rfl)))
  have y232 : cT.slots[232]? = some (.int (-1 : Int32)) := Wk.elemS eT AT (Cond.before_iff.mp (hsets _ (List.mem_of_getElem? (i := 252) rfl)))
  have y233 : cT.slots[233]? = some (.int (-1 : Int32)) := Wk.elemS eT AT (Cond.before_iff.mp (hsets _ (List.mem_of_getElem? (i := 253) rfl)))
  have y234 : cT.slots[234]? = some (.int (-1 : Int32)) := Wk.elemS eT AT (Cond.before_iff.mp (hsets _ (List.mem_of_getElem? (i := 254) rfl)))
  have y235 : cT.slots[235]? = some (.int (-1 : Int32)) := Wk.elemS eT AT (Cond.before_iff.mp (hsets _ (List.mem_of_getElem? (i := 255) rfl)))
  have y236 : cT.slots[236]? = some (.int (-1 : Int32)) := Wk.elemS eT AT (Cond.before_iff.mp (hsets _ (List.mem_of_getElem? (i := 256) rfl)))
  have y237 : cT.slots[237]? = some (.int (-1 : Int32)) := Wk.elemS eT AT (Cond.before_iff.mp (hsets _ (List.mem_of_getElem? (i := 257) rfl)))
  have y238 : cT.slots[238]? = some (.int (-1 : Int32)) := Wk.elemS eT AT (Cond.before_iff.mp (hsets _ (List.mem_of_getElem? (i := 258) rfl)))
  have y239 : cT.slots[239]? = some (.int (-1 : Int32)) := Wk.elemS eT AT (Cond.before_iff.mp (hsets _ (List.mem_of_getElem? (i := 259) rfl)))
  have y240 : cT.slots[240]? = some (.int (-1 : Int32)) := Wk.elemS eT AT (Cond.before_iff.mp (hsets _ (List.mem_of_getElem? (i := 260) rfl)))
  have y241 : cT.slots[241]? = some (.int (-1 : Int32)) := Wk.elemS eT AT (Cond.before_iff.mp (hsets _ (List.mem_of_getElem? (i := 261) rfl)))
  have y242 : cT.slots[242]? = some (.int (-1 : Int32)) := Wk.elemS eT AT (Cond.before_iff.mp (hsets _ (List.mem_of_getElem? (i := 262) rfl)))
  have y243 : cT.slots[243]? = some (.int (-1 : Int32)) := Wk.elemS eT AT (Cond.before_iff.mp (hsets _ (List.mem_of_getElem? (i := 263) rfl)))
  have y244 : cT.slots[244]? = some (.int (-1 : Int32)) := Wk.elemS eT AT (Cond.before_iff.mp (hsets _ (List.mem_of_getElem? (i := 264) rfl)))
  have y245 : cT.slots[245]? = some (.int (-1 : Int32)) := Wk.elemS eT AT (Cond.before_iff.mp (hsets _ (List.mem_of_getElem? (i := 265) rfl)))
  have y246 : cT.slots[246]? = some (.int (-1 : Int32)) := Wk.elemS eT AT (Cond.before_iff.mp (hsets _ (List.mem_of_getElem? (i := 266) rfl)))
  have y247 : cT.slots[247]? = some (.int (-1 : Int32)) := Wk.elemS eT AT (Cond.before_iff.mp (hsets _ (List.mem_of_getElem? (i := 267) rfl)))
  have y248 : cT.slots[248]? = some (.int (-1 : Int32)) := Wk.elemS eT AT (Cond.before_iff.mp (hsets _ (List.mem_of_getElem? (i := 268) rfl)))
  have y249 : cT.slots[249]? = some (.int (-1 : Int32)) := Wk.elemS eT AT (Cond.before_iff.mp (hsets _ (List.mem_of_getElem? (i := 269) rfl)))
  have y250 : cT.slots[250]? = some (.int (-1 : Int32)) := Wk.elemS eT AT (Cond.before_iff.mp (hsets _ (List.mem_of_getElem? (i := 270) rfl)))
  have y251 : cT.slots[251]? = some (.int (-1 : Int32)) := Wk.elemS eT AT (Cond.before_iff.mp (hsets _ (List.mem_of_getElem? (i := 271) rfl)))
  have y252 : cT.slots[252]? = some (.int (-1 : Int32)) := Wk.elemS eT AT (Cond.before_iff.mp (hsets _ (List.mem_of_getElem? (i := 272) rfl)))
  have y253 : cT.slots[253]? = some (.int (-1 : Int32)) := Wk.elemS eT AT (Cond.before_iff.mp (hsets _ (List.mem_of_getElem? (i := 273) rfl)))
  have y254 : cT.slots[254]? = some (.int (-1 : Int32)) := Wk.elemS eT AT (Cond.before_iff.mp (hsets _ (List.mem_of_getElem? (i := 274) rfl)))
  have y255 : cT.slots[255]? = some (.int (-1 : Int32)) := Wk.elemS eT AT (Cond.before_iff.mp (hsets _ (List.mem_of_getElem? (i := 275) rfl)))
  have VT : Wk.Ary s s.heap aT .int (tabL.map Value.int) := Wk.aryS AT hn rfl ⟨y0, y1, y2, y3, y4, y5, y6, y7, y8, y9, y10, y11, y12, y13, y14, y15, y16, y17, y18, y19, y20, y21, y22, y23, y24, y25, y26, y27, y28, y29, y30, y31, y32, y33, y34, y35, y36, y37, y38, y39, y40, y41, y42, y43, y44, y45, y46, y47, y48, y49, y50, y51, y52, y53, y54, y55, y56, y57, y58, y59, y60, y61, y62, y63, y64, y65, y66, y67, y68, y69, y70, y71, y72, y73, y74, y75, y76, y77, y78, y79, y80, y81, y82, y83, y84, y85, y86, y87, y88, y89, y90, y91, y92, y93, y94, y95, y96, y97, y98, y99, y100, y101, y102, y103, y104, y105, y106, y107, y108, y109, y110, y111, y112, y113, y114, y115, y116, y117, y118, y119, y120, y121, y122, y123, y124, y125, y126, y127, y128, y129, y130, y131, y132, y133, y134, y135, y136, y137, y138, y139, y140, y141, y142, y143, y144, y145, y146, y147, y148, y149, y150, y151, y152, y153, y154, y155, y156, y157, y158, y159, y160, y161, y162, y163, y164, y165, y166, y167, y168, y169, y170, y171, y172, y173, y174, y175, y176, y177, y178, y179, y180, y181, y182, y183, y184, y185, y186, y187, y188, y189, y190, y191, y192, y193, y194, y195, y196, y197, y198, y199, y200, y201, y202, y203, y204, y205, y206, y207, y208, y209, y210, y211, y212, y213, y214, y215, y216, y217, y218, y219, y220, y221, y222, y223, y224, y225, y226, y227, y228, y229, y230, y231, y232, y233, y234, y235, y236, y237, y238, y239, y240, y241, y242, y243, y244, y245, y246, y247, y248, y249, y250, y251, y252, y253, y254, y255, trivial⟩ (by intro v hv; obtain ⟨z, -, rfl⟩ := List.mem_map.mp hv; rfl)
  have bs : BS s aD aT aI aU := ⟨SD, ST, SaI, SaU, ED, F1, F2, VT, EaI, hIU⟩
  have hE := own_EW hw
  have hCH : CHv s EL s.vm s.heap := CHv.start hE hcalls.1 (hsets _ (List.mem_of_getElem? (i := 2) rfl)) (w27 hw) (w10 hw)
  obtain ⟨n, o, h1, h2, h3, _, L, rfl, ⟨rfl, -, N⟩, -, hq⟩ := own_law l hw hE i0 i1 i2 i3 hS bs tables_1 p e ha hc hk s m _ below hf ((Spec.applies_iff_loose hf).mp happ).1 ⟨rfl, State.Warmed39.refl s, rfl, hCH⟩ trivial
  refine ⟨n, _, h1, h2, h3, hpost _ _ _ _ _ _ ⟨Cond.after_iff.mpr rfl, Cond.after_iff.mpr (eq_i res_at (Term.int_eval (1)) rfl), trivial⟩ ⟨hq.1, hq.2.1, hq.2.2.1, (hq.2.2.2.sift fun y hy => Or.inr (N y hy)).mono (by decide) (by decide)⟩⟩
theorem main_1_1 : Claimed_1_1 := comes_1 fun _ _ _ _ _ _ h hF => ⟨h.1, hF⟩
theorem main_1_2 : Claimed_1_2 := comes_1 fun _ _ _ _ _ _ h hF => ⟨h.2.1, hF⟩
end Jvm.Pilot.@@N@@
namespace Jvm.Pilot.@@N@@
open Jvm Jvm.ClassFile Sem Op Lib Jvm.Free Jvm.Stand Jvm.Pilot.@@N@@.Jvm.D
/-! MADE BY PROGRAM (witnessworld.py) out of the Statement's table words and the real class files: 29 classes; the members and pool entries that the words name. The judged class is class 1, her method 1. -/
namespace start1
open Jvm.ClassFile
def u (s : String) : CpInfo := .utf8 (stringToUtf16 s)
/-- a pool by its gaps: so many unusable entries, then the entry; so many at the end -/
def gap : Nat → List CpInfo → List CpInfo
  | 0, r => r
  | n + 1, r => .unusable :: gap n r
def poolList (es : List (Nat × CpInfo)) (last : Nat) : List CpInfo := es.foldr (fun e r => gap e.1 (e.2 :: r)) (gap last [])
def pool (es : List (Nat × CpInfo)) (last : Nat) : Array CpInfo := ⟨poolList es last⟩
def fileOf (pool : Array CpInfo) (this : Nat) (attrs : Array Attribute := #[]) (ms : Array MethodInfo := #[]) (fl : Nat := 33) (sup : Nat := 0) (ifs : Array Nat := #[]) (fds : Array FieldInfo := #[]) : ClassFile where
  minorVersion := 0
  majorVersion := 65
  constantPool := pool
  accessFlags := fl
  thisClass := this
  superClass := sup
  interfaces := ifs
  fields := fds
  methods := ms
  attributes := attrs
def plain (name : String) (sup : Option ClassId) : Class where
  name := name
  kind := .ordinary
  loader := none
  accessFlags := 33
  super := sup
  interfaces := #[]
  cf := none
  fields := #[]
  methods := #[]
  instanceTypes := #[]
  staticTypes := #[]
  resolved := #[]
  callSites := []
  init := .initialized
  statics := none
  mirror := none

def pool0 : Array CpInfo := pool [(5, u "<init>"), (0, u "()V"), (1, .class_ 10), (1, u "java/lang/Object"), (85, u "clone"), (0, u "()Ljava/lang/Object;")] 26

def k0c0 : Code := { maxStack := 0, maxLocals := 1, code := object_method_1_code, exceptionTable := #[], attributes := #[] }
def k0m0 : Method := { name := "<init>", desc := "()V", sig := { parameters := [], returnType := none }, accessFlags := 1, code := some k0c0 }
def k0m1 : Method := { name := "clone", desc := "()Ljava/lang/Object;", sig := { parameters := [], returnType := some (.object "java/lang/Object") }, accessFlags := 260, code := none }
/-- java/lang/Object -/
def k0 : Class := { plain "java/lang/Object" none with
  accessFlags := 33
  interfaces := #[]
  cf := some (fileOf pool0 8 #[] #[{ accessFlags := 1, nameIndex := 5, descriptorIndex := 6, attributes := #[] }, { accessFlags := 260, nameIndex := 96, descriptorIndex := 97, attributes := #[] }] 33 0 #[] #[])
  fields := #[]
  methods := #[k0m0, k0m1]
  instanceTypes := #[]
  staticTypes := #[]
  resolved := Array.replicate 124 none
  statics := none }

def pool1 : Array CpInfo := pool [(2, .class_ 4), (1, u "java/lang/Object"), (0, u "<init>"), (0, u "()V"), (0, .integer 2147483647), (0, .long 281474976710655), (1, .methodref 11 12), (0, .class_ 13), (0, .nameAndType 14 15), (0, u "com/example/scopegate/scopegate/token/Base64UrlDecodePinLaw"), (0, u "at"), (0, u "(IIIJJ)C"), (0, .class_ 17), (0, u "java/lang/String"), (0, .methodref 16 19), (0, .nameAndType 5 20), (0, u "([C)V"), (0, .methodref 22 23), (0, .class_ 24), (0, .nameAndType 25 26), (0, u "com/example/scopegate/scopegate/token/Base64Url"), (0, u "decode"), (0, u "(Ljava/lang/String;II)[B"), (0, .methodref 11 28), (0, .nameAndType 29 30), (0, u "ok"), (0, u "([BIIJ)Z"), (0, .long 63), (1, .methodref 11 34), (0, .nameAndType 35 36), (0, u "alpha"), (0, u "(I)C"), (0, .long 255), (3, u "law"), (0, u "(JJII)Z")] 9

def k1m0 : Method := { name := "<init>", desc := "()V", sig := { parameters := [], returnType := none }, accessFlags := 2, code := none }
def k1c1 : Code := { maxStack := 9, maxLocals := 17, code := code, exceptionTable := #[], attributes := #[] }
def k1m1 : Method := { name := "law", desc := "(JJII)Z", sig := { parameters := [.long, .long, .int, .int], returnType := some .boolean }, accessFlags := 9, code := some k1c1 }
def k1c2 : Code := { maxStack := 6, maxLocals := 7, code := method_3_code, exceptionTable := #[], attributes := #[] }
def k1m2 : Method := { name := "at", desc := "(IIIJJ)C", sig := { parameters := [.int, .int, .int, .long, .long], returnType := some .char }, accessFlags := 10, code := some k1c2 }
def k1c3 : Code := { maxStack := 3, maxLocals := 1, code := method_4_code, exceptionTable := #[], attributes := #[] }
def k1m3 : Method := { name := "alpha", desc := "(I)C", sig := { parameters := [.int], returnType := some .char }, accessFlags := 10, code := some k1c3 }
def k1c4 : Code := { maxStack := 6, maxLocals := 5, code := method_5_code, exceptionTable := #[], attributes := #[] }
def k1m4 : Method := { name := "ok", desc := "([BIIJ)Z", sig := { parameters := [(.array .byte), .int, .int, .long], returnType := some .boolean }, accessFlags := 10, code := some k1c4 }
/-- com/example/scopegate/scopegate/token/Base64UrlDecodePinLaw -/
def k1 : Class := { plain "com/example/scopegate/scopegate/token/Base64UrlDecodePinLaw" (some 0) with
  accessFlags := 49
  interfaces := #[]
  cf := some (fileOf pool1 11 #[] #[{ accessFlags := 2, nameIndex := 5, descriptorIndex := 6, attributes := #[] }, { accessFlags := 9, nameIndex := 41, descriptorIndex := 42, attributes := #[] }, { accessFlags := 10, nameIndex := 14, descriptorIndex := 15, attributes := #[] }, { accessFlags := 10, nameIndex := 35, descriptorIndex := 36, attributes := #[] }, { accessFlags := 10, nameIndex := 29, descriptorIndex := 30, attributes := #[] }] 49 2 #[] #[])
  fields := #[]
  methods := #[k1m0, k1m1, k1m2, k1m3, k1m4]
  instanceTypes := #[]
  staticTypes := #[]
  resolved := Array.replicate 52 none
  statics := none }

def pool2 : Array CpInfo := pool [(1, .class_ 2), (0, u "java/io/Serializable"), (0, .class_ 4), (0, u "java/lang/Object")] 2

/-- java/io/Serializable -/
def k2 : Class := { plain "java/io/Serializable" (some 0) with
  accessFlags := 1537
  interfaces := #[]
  cf := some (fileOf pool2 1 #[] #[] 1537 3 #[] #[])
  fields := #[]
  methods := #[]
  instanceTypes := #[]
  staticTypes := #[]
  resolved := Array.replicate 7 none
  statics := none }

def pool3 : Array CpInfo := pool [(1, .class_ 2), (0, u "java/lang/Comparable"), (0, .class_ 4), (0, u "java/lang/Object")] 7

/-- java/lang/Comparable -/
def k3 : Class := { plain "java/lang/Comparable" (some 0) with
  accessFlags := 1537
  interfaces := #[]
  cf := some (fileOf pool3 1 #[] #[] 1537 3 #[] #[])
  fields := #[]
  methods := #[]
  instanceTypes := #[]
  staticTypes := #[]
  resolved := Array.replicate 12 none
  statics := none }

def pool4 : Array CpInfo := pool [(2, .class_ 4), (1, u "java/lang/CharSequence"), (42, .class_ 48), (0, u "java/lang/CharSequence$1CodePointIterator"), (10, .class_ 60), (0, u "java/lang/CharSequence$1CharIterator"), (5, .class_ 67), (0, u "java/lang/Object")] 63

/-- java/lang/CharSequence -/
def k4 : Class := { plain "java/lang/CharSequence" (some 0) with
  accessFlags := 1537
  interfaces := #[]
  cf := some (fileOf pool4 2 #[.nestMembers #[47, 59]] #[] 1537 66 #[] #[])
  fields := #[]
  methods := #[]
  instanceTypes := #[]
  staticTypes := #[]
  resolved := Array.replicate 131 none
  statics := none }

def pool5 : Array CpInfo := pool [(1, .class_ 2), (0, u "java/lang/constant/Constable"), (0, .class_ 4), (0, u "java/lang/Object")] 6

/-- java/lang/constant/Constable -/
def k5 : Class := { plain "java/lang/constant/Constable" (some 0) with
  accessFlags := 1537
  interfaces := #[]
  cf := some (fileOf pool5 1 #[] #[] 1537 3 #[] #[])
  fields := #[]
  methods := #[]
  instanceTypes := #[]
  staticTypes := #[]
  resolved := Array.replicate 11 none
  statics := none }

def pool6 : Array CpInfo := pool [(1, .class_ 2), (0, u "java/lang/constant/ConstantDesc"), (0, .class_ 4), (0, u "java/lang/Object")] 32

/-- java/lang/constant/ConstantDesc -/
def k6 : Class := { plain "java/lang/constant/ConstantDesc" (some 0) with
  accessFlags := 1537
  interfaces := #[]
  cf := some (fileOf pool6 1 #[] #[] 1537 3 #[] #[])
  fields := #[]
  methods := #[]
  instanceTypes := #[]
  staticTypes := #[]
  resolved := Array.replicate 37 none
  statics := none }

def pool7 : Array CpInfo := pool [(1, .methodref 2 3), (0, .class_ 4), (0, .nameAndType 5 6), (0, u "java/lang/Object"), (0, u "<init>"), (0, u "()V"), (2, .fieldref 10 11), (0, .class_ 12), (0, .nameAndType 13 14), (0, u "java/lang/String"), (0, u "value"), (0, u "[B"), (0, .fieldref 10 16), (0, .nameAndType 17 18), (0, u "coder"), (0, u "B"), (2, u "hash"), (0, u "I"), (2, u "hashIsZero"), (0, u "Z"), (0, .methodref 10 28), (0, .nameAndType 5 29), (0, u "([CIILjava/lang/Void;)V"), (8, .fieldref 10 39), (0, .nameAndType 40 26), (0, u "COMPACT_STRINGS"), (1, .class_ 44), (1, u "java/lang/StringUTF16"), (0, u "compress"), (1, .methodref 42 48), (0, .nameAndType 49 50), (0, u "coderFromArrayLen"), (0, u "([BI)B"), (35, .fieldref 87 88), (0, .class_ 89), (0, .nameAndType 90 91), (0, u "sun/nio/cs/UTF_8"), (0, u "INSTANCE"), (0, u "Lsun/nio/cs/UTF_8;"), (15, .class_ 109), (1, u "java/lang/StringLatin1"), (6, .fieldref 117 118), (0, .class_ 119), (0, .nameAndType 90 120), (0, u "sun/nio/cs/ISO_8859_1"), (0, u "Lsun/nio/cs/ISO_8859_1;"), (21, u "()Z"), (34, .methodref 42 178), (0, .nameAndType 45 179), (0, u "([CII)[B"), (31, u "([BB)V"), (43, u "(B[BZ)[B"), (0, .methodref 10 257), (0, .nameAndType 258 259), (0, u "encode8859_1"), (0, u "(B[B)[B"), (19, .methodref 280 281), (0, .class_ 14), (0, .nameAndType 282 283), (0, u "clone"), (0, u "()Ljava/lang/Object;"), (33, u "encode"), (16, u "()I"), (0, .methodref 10 336), (0, .nameAndType 17 337), (0, u "()B"), (13, .methodref 10 352), (0, .nameAndType 258 255), (139, .methodref 10 493), (0, .nameAndType 494 142), (0, u "isLatin1"), (10, .methodref 10 506), (0, .nameAndType 507 334), (0, u "length"), (5, u "checkFromToIndex"), (7, .methodref 10 522), (0, .nameAndType 523 524), (0, u "checkBoundsBeginEnd"), (0, u "(III)V"), (7, u "getBytes"), (2, .methodref 10 536), (0, .nameAndType 317 537), (0, u "(Ljava/nio/charset/Charset;B[B)[B"), (37, .class_ 576), (0, u "java/lang/CharSequence"), (22, u "CASE_INSENSITIVE_ORDER"), (0, u "Ljava/util/Comparator;"), (82, u "substring"), (0, u "(II)Ljava/lang/String;"), (0, .methodref 107 686), (0, .nameAndType 687 688), (0, u "newString"), (0, u "([BII)Ljava/lang/String;"), (321, u "([C)V"), (42, .fieldref 1054 1055), (0, .class_ 1056), (0, .nameAndType 1057 1058), (0, u "jdk/internal/util/Preconditions"), (0, u "SIOOBE_FORMATTER"), (0, u "Ljava/util/function/BiFunction;"), (3, .methodref 1054 1063), (0, .nameAndType 513 1064), (0, u "(IIILjava/util/function/BiFunction;)I"), (36, u "serialPersistentFields"), (0, u "[Ljava/io/ObjectStreamField;"), (0, .class_ 1104), (0, u "java/lang/String$CaseInsensitiveComparator"), (1, .class_ 1107), (0, u "java/io/Serializable"), (0, .class_ 1109), (0, u "java/lang/Comparable"), (0, .class_ 1111), (0, u "java/lang/constant/Constable"), (0, .class_ 1113), (0, u "java/lang/constant/ConstantDesc"), (2, u "serialVersionUID"), (0, u "J"), (3, u "REPL"), (0, u "C"), (2, u "LATIN1"), (1, u "UTF16"), (117, u "(Ljava/nio/charset/Charset;)[B")] 205

def k7m0 : Method := { name := "<init>", desc := "()V", sig := { parameters := [], returnType := none }, accessFlags := 1, code := none }
def k7c1 : Code := { maxStack := 5, maxLocals := 2, code := jdk_42_method_3_code, exceptionTable := #[], attributes := #[] }
def k7m1 : Method := { name := "<init>", desc := "([C)V", sig := { parameters := [(.array .char)], returnType := none }, accessFlags := 1, code := some k7c1 }
def k7c2 : Code := { maxStack := 4, maxLocals := 3, code := jdk_42_method_18_code, exceptionTable := #[], attributes := #[] }
def k7m2 : Method := { name := "encode", desc := "(Ljava/nio/charset/Charset;B[B)[B", sig := { parameters := [(.object "java/nio/charset/Charset"), .byte, (.array .byte)], returnType := some (.array .byte) }, accessFlags := 10, code := some k7c2 }
def k7c3 : Code := { maxStack := 3, maxLocals := 2, code := jdk_42_method_26_code, exceptionTable := #[], attributes := #[] }
def k7m3 : Method := { name := "encode8859_1", desc := "(B[B)[B", sig := { parameters := [.byte, (.array .byte)], returnType := some (.array .byte) }, accessFlags := 10, code := some k7c3 }
def k7c4 : Code := { maxStack := 5, maxLocals := 10, code := jdk_42_method_27_code, exceptionTable := #[], attributes := #[] }
def k7m4 : Method := { name := "encode8859_1", desc := "(B[BZ)[B", sig := { parameters := [.byte, (.array .byte), .boolean], returnType := some (.array .byte) }, accessFlags := 10, code := some k7c4 }
def k7c5 : Code := { maxStack := 2, maxLocals := 1, code := jdk_42_method_54_code, exceptionTable := #[], attributes := #[] }
def k7m5 : Method := { name := "length", desc := "()I", sig := { parameters := [], returnType := some .int }, accessFlags := 1, code := some k7c5 }
def k7c6 : Code := { maxStack := 3, maxLocals := 2, code := jdk_42_method_64_code, exceptionTable := #[], attributes := #[] }
def k7m6 : Method := { name := "getBytes", desc := "(Ljava/nio/charset/Charset;)[B", sig := { parameters := [(.object "java/nio/charset/Charset")], returnType := some (.array .byte) }, accessFlags := 1, code := some k7c6 }
def k7c7 : Code := { maxStack := 3, maxLocals := 5, code := jdk_42_method_92_code, exceptionTable := #[], attributes := #[] }
def k7m7 : Method := { name := "substring", desc := "(II)Ljava/lang/String;", sig := { parameters := [.int, .int], returnType := some (.object "java/lang/String") }, accessFlags := 1, code := some k7c7 }
def k7c8 : Code := { maxStack := 4, maxLocals := 6, code := jdk_42_method_149_code, exceptionTable := #[], attributes := #[] }
def k7m8 : Method := { name := "<init>", desc := "([CIILjava/lang/Void;)V", sig := { parameters := [(.array .char), .int, .int, (.object "java/lang/Void")], returnType := none }, accessFlags := 2, code := some k7c8 }
def k7c9 : Code := { maxStack := 2, maxLocals := 3, code := jdk_42_method_151_code, exceptionTable := #[], attributes := #[] }
def k7m9 : Method := { name := "<init>", desc := "([BB)V", sig := { parameters := [(.array .byte), .byte], returnType := none }, accessFlags := 0, code := some k7c9 }
def k7c10 : Code := { maxStack := 1, maxLocals := 1, code := jdk_42_method_152_code, exceptionTable := #[], attributes := #[] }
def k7m10 : Method := { name := "coder", desc := "()B", sig := { parameters := [], returnType := some .byte }, accessFlags := 0, code := some k7c10 }
def k7c11 : Code := { maxStack := 1, maxLocals := 1, code := jdk_42_method_154_code, exceptionTable := #[], attributes := #[] }
def k7m11 : Method := { name := "isLatin1", desc := "()Z", sig := { parameters := [], returnType := some .boolean }, accessFlags := 0, code := some k7c11 }
def k7c12 : Code := { maxStack := 4, maxLocals := 3, code := jdk_42_method_158_code, exceptionTable := #[], attributes := #[] }
def k7m12 : Method := { name := "checkBoundsBeginEnd", desc := "(III)V", sig := { parameters := [.int, .int, .int], returnType := none }, accessFlags := 8, code := some k7c12 }
/-- java/lang/String -/
def k7 : Class := { plain "java/lang/String" (some 0) with
  accessFlags := 49
  interfaces := #[2, 3, 4, 5, 6]
  cf := some (fileOf pool7 10 #[.nestMembers #[1103]] #[{ accessFlags := 1, nameIndex := 5, descriptorIndex := 6, attributes := #[] }, { accessFlags := 1, nameIndex := 5, descriptorIndex := 1010, attributes := #[] }, { accessFlags := 10, nameIndex := 317, descriptorIndex := 537, attributes := #[] }, { accessFlags := 10, nameIndex := 258, descriptorIndex := 259, attributes := #[] }, { accessFlags := 10, nameIndex := 258, descriptorIndex := 255, attributes := #[] }, { accessFlags := 1, nameIndex := 507, descriptorIndex := 334, attributes := #[] }, { accessFlags := 1, nameIndex := 532, descriptorIndex := 1245, attributes := #[] }, { accessFlags := 1, nameIndex := 683, descriptorIndex := 684, attributes := #[] }, { accessFlags := 2, nameIndex := 5, descriptorIndex := 29, attributes := #[] }, { accessFlags := 0, nameIndex := 5, descriptorIndex := 211, attributes := #[] }, { accessFlags := 0, nameIndex := 17, descriptorIndex := 337, attributes := #[] }, { accessFlags := 0, nameIndex := 494, descriptorIndex := 142, attributes := #[] }, { accessFlags := 8, nameIndex := 523, descriptorIndex := 524, attributes := #[] }] 49 2 #[1106, 1108, 575, 1110, 1112] #[{ accessFlags := 18, nameIndex := 13, descriptorIndex := 14, attributes := #[] }, { accessFlags := 18, nameIndex := 17, descriptorIndex := 18, attributes := #[] }, { accessFlags := 2, nameIndex := 21, descriptorIndex := 22, attributes := #[] }, { accessFlags := 2, nameIndex := 25, descriptorIndex := 26, attributes := #[] }, { accessFlags := 26, nameIndex := 1116, descriptorIndex := 1117, attributes := #[] }, { accessFlags := 24, nameIndex := 40, descriptorIndex := 26, attributes := #[] }, { accessFlags := 26, nameIndex := 1101, descriptorIndex := 1102, attributes := #[] }, { accessFlags := 26, nameIndex := 1121, descriptorIndex := 1122, attributes := #[] }, { accessFlags := 25, nameIndex := 599, descriptorIndex := 600, attributes := #[] }, { accessFlags := 24, nameIndex := 1125, descriptorIndex := 18, attributes := #[] }, { accessFlags := 24, nameIndex := 1127, descriptorIndex := 18, attributes := #[] }])
  fields := #[{ name := "value", type := (.array .byte), accessFlags := 18, slot := 0, constantValue := 0 }, { name := "coder", type := .byte, accessFlags := 18, slot := 1, constantValue := 0 }, { name := "hash", type := .int, accessFlags := 2, slot := 2, constantValue := 0 }, { name := "hashIsZero", type := .boolean, accessFlags := 2, slot := 3, constantValue := 0 }, { name := "serialVersionUID", type := .long, accessFlags := 26, slot := 0, constantValue := 0 }, { name := "COMPACT_STRINGS", type := .boolean, accessFlags := 24, slot := 1, constantValue := 0 }, { name := "serialPersistentFields", type := (.array (.object "java/io/ObjectStreamField")), accessFlags := 26, slot := 2, constantValue := 0 }, { name := "REPL", type := .char, accessFlags := 26, slot := 3, constantValue := 0 }, { name := "CASE_INSENSITIVE_ORDER", type := (.object "java/util/Comparator"), accessFlags := 25, slot := 4, constantValue := 0 }, { name := "LATIN1", type := .byte, accessFlags := 24, slot := 5, constantValue := 0 }, { name := "UTF16", type := .byte, accessFlags := 24, slot := 6, constantValue := 0 }]
  methods := #[k7m0, k7m1, k7m2, k7m3, k7m4, k7m5, k7m6, k7m7, k7m8, k7m9, k7m10, k7m11, k7m12]
  instanceTypes := #[(.array .byte), .byte, .int, .boolean]
  staticTypes := #[.long, .boolean, (.array (.object "java/io/ObjectStreamField")), .char, (.object "java/util/Comparator"), .byte, .byte]
  resolved := Array.replicate 1451 none
  statics := some 0 }

def pool8 : Array CpInfo := pool [(6, .class_ 8), (1, u "java/lang/Object"), (0, u "<init>"), (0, u "()V"), (1, .class_ 14), (1, u "java/lang/StringUTF16"), (31, u "$assertionsDisabled"), (0, u "Z"), (13, u "HI_BYTE_SHIFT"), (0, u "I"), (2, u "LO_BYTE_SHIFT"), (49, .methodref 12 116), (0, .nameAndType 117 118), (0, u "compress"), (0, u "([CI[BII)I"), (3, u "([CII)[B"), (138, u "coderFromArrayLen"), (0, u "([BI)B"), (106, .class_ 371), (1, u "java/lang/StringUTF16$LinesSpliterator"), (58, u "MAX_LENGTH"), (196, .class_ 628), (0, u "java/lang/StringUTF16$CodePointsSpliterator"), (0, .class_ 630), (0, u "java/lang/StringUTF16$CharsSpliterator")] 4

def k8m0 : Method := { name := "<init>", desc := "()V", sig := { parameters := [], returnType := none }, accessFlags := 0, code := none }
def k8c1 : Code := { maxStack := 2, maxLocals := 2, code := jdk_52_method_15_code, exceptionTable := #[], attributes := #[] }
def k8m1 : Method := { name := "coderFromArrayLen", desc := "([BI)B", sig := { parameters := [(.array .byte), .int], returnType := some .byte }, accessFlags := 8, code := some k8c1 }
def k8c2 : Code := { maxStack := 5, maxLocals := 6, code := jdk_52_method_16_code, exceptionTable := #[], attributes := #[] }
def k8m2 : Method := { name := "compress", desc := "([CII)[B", sig := { parameters := [(.array .char), .int, .int], returnType := some (.array .byte) }, accessFlags := 9, code := some k8c2 }
def k8c3 : Code := { maxStack := 3, maxLocals := 7, code := jdk_52_method_21_code, exceptionTable := #[], attributes := #[] }
def k8m3 : Method := { name := "compress", desc := "([CI[BII)I", sig := { parameters := [(.array .char), .int, (.array .byte), .int, .int], returnType := some .int }, accessFlags := 9, code := some k8c3 }
/-- java/lang/StringUTF16 -/
def k8 : Class := { plain "java/lang/StringUTF16" (some 0) with
  accessFlags := 48
  interfaces := #[]
  cf := some (fileOf pool8 12 #[.nestMembers #[627, 629, 369]] #[{ accessFlags := 0, nameIndex := 9, descriptorIndex := 10, attributes := #[] }, { accessFlags := 8, nameIndex := 261, descriptorIndex := 262, attributes := #[] }, { accessFlags := 9, nameIndex := 117, descriptorIndex := 122, attributes := #[] }, { accessFlags := 9, nameIndex := 117, descriptorIndex := 118, attributes := #[] }] 48 6 #[] #[{ accessFlags := 26, nameIndex := 61, descriptorIndex := 62, attributes := #[] }, { accessFlags := 26, nameIndex := 65, descriptorIndex := 62, attributes := #[] }, { accessFlags := 24, nameIndex := 430, descriptorIndex := 62, attributes := #[] }, { accessFlags := 4120, nameIndex := 46, descriptorIndex := 47, attributes := #[] }])
  fields := #[{ name := "HI_BYTE_SHIFT", type := .int, accessFlags := 26, slot := 0, constantValue := 0 }, { name := "LO_BYTE_SHIFT", type := .int, accessFlags := 26, slot := 1, constantValue := 0 }, { name := "MAX_LENGTH", type := .int, accessFlags := 24, slot := 2, constantValue := 0 }, { name := "$assertionsDisabled", type := .boolean, accessFlags := 4120, slot := 3, constantValue := 0 }]
  methods := #[k8m0, k8m1, k8m2, k8m3]
  instanceTypes := #[]
  staticTypes := #[.int, .int, .int, .boolean]
  resolved := Array.replicate 635 none
  statics := none }

def pool9 : Array CpInfo := pool [(2, .class_ 4), (1, u "java/lang/Object"), (0, u "<init>"), (0, u "()V"), (1, .class_ 10), (1, u "java/lang/String"), (3, .class_ 16), (1, u "com/example/scopegate/scopegate/token/Base64Url"), (10, .fieldref 14 28), (0, .nameAndType 29 30), (0, u "DECODER"), (0, u "Ljava/util/Base64$Decoder;"), (0, .methodref 8 32), (0, .nameAndType 33 34), (0, u "substring"), (0, u "(II)Ljava/lang/String;"), (0, .methodref 36 37), (0, .class_ 38), (0, .nameAndType 39 40), (0, u "java/util/Base64$Decoder"), (0, u "decode"), (0, u "(Ljava/lang/String;)[B"), (2, u "VALUES"), (0, u "[B"), (14, u "ALPHABET"), (0, u "Ljava/lang/String;"), (5, u "(Ljava/lang/String;II)[B")] 5

def k9m0 : Method := { name := "<init>", desc := "()V", sig := { parameters := [], returnType := none }, accessFlags := 2, code := none }
def k9c1 : Code := { maxStack := 4, maxLocals := 3, code := prog_15_method_4_code, exceptionTable := #[], attributes := #[] }
def k9m1 : Method := { name := "decode", desc := "(Ljava/lang/String;II)[B", sig := { parameters := [(.object "java/lang/String"), .int, .int], returnType := some (.array .byte) }, accessFlags := 8, code := some k9c1 }
/-- com/example/scopegate/scopegate/token/Base64Url -/
def k9 : Class := { plain "com/example/scopegate/scopegate/token/Base64Url" (some 0) with
  accessFlags := 48
  interfaces := #[]
  cf := some (fileOf pool9 14 #[] #[{ accessFlags := 2, nameIndex := 5, descriptorIndex := 6, attributes := #[] }, { accessFlags := 8, nameIndex := 39, descriptorIndex := 66, attributes := #[] }] 48 2 #[] #[{ accessFlags := 26, nameIndex := 29, descriptorIndex := 30, attributes := #[] }, { accessFlags := 26, nameIndex := 59, descriptorIndex := 60, attributes := #[] }, { accessFlags := 26, nameIndex := 43, descriptorIndex := 44, attributes := #[] }])
  fields := #[{ name := "DECODER", type := (.object "java/util/Base64$Decoder"), accessFlags := 26, slot := 0, constantValue := 0 }, { name := "ALPHABET", type := (.object "java/lang/String"), accessFlags := 26, slot := 1, constantValue := 0 }, { name := "VALUES", type := (.array .byte), accessFlags := 26, slot := 2, constantValue := 0 }]
  methods := #[k9m0, k9m1]
  instanceTypes := #[]
  staticTypes := #[(.object "java/util/Base64$Decoder"), (.object "java/lang/String"), (.array .byte)]
  resolved := Array.replicate 72 none
  statics := some 1 }

def pool10 : Array CpInfo := pool [(2, .class_ 4), (1, u "java/lang/Object"), (0, u "<init>"), (0, u "()V"), (17, .class_ 26), (1, u "jdk/internal/util/Preconditions"), (20, u "checkFromToIndex"), (7, .class_ 56), (0, u "jdk/internal/util/Preconditions$4"), (57, .class_ 115), (0, u "jdk/internal/util/Preconditions$1"), (7, u "SIOOBE_FORMATTER"), (0, u "Ljava/util/function/BiFunction;"), (0, .class_ 126), (0, u "jdk/internal/util/Preconditions$2"), (3, u "AIOOBE_FORMATTER"), (0, .class_ 132), (0, u "jdk/internal/util/Preconditions$3"), (3, u "IOOBE_FORMATTER"), (46, u "(IIILjava/util/function/BiFunction;)I")] 10

def k10m0 : Method := { name := "<init>", desc := "()V", sig := { parameters := [], returnType := none }, accessFlags := 1, code := none }
def k10c1 : Code := { maxStack := 4, maxLocals := 4, code := jdk_41_method_12_code, exceptionTable := #[], attributes := #[] }
def k10m1 : Method := { name := "checkFromToIndex", desc := "(IIILjava/util/function/BiFunction;)I", sig := { parameters := [.int, .int, .int, (.object "java/util/function/BiFunction")], returnType := some .int }, accessFlags := 9, code := some k10c1 }
/-- jdk/internal/util/Preconditions -/
def k10 : Class := { plain "jdk/internal/util/Preconditions" (some 0) with
  accessFlags := 33
  interfaces := #[]
  cf := some (fileOf pool10 24 #[.nestMembers #[55, 131, 125, 114]] #[{ accessFlags := 1, nameIndex := 5, descriptorIndex := 6, attributes := #[] }, { accessFlags := 9, nameIndex := 47, descriptorIndex := 183, attributes := #[] }] 33 2 #[] #[{ accessFlags := 25, nameIndex := 123, descriptorIndex := 124, attributes := #[] }, { accessFlags := 25, nameIndex := 130, descriptorIndex := 124, attributes := #[] }, { accessFlags := 25, nameIndex := 136, descriptorIndex := 124, attributes := #[] }])
  fields := #[{ name := "SIOOBE_FORMATTER", type := (.object "java/util/function/BiFunction"), accessFlags := 25, slot := 0, constantValue := 0 }, { name := "AIOOBE_FORMATTER", type := (.object "java/util/function/BiFunction"), accessFlags := 25, slot := 1, constantValue := 0 }, { name := "IOOBE_FORMATTER", type := (.object "java/util/function/BiFunction"), accessFlags := 25, slot := 2, constantValue := 0 }]
  methods := #[k10m0, k10m1]
  instanceTypes := #[]
  staticTypes := #[(.object "java/util/function/BiFunction"), (.object "java/util/function/BiFunction"), (.object "java/util/function/BiFunction")]
  resolved := Array.replicate 194 none
  statics := some 2 }

def pool11 : Array CpInfo := pool [(1, .class_ 2), (0, u "java/lang/String"), (1, .class_ 6), (1, u "java/lang/Object"), (0, u "<init>"), (0, u "()V"), (5, .class_ 16), (1, u "java/lang/StringLatin1"), (95, .methodref 1 113), (0, .nameAndType 7 114), (0, u "([BB)V"), (6, u "$assertionsDisabled"), (0, u "Z"), (8, .class_ 133), (1, u "java/util/Arrays"), (17, .string 152), (0, u ""), (43, u "newString"), (0, u "([BII)Ljava/lang/String;"), (23, .class_ 223), (1, u "java/lang/StringLatin1$LinesSpliterator"), (8, .methodref 131 233), (0, .nameAndType 234 235), (0, u "copyOfRange"), (0, u "([BII)[B"), (154, .class_ 391), (0, u "java/lang/StringLatin1$CharsSpliterator")] 3

def k11m0 : Method := { name := "<init>", desc := "()V", sig := { parameters := [], returnType := none }, accessFlags := 0, code := none }
def k11c1 : Code := { maxStack := 6, maxLocals := 3, code := jdk_43_method_47_code, exceptionTable := #[], attributes := #[] }
def k11m1 : Method := { name := "newString", desc := "([BII)Ljava/lang/String;", sig := { parameters := [(.array .byte), .int, .int], returnType := some (.object "java/lang/String") }, accessFlags := 9, code := some k11c1 }
/-- java/lang/StringLatin1 -/
def k11 : Class := { plain "java/lang/StringLatin1" (some 0) with
  accessFlags := 48
  interfaces := #[]
  cf := some (fileOf pool11 14 #[.nestMembers #[390, 221]] #[{ accessFlags := 0, nameIndex := 7, descriptorIndex := 8, attributes := #[] }, { accessFlags := 9, nameIndex := 196, descriptorIndex := 197, attributes := #[] }] 48 4 #[] #[{ accessFlags := 4120, nameIndex := 121, descriptorIndex := 122, attributes := #[] }])
  fields := #[{ name := "$assertionsDisabled", type := .boolean, accessFlags := 4120, slot := 0, constantValue := 0 }]
  methods := #[k11m0, k11m1]
  instanceTypes := #[]
  staticTypes := #[.boolean]
  resolved := Array.replicate 395 none
  statics := none }

def pool12 : Array CpInfo := pool [(2, .class_ 4), (1, u "java/lang/Object"), (2, .fieldref 8 9), (0, .class_ 10), (0, .nameAndType 11 12), (0, u "java/util/Base64$Decoder"), (0, u "isURL"), (0, u "Z"), (0, .fieldref 8 14), (0, .nameAndType 15 12), (0, u "isMIME"), (0, .methodref 8 17), (0, .nameAndType 18 19), (0, u "decodedOutLength"), (0, u "([BII)I"), (0, .methodref 8 21), (0, .nameAndType 22 23), (0, u "decode0"), (0, u "([BII[B)I"), (6, .fieldref 31 32), (0, .class_ 33), (0, .nameAndType 34 35), (0, u "sun/nio/cs/ISO_8859_1"), (0, u "INSTANCE"), (0, u "Lsun/nio/cs/ISO_8859_1;"), (0, .methodref 37 38), (0, .class_ 39), (0, .nameAndType 40 41), (0, u "java/lang/String"), (0, u "getBytes"), (0, u "(Ljava/nio/charset/Charset;)[B"), (0, .methodref 8 43), (0, .nameAndType 44 45), (0, u "decode"), (0, u "([B)[B"), (49, .fieldref 8 96), (0, .nameAndType 97 98), (0, u "fromBase64URL"), (0, u "[I"), (2, u "fromBase64"), (5, .long 3), (1, .long 4), (1, .methodref 8 112), (0, .nameAndType 113 114), (0, u "decodeBlock"), (0, u "([BII[BIZZ)I"), (45, u "RFC4648"), (0, u "Ljava/util/Base64$Decoder;"), (2, u "RFC4648_URLSAFE"), (2, u "RFC2045"), (11, u "(Ljava/lang/String;)[B"), (40, .class_ 221), (0, u "java/util/Base64")] 4

def k12c0 : Code := { maxStack := 5, maxLocals := 4, code := jdk_2450_method_2_code, exceptionTable := #[], attributes := #[] }
def k12m0 : Method := { name := "decode", desc := "([B)[B", sig := { parameters := [(.array .byte)], returnType := some (.array .byte) }, accessFlags := 1, code := some k12c0 }
def k12c1 : Code := { maxStack := 3, maxLocals := 2, code := jdk_2450_method_3_code, exceptionTable := #[], attributes := #[] }
def k12m1 : Method := { name := "decode", desc := "(Ljava/lang/String;)[B", sig := { parameters := [(.object "java/lang/String")], returnType := some (.array .byte) }, accessFlags := 1, code := some k12c1 }
def k12c2 : Code := { maxStack := 5, maxLocals := 9, code := jdk_2450_method_7_code, exceptionTable := #[], attributes := #[] }
def k12m2 : Method := { name := "decodedOutLength", desc := "([BII)I", sig := { parameters := [(.array .byte), .int, .int], returnType := some .int }, accessFlags := 2, code := some k12c2 }
def k12c3 : Code := { maxStack := 4, maxLocals := 16, code := jdk_2450_method_8_code, exceptionTable := #[], attributes := #[] }
def k12m3 : Method := { name := "decodeBlock", desc := "([BII[BIZZ)I", sig := { parameters := [(.array .byte), .int, .int, (.array .byte), .int, .boolean, .boolean], returnType := some .int }, accessFlags := 2, code := some k12c3 }
def k12c4 : Code := { maxStack := 8, maxLocals := 11, code := jdk_2450_method_9_code, exceptionTable := #[], attributes := #[] }
def k12m4 : Method := { name := "decode0", desc := "([BII[B)I", sig := { parameters := [(.array .byte), .int, .int, (.array .byte)], returnType := some .int }, accessFlags := 2, code := some k12c4 }
/-- java/util/Base64$Decoder -/
def k12 : Class := { plain "java/util/Base64$Decoder" (some 0) with
  accessFlags := 33
  interfaces := #[]
  cf := some (fileOf pool12 8 #[.nestHost 220] #[{ accessFlags := 1, nameIndex := 44, descriptorIndex := 45, attributes := #[] }, { accessFlags := 1, nameIndex := 44, descriptorIndex := 179, attributes := #[] }, { accessFlags := 2, nameIndex := 18, descriptorIndex := 19, attributes := #[] }, { accessFlags := 2, nameIndex := 113, descriptorIndex := 114, attributes := #[] }, { accessFlags := 2, nameIndex := 22, descriptorIndex := 23, attributes := #[] }] 33 2 #[] #[{ accessFlags := 18, nameIndex := 11, descriptorIndex := 12, attributes := #[] }, { accessFlags := 18, nameIndex := 15, descriptorIndex := 12, attributes := #[] }, { accessFlags := 26, nameIndex := 101, descriptorIndex := 98, attributes := #[] }, { accessFlags := 26, nameIndex := 97, descriptorIndex := 98, attributes := #[] }, { accessFlags := 24, nameIndex := 160, descriptorIndex := 161, attributes := #[] }, { accessFlags := 24, nameIndex := 164, descriptorIndex := 161, attributes := #[] }, { accessFlags := 24, nameIndex := 167, descriptorIndex := 161, attributes := #[] }])
  fields := #[{ name := "isURL", type := .boolean, accessFlags := 18, slot := 0, constantValue := 0 }, { name := "isMIME", type := .boolean, accessFlags := 18, slot := 1, constantValue := 0 }, { name := "fromBase64", type := (.array .int), accessFlags := 26, slot := 0, constantValue := 0 }, { name := "fromBase64URL", type := (.array .int), accessFlags := 26, slot := 1, constantValue := 0 }, { name := "RFC4648", type := (.object "java/util/Base64$Decoder"), accessFlags := 24, slot := 2, constantValue := 0 }, { name := "RFC4648_URLSAFE", type := (.object "java/util/Base64$Decoder"), accessFlags := 24, slot := 3, constantValue := 0 }, { name := "RFC2045", type := (.object "java/util/Base64$Decoder"), accessFlags := 24, slot := 4, constantValue := 0 }]
  methods := #[k12m0, k12m1, k12m2, k12m3, k12m4]
  instanceTypes := #[.boolean, .boolean]
  staticTypes := #[(.array .int), (.array .int), (.object "java/util/Base64$Decoder"), (.object "java/util/Base64$Decoder"), (.object "java/util/Base64$Decoder")]
  resolved := Array.replicate 226 none
  statics := some 3 }

def pool13 : Array CpInfo := pool [(18, .class_ 20), (1, u "java/nio/charset/Charset"), (0, u "cache1"), (0, u "[Ljava/lang/Object;"), (2, u "cache2"), (0, .class_ 27), (0, u "java/lang/Object"), (0, .class_ 29), (0, u "java/nio/charset/Charset$1"), (4, .class_ 36), (1, u "java/nio/charset/Charset$ThreadTrackHolder"), (21, .class_ 59), (0, u "java/nio/charset/Charset$2"), (11, .class_ 73), (1, u "java/nio/charset/Charset$ExtendedProviderHolder"), (22, u "standardProvider"), (0, u "Ljava/nio/charset/spi/CharsetProvider;"), (29, u "name"), (7, .class_ 136), (0, u "java/nio/charset/Charset$3"), (5, u "defaultCharset"), (0, u "Ljava/nio/charset/Charset;"), (14, u "zeroAliases"), (0, u "[Ljava/lang/String;"), (29, u "Ljava/lang/String;"), (2, u "aliases"), (2, u "aliasSet"), (0, u "Ljava/util/Set;"), (82, .class_ 280), (0, u "java/lang/Comparable"), (84, .class_ 366), (0, u "java/nio/charset/Charset$ExtendedProviderHolder$1")] 3

/-- java/nio/charset/Charset -/
def k13 : Class := { plain "java/nio/charset/Charset" (some 0) with
  accessFlags := 1057
  interfaces := #[3]
  cf := some (fileOf pool13 18 #[.nestMembers #[71, 365, 34, 135, 58, 28]] #[] 1057 26 #[279] #[{ accessFlags := 26, nameIndex := 96, descriptorIndex := 97, attributes := #[] }, { accessFlags := 26, nameIndex := 158, descriptorIndex := 159, attributes := #[] }, { accessFlags := 74, nameIndex := 21, descriptorIndex := 22, attributes := #[] }, { accessFlags := 74, nameIndex := 25, descriptorIndex := 22, attributes := #[] }, { accessFlags := 10, nameIndex := 142, descriptorIndex := 143, attributes := #[] }, { accessFlags := 18, nameIndex := 127, descriptorIndex := 189, attributes := #[] }, { accessFlags := 18, nameIndex := 192, descriptorIndex := 159, attributes := #[] }, { accessFlags := 2, nameIndex := 195, descriptorIndex := 196, attributes := #[] }])
  fields := #[{ name := "standardProvider", type := (.object "java/nio/charset/spi/CharsetProvider"), accessFlags := 26, slot := 0, constantValue := 0 }, { name := "zeroAliases", type := (.array (.object "java/lang/String")), accessFlags := 26, slot := 1, constantValue := 0 }, { name := "cache1", type := (.array (.object "java/lang/Object")), accessFlags := 74, slot := 2, constantValue := 0 }, { name := "cache2", type := (.array (.object "java/lang/Object")), accessFlags := 74, slot := 3, constantValue := 0 }, { name := "defaultCharset", type := (.object "java/nio/charset/Charset"), accessFlags := 10, slot := 4, constantValue := 0 }, { name := "name", type := (.object "java/lang/String"), accessFlags := 18, slot := 0, constantValue := 0 }, { name := "aliases", type := (.array (.object "java/lang/String")), accessFlags := 18, slot := 1, constantValue := 0 }, { name := "aliasSet", type := (.object "java/util/Set"), accessFlags := 2, slot := 2, constantValue := 0 }]
  methods := #[]
  instanceTypes := #[(.object "java/lang/String"), (.array (.object "java/lang/String")), (.object "java/util/Set")]
  staticTypes := #[(.object "java/nio/charset/spi/CharsetProvider"), (.array (.object "java/lang/String")), (.array (.object "java/lang/Object")), (.array (.object "java/lang/Object")), (.object "java/nio/charset/Charset")]
  resolved := Array.replicate 370 none
  statics := none }

def pool14 : Array CpInfo := pool [(1, .class_ 2), (0, u "sun/nio/cs/HistoricallyNamedCharset"), (0, .class_ 4), (0, u "java/lang/Object")] 4

/-- sun/nio/cs/HistoricallyNamedCharset -/
def k14 : Class := { plain "sun/nio/cs/HistoricallyNamedCharset" (some 0) with
  accessFlags := 1537
  interfaces := #[]
  cf := some (fileOf pool14 1 #[] #[] 1537 3 #[] #[])
  fields := #[]
  methods := #[]
  instanceTypes := #[]
  staticTypes := #[]
  resolved := Array.replicate 9 none
  statics := none }

def pool15 : Array CpInfo := pool [(10, .class_ 12), (1, u "java/nio/charset/Charset"), (0, u "<init>"), (5, .class_ 20), (0, u "sun/nio/cs/ISO_8859_1"), (0, .class_ 22), (0, u "sun/nio/cs/ISO_8859_1$Decoder"), (3, .class_ 27), (0, u "sun/nio/cs/ISO_8859_1$Encoder"), (3, u "()V"), (2, u "INSTANCE"), (0, u "Lsun/nio/cs/ISO_8859_1;"), (0, .class_ 37), (0, u "sun/nio/cs/HistoricallyNamedCharset")] 22

def k15m0 : Method := { name := "<init>", desc := "()V", sig := { parameters := [], returnType := none }, accessFlags := 1, code := none }
/-- sun/nio/cs/ISO_8859_1 -/
def k15 : Class := { plain "sun/nio/cs/ISO_8859_1" (some 13) with
  accessFlags := 33
  interfaces := #[14]
  cf := some (fileOf pool15 19 #[.nestMembers #[26, 21]] #[{ accessFlags := 1, nameIndex := 13, descriptorIndex := 31, attributes := #[] }] 33 10 #[36] #[{ accessFlags := 25, nameIndex := 34, descriptorIndex := 35, attributes := #[] }])
  fields := #[{ name := "INSTANCE", type := (.object "sun/nio/cs/ISO_8859_1"), accessFlags := 25, slot := 0, constantValue := 0 }]
  methods := #[k15m0]
  instanceTypes := #[(.object "java/lang/String"), (.array (.object "java/lang/String")), (.object "java/util/Set")]
  staticTypes := #[(.object "sun/nio/cs/ISO_8859_1")]
  resolved := Array.replicate 60 none
  statics := some 4 }

def pool16 : Array CpInfo := pool [(2, .class_ 4), (1, u "java/nio/charset/Charset"), (130, .class_ 136), (0, u "sun/nio/cs/Unicode"), (0, .class_ 138), (0, u "sun/nio/cs/HistoricallyNamedCharset")] 15

/-- sun/nio/cs/Unicode -/
def k16 : Class := { plain "sun/nio/cs/Unicode" (some 13) with
  accessFlags := 1056
  interfaces := #[14]
  cf := some (fileOf pool16 135 #[] #[] 1056 2 #[137] #[])
  fields := #[]
  methods := #[]
  instanceTypes := #[(.object "java/lang/String"), (.array (.object "java/lang/String")), (.object "java/util/Set")]
  staticTypes := #[]
  resolved := Array.replicate 154 none
  statics := none }

def pool17 : Array CpInfo := pool [(10, .class_ 12), (1, u "sun/nio/cs/Unicode"), (0, u "<init>"), (3, .class_ 18), (0, u "sun/nio/cs/UTF_8$Decoder"), (3, .class_ 23), (0, u "sun/nio/cs/UTF_8$Encoder"), (15, .class_ 40), (0, u "sun/nio/cs/UTF_8"), (2, u "()V"), (2, u "INSTANCE"), (0, u "Lsun/nio/cs/UTF_8;"), (8, u "JLA"), (0, u "Ljdk/internal/access/JavaLangAccess;")] 26

def k17m0 : Method := { name := "<init>", desc := "()V", sig := { parameters := [], returnType := none }, accessFlags := 1, code := none }
/-- sun/nio/cs/UTF_8 -/
def k17 : Class := { plain "sun/nio/cs/UTF_8" (some 16) with
  accessFlags := 49
  interfaces := #[]
  cf := some (fileOf pool17 39 #[.nestMembers #[22, 17]] #[{ accessFlags := 1, nameIndex := 13, descriptorIndex := 43, attributes := #[] }] 49 10 #[] #[{ accessFlags := 25, nameIndex := 46, descriptorIndex := 47, attributes := #[] }, { accessFlags := 26, nameIndex := 56, descriptorIndex := 57, attributes := #[] }])
  fields := #[{ name := "INSTANCE", type := (.object "sun/nio/cs/UTF_8"), accessFlags := 25, slot := 0, constantValue := 0 }, { name := "JLA", type := (.object "jdk/internal/access/JavaLangAccess"), accessFlags := 26, slot := 1, constantValue := 0 }]
  methods := #[k17m0]
  instanceTypes := #[(.object "java/lang/String"), (.array (.object "java/lang/String")), (.object "java/util/Set")]
  staticTypes := #[(.object "sun/nio/cs/UTF_8"), (.object "jdk/internal/access/JavaLangAccess")]
  resolved := Array.replicate 84 none
  statics := some 5 }

def pool18 : Array CpInfo := pool [(1, .class_ 2), (0, u "java/lang/Cloneable"), (0, .class_ 4), (0, u "java/lang/Object")] 2

/-- java/lang/Cloneable -/
def k18 : Class := { plain "java/lang/Cloneable" (some 0) with
  accessFlags := 1537
  interfaces := #[]
  cf := some (fileOf pool18 1 #[] #[] 1537 3 #[] #[])
  fields := #[]
  methods := #[]
  instanceTypes := #[]
  staticTypes := #[]
  resolved := Array.replicate 7 none
  statics := none }

def pool19 : Array CpInfo := pool [(2, .class_ 4), (1, u "java/lang/Object"), (0, u "<init>"), (0, u "()V"), (7, .class_ 16), (1, u "java/util/Arrays"), (57, .class_ 76), (1, u "java/util/Arrays$NaturalOrder"), (36, .class_ 115), (1, u "java/util/Arrays$LegacyMergeSort"), (1, u "Z"), (21, u "copyOfRange"), (10, .methodref 151 152), (0, .class_ 153), (0, .nameAndType 154 155), (0, u "java/lang/System"), (0, u "arraycopy"), (0, u "(Ljava/lang/Object;ILjava/lang/Object;II)V"), (148, .methodref 305 306), (0, .class_ 307), (0, .nameAndType 308 309), (0, u "java/lang/Math"), (0, u "min"), (0, u "(II)I"), (29, .methodref 14 340), (0, .nameAndType 341 342), (0, u "copyOfRangeByte"), (0, u "([BII)[B"), (0, .methodref 14 344), (0, .nameAndType 345 346), (0, u "checkLength"), (0, u "(II)V"), (28, .class_ 376), (0, u "java/util/Arrays$ArrayList"), (68, u "$assertionsDisabled"), (269, u "MIN_ARRAY_SORT_GRAN"), (0, u "I"), (2, u "INSERTIONSORT_THRESHOLD"), (255, .class_ 976), (0, u "java/util/Arrays$ArrayItr")] 52

def k19m0 : Method := { name := "<init>", desc := "()V", sig := { parameters := [], returnType := none }, accessFlags := 2, code := none }
def k19c1 : Code := { maxStack := 4, maxLocals := 2, code := jdk_65_method_131_code, exceptionTable := #[], attributes := #[] }
def k19m1 : Method := { name := "checkLength", desc := "(II)V", sig := { parameters := [.int, .int], returnType := none }, accessFlags := 10, code := some k19c1 }
def k19c2 : Code := { maxStack := 3, maxLocals := 3, code := jdk_65_method_132_code, exceptionTable := #[], attributes := #[] }
def k19m2 : Method := { name := "copyOfRange", desc := "([BII)[B", sig := { parameters := [(.array .byte), .int, .int], returnType := some (.array .byte) }, accessFlags := 9, code := some k19c2 }
def k19c3 : Code := { maxStack := 6, maxLocals := 5, code := jdk_65_method_133_code, exceptionTable := #[], attributes := #[] }
def k19m3 : Method := { name := "copyOfRangeByte", desc := "([BII)[B", sig := { parameters := [(.array .byte), .int, .int], returnType := some (.array .byte) }, accessFlags := 10, code := some k19c3 }
/-- java/util/Arrays -/
def k19 : Class := { plain "java/util/Arrays" (some 0) with
  accessFlags := 49
  interfaces := #[]
  cf := some (fileOf pool19 14 #[.nestMembers #[975, 375, 113, 74]] #[{ accessFlags := 2, nameIndex := 5, descriptorIndex := 6, attributes := #[] }, { accessFlags := 10, nameIndex := 345, descriptorIndex := 346, attributes := #[] }, { accessFlags := 9, nameIndex := 139, descriptorIndex := 342, attributes := #[] }, { accessFlags := 10, nameIndex := 341, descriptorIndex := 342, attributes := #[] }] 49 2 #[] #[{ accessFlags := 26, nameIndex := 715, descriptorIndex := 716, attributes := #[] }, { accessFlags := 26, nameIndex := 719, descriptorIndex := 716, attributes := #[] }, { accessFlags := 4120, nameIndex := 445, descriptorIndex := 117, attributes := #[] }])
  fields := #[{ name := "MIN_ARRAY_SORT_GRAN", type := .int, accessFlags := 26, slot := 0, constantValue := 0 }, { name := "INSERTIONSORT_THRESHOLD", type := .int, accessFlags := 26, slot := 1, constantValue := 0 }, { name := "$assertionsDisabled", type := .boolean, accessFlags := 4120, slot := 2, constantValue := 0 }]
  methods := #[k19m0, k19m1, k19m2, k19m3]
  instanceTypes := #[]
  staticTypes := #[.int, .int, .boolean]
  resolved := Array.replicate 1029 none
  statics := none }

def pool20 : Array CpInfo := pool [(1, .class_ 2), (0, u "java/lang/Math"), (1, .class_ 6), (1, u "java/lang/Object"), (0, u "<init>"), (0, u "()V"), (89, .class_ 100), (1, u "java/lang/Math$RandomNumberGeneratorHolder"), (71, u "negativeZeroFloatBits"), (0, u "J"), (2, u "negativeZeroDoubleBits"), (24, u "min"), (43, u "$assertionsDisabled"), (0, u "Z"), (88, u "(II)I"), (2, u "twoToTheDoubleScaleDown"), (0, u "D"), (4, u "twoToTheDoubleScaleUp"), (9, u "E"), (3, u "PI"), (2, u "TAU"), (2, u "DEGREES_TO_RADIANS"), (0, u "RADIANS_TO_DEGREES")] 94

def k20m0 : Method := { name := "<init>", desc := "()V", sig := { parameters := [], returnType := none }, accessFlags := 2, code := none }
def k20c1 : Code := { maxStack := 2, maxLocals := 2, code := jdk_29_method_69_code, exceptionTable := #[], attributes := #[] }
def k20m1 : Method := { name := "min", desc := "(II)I", sig := { parameters := [.int, .int], returnType := some .int }, accessFlags := 9, code := some k20c1 }
/-- java/lang/Math -/
def k20 : Class := { plain "java/lang/Math" (some 0) with
  accessFlags := 49
  interfaces := #[]
  cf := some (fileOf pool20 1 #[.nestMembers #[98]] #[{ accessFlags := 2, nameIndex := 7, descriptorIndex := 8, attributes := #[] }, { accessFlags := 9, nameIndex := 201, descriptorIndex := 335, attributes := #[] }] 49 4 #[] #[{ accessFlags := 25, nameIndex := 354, descriptorIndex := 339, attributes := #[] }, { accessFlags := 25, nameIndex := 358, descriptorIndex := 339, attributes := #[] }, { accessFlags := 25, nameIndex := 361, descriptorIndex := 339, attributes := #[] }, { accessFlags := 26, nameIndex := 364, descriptorIndex := 339, attributes := #[] }, { accessFlags := 26, nameIndex := 365, descriptorIndex := 339, attributes := #[] }, { accessFlags := 26, nameIndex := 172, descriptorIndex := 173, attributes := #[] }, { accessFlags := 26, nameIndex := 176, descriptorIndex := 173, attributes := #[] }, { accessFlags := 8, nameIndex := 344, descriptorIndex := 339, attributes := #[] }, { accessFlags := 8, nameIndex := 338, descriptorIndex := 339, attributes := #[] }, { accessFlags := 4120, nameIndex := 245, descriptorIndex := 246, attributes := #[] }])
  fields := #[{ name := "E", type := .double, accessFlags := 25, slot := 0, constantValue := 0 }, { name := "PI", type := .double, accessFlags := 25, slot := 1, constantValue := 0 }, { name := "TAU", type := .double, accessFlags := 25, slot := 2, constantValue := 0 }, { name := "DEGREES_TO_RADIANS", type := .double, accessFlags := 26, slot := 3, constantValue := 0 }, { name := "RADIANS_TO_DEGREES", type := .double, accessFlags := 26, slot := 4, constantValue := 0 }, { name := "negativeZeroFloatBits", type := .long, accessFlags := 26, slot := 5, constantValue := 0 }, { name := "negativeZeroDoubleBits", type := .long, accessFlags := 26, slot := 6, constantValue := 0 }, { name := "twoToTheDoubleScaleUp", type := .double, accessFlags := 8, slot := 7, constantValue := 0 }, { name := "twoToTheDoubleScaleDown", type := .double, accessFlags := 8, slot := 8, constantValue := 0 }, { name := "$assertionsDisabled", type := .boolean, accessFlags := 4120, slot := 9, constantValue := 0 }]
  methods := #[k20m0, k20m1]
  instanceTypes := #[]
  staticTypes := #[.double, .double, .double, .double, .double, .long, .long, .double, .double, .boolean]
  resolved := Array.replicate 460 none
  statics := none }

def pool21 : Array CpInfo := pool [(2, .class_ 4), (1, u "java/lang/Object"), (0, u "<init>"), (0, u "()V"), (1, .class_ 10), (1, u "java/lang/System"), (0, u "allowSecurityManager"), (0, u "I"), (16, u "cons"), (0, u "Ljava/io/Console;"), (77, .class_ 110), (1, u "java/lang/System$CallersHolder"), (43, u "initialErrStream"), (0, u "Ljava/io/PrintStream;"), (19, u "security"), (0, u "Ljava/lang/SecurityManager;"), (31, .class_ 209), (0, u "java/lang/System$1"), (7, u "props"), (0, u "Ljava/util/Properties;"), (2, u "lineSeparator"), (0, u "Ljava/lang/String;"), (96, .class_ 321), (1, u "java/lang/System$LoggerFinder"), (5, .class_ 328), (0, u "java/lang/System$Logger"), (67, u "err"), (2, u "out"), (91, u "notSupportedJnuEncoding"), (15, u "in"), (17, u "initialIn"), (0, u "Ljava/io/InputStream;"), (35, u "bootLayer"), (0, u "Ljava/lang/ModuleLayer;"), (99, .class_ 664), (0, u "java/lang/System$2"), (9, u "NEVER"), (2, u "MAYBE"), (49, u "arraycopy"), (0, u "(Ljava/lang/Object;ILjava/lang/Object;II)V"), (72, .class_ 802), (0, u "java/lang/System$Logger$Level")] 31

def k21m0 : Method := { name := "<init>", desc := "()V", sig := { parameters := [], returnType := none }, accessFlags := 2, code := none }
def k21m1 : Method := { name := "arraycopy", desc := "(Ljava/lang/Object;ILjava/lang/Object;II)V", sig := { parameters := [(.object "java/lang/Object"), .int, (.object "java/lang/Object"), .int, .int], returnType := none }, accessFlags := 265, code := none }
/-- java/lang/System -/
def k21 : Class := { plain "java/lang/System" (some 0) with
  accessFlags := 49
  interfaces := #[]
  cf := some (fileOf pool21 8 #[.nestMembers #[319, 327, 801, 108, 663, 208]] #[{ accessFlags := 2, nameIndex := 5, descriptorIndex := 6, attributes := #[] }, { accessFlags := 265, nameIndex := 727, descriptorIndex := 728, attributes := #[] }] 49 2 #[] #[{ accessFlags := 25, nameIndex := 507, descriptorIndex := 526, attributes := #[] }, { accessFlags := 25, nameIndex := 399, descriptorIndex := 155, attributes := #[] }, { accessFlags := 25, nameIndex := 396, descriptorIndex := 155, attributes := #[] }, { accessFlags := 10, nameIndex := 525, descriptorIndex := 526, attributes := #[] }, { accessFlags := 26, nameIndex := 674, descriptorIndex := 12, attributes := #[] }, { accessFlags := 26, nameIndex := 677, descriptorIndex := 12, attributes := #[] }, { accessFlags := 10, nameIndex := 11, descriptorIndex := 12, attributes := #[] }, { accessFlags := 74, nameIndex := 175, descriptorIndex := 176, attributes := #[] }, { accessFlags := 10, nameIndex := 491, descriptorIndex := 222, attributes := #[] }, { accessFlags := 74, nameIndex := 29, descriptorIndex := 30, attributes := #[] }, { accessFlags := 74, nameIndex := 154, descriptorIndex := 155, attributes := #[] }, { accessFlags := 10, nameIndex := 217, descriptorIndex := 218, attributes := #[] }, { accessFlags := 10, nameIndex := 221, descriptorIndex := 222, attributes := #[] }, { accessFlags := 8, nameIndex := 562, descriptorIndex := 563, attributes := #[] }])
  fields := #[{ name := "in", type := (.object "java/io/InputStream"), accessFlags := 25, slot := 0, constantValue := 0 }, { name := "out", type := (.object "java/io/PrintStream"), accessFlags := 25, slot := 1, constantValue := 0 }, { name := "err", type := (.object "java/io/PrintStream"), accessFlags := 25, slot := 2, constantValue := 0 }, { name := "initialIn", type := (.object "java/io/InputStream"), accessFlags := 10, slot := 3, constantValue := 0 }, { name := "NEVER", type := .int, accessFlags := 26, slot := 4, constantValue := 0 }, { name := "MAYBE", type := .int, accessFlags := 26, slot := 5, constantValue := 0 }, { name := "allowSecurityManager", type := .int, accessFlags := 10, slot := 6, constantValue := 0 }, { name := "security", type := (.object "java/lang/SecurityManager"), accessFlags := 74, slot := 7, constantValue := 0 }, { name := "notSupportedJnuEncoding", type := (.object "java/lang/String"), accessFlags := 10, slot := 8, constantValue := 0 }, { name := "cons", type := (.object "java/io/Console"), accessFlags := 74, slot := 9, constantValue := 0 }, { name := "initialErrStream", type := (.object "java/io/PrintStream"), accessFlags := 74, slot := 10, constantValue := 0 }, { name := "props", type := (.object "java/util/Properties"), accessFlags := 10, slot := 11, constantValue := 0 }, { name := "lineSeparator", type := (.object "java/lang/String"), accessFlags := 10, slot := 12, constantValue := 0 }, { name := "bootLayer", type := (.object "java/lang/ModuleLayer"), accessFlags := 8, slot := 13, constantValue := 0 }]
  methods := #[k21m0, k21m1]
  instanceTypes := #[]
  staticTypes := #[(.object "java/io/InputStream"), (.object "java/io/PrintStream"), (.object "java/io/PrintStream"), (.object "java/io/InputStream"), .int, .int, .int, (.object "java/lang/SecurityManager"), (.object "java/lang/String"), (.object "java/io/Console"), (.object "java/io/PrintStream"), (.object "java/util/Properties"), (.object "java/lang/String"), (.object "java/lang/ModuleLayer")]
  resolved := Array.replicate 834 none
  statics := none }

def pool22 : Array CpInfo := pool [(9, u "<init>"), (6, .class_ 18), (1, u "java/lang/Object"), (0, u "()V"), (1, .class_ 23), (1, u "jdk/internal/util/ArraysSupport"), (0, u "LOG2_ARRAY_LONG_INDEX_SCALE"), (0, u "I"), (2, u "U"), (0, u "Ljdk/internal/misc/Unsafe;"), (8, u "BIG_ENDIAN"), (0, u "Z"), (8, u "LOG2_BYTE_BIT_SIZE"), (4, u "LOG2_ARRAY_INT_INDEX_SCALE"), (54, u "JLA"), (0, u "Ljdk/internal/access/JavaLangAccess;"), (11, u "LOG2_ARRAY_BOOLEAN_INDEX_SCALE"), (9, u "LOG2_ARRAY_BYTE_INDEX_SCALE"), (5, u "LOG2_ARRAY_CHAR_INDEX_SCALE"), (5, u "LOG2_ARRAY_SHORT_INDEX_SCALE"), (18, u "LOG2_ARRAY_FLOAT_INDEX_SCALE"), (24, u "LOG2_ARRAY_DOUBLE_INDEX_SCALE"), (89, u "T_BOOLEAN"), (2, u "T_CHAR"), (1, u "T_FLOAT"), (1, u "T_DOUBLE"), (1, u "T_BYTE"), (1, u "T_SHORT"), (1, u "T_INT"), (1, u "T_LONG"), (1, u "SOFT_MAX_ARRAY_LENGTH")] 83

def k22m0 : Method := { name := "<init>", desc := "()V", sig := { parameters := [], returnType := none }, accessFlags := 2, code := none }
/-- jdk/internal/util/ArraysSupport -/
def k22 : Class := { plain "jdk/internal/util/ArraysSupport" (some 0) with
  accessFlags := 33
  interfaces := #[]
  cf := some (fileOf pool22 21 #[] #[{ accessFlags := 2, nameIndex := 9, descriptorIndex := 19, attributes := #[] }] 33 16 #[] #[{ accessFlags := 24, nameIndex := 28, descriptorIndex := 29, attributes := #[] }, { accessFlags := 26, nameIndex := 38, descriptorIndex := 39, attributes := #[] }, { accessFlags := 25, nameIndex := 121, descriptorIndex := 25, attributes := #[] }, { accessFlags := 25, nameIndex := 131, descriptorIndex := 25, attributes := #[] }, { accessFlags := 25, nameIndex := 137, descriptorIndex := 25, attributes := #[] }, { accessFlags := 25, nameIndex := 143, descriptorIndex := 25, attributes := #[] }, { accessFlags := 25, nameIndex := 53, descriptorIndex := 25, attributes := #[] }, { accessFlags := 25, nameIndex := 24, descriptorIndex := 25, attributes := #[] }, { accessFlags := 25, nameIndex := 162, descriptorIndex := 25, attributes := #[] }, { accessFlags := 25, nameIndex := 187, descriptorIndex := 25, attributes := #[] }, { accessFlags := 26, nameIndex := 48, descriptorIndex := 25, attributes := #[] }, { accessFlags := 25, nameIndex := 277, descriptorIndex := 25, attributes := #[] }, { accessFlags := 25, nameIndex := 280, descriptorIndex := 25, attributes := #[] }, { accessFlags := 25, nameIndex := 282, descriptorIndex := 25, attributes := #[] }, { accessFlags := 25, nameIndex := 284, descriptorIndex := 25, attributes := #[] }, { accessFlags := 25, nameIndex := 286, descriptorIndex := 25, attributes := #[] }, { accessFlags := 25, nameIndex := 288, descriptorIndex := 25, attributes := #[] }, { accessFlags := 25, nameIndex := 290, descriptorIndex := 25, attributes := #[] }, { accessFlags := 25, nameIndex := 292, descriptorIndex := 25, attributes := #[] }, { accessFlags := 26, nameIndex := 108, descriptorIndex := 109, attributes := #[] }, { accessFlags := 25, nameIndex := 294, descriptorIndex := 25, attributes := #[] }])
  fields := #[{ name := "U", type := (.object "jdk/internal/misc/Unsafe"), accessFlags := 24, slot := 0, constantValue := 0 }, { name := "BIG_ENDIAN", type := .boolean, accessFlags := 26, slot := 1, constantValue := 0 }, { name := "LOG2_ARRAY_BOOLEAN_INDEX_SCALE", type := .int, accessFlags := 25, slot := 2, constantValue := 0 }, { name := "LOG2_ARRAY_BYTE_INDEX_SCALE", type := .int, accessFlags := 25, slot := 3, constantValue := 0 }, { name := "LOG2_ARRAY_CHAR_INDEX_SCALE", type := .int, accessFlags := 25, slot := 4, constantValue := 0 }, { name := "LOG2_ARRAY_SHORT_INDEX_SCALE", type := .int, accessFlags := 25, slot := 5, constantValue := 0 }, { name := "LOG2_ARRAY_INT_INDEX_SCALE", type := .int, accessFlags := 25, slot := 6, constantValue := 0 }, { name := "LOG2_ARRAY_LONG_INDEX_SCALE", type := .int, accessFlags := 25, slot := 7, constantValue := 0 }, { name := "LOG2_ARRAY_FLOAT_INDEX_SCALE", type := .int, accessFlags := 25, slot := 8, constantValue := 0 }, { name := "LOG2_ARRAY_DOUBLE_INDEX_SCALE", type := .int, accessFlags := 25, slot := 9, constantValue := 0 }, { name := "LOG2_BYTE_BIT_SIZE", type := .int, accessFlags := 26, slot := 10, constantValue := 0 }, { name := "T_BOOLEAN", type := .int, accessFlags := 25, slot := 11, constantValue := 0 }, { name := "T_CHAR", type := .int, accessFlags := 25, slot := 12, constantValue := 0 }, { name := "T_FLOAT", type := .int, accessFlags := 25, slot := 13, constantValue := 0 }, { name := "T_DOUBLE", type := .int, accessFlags := 25, slot := 14, constantValue := 0 }, { name := "T_BYTE", type := .int, accessFlags := 25, slot := 15, constantValue := 0 }, { name := "T_SHORT", type := .int, accessFlags := 25, slot := 16, constantValue := 0 }, { name := "T_INT", type := .int, accessFlags := 25, slot := 17, constantValue := 0 }, { name := "T_LONG", type := .int, accessFlags := 25, slot := 18, constantValue := 0 }, { name := "JLA", type := (.object "jdk/internal/access/JavaLangAccess"), accessFlags := 26, slot := 19, constantValue := 0 }, { name := "SOFT_MAX_ARRAY_LENGTH", type := .int, accessFlags := 25, slot := 20, constantValue := 0 }]
  methods := #[k22m0]
  instanceTypes := #[]
  staticTypes := #[(.object "jdk/internal/misc/Unsafe"), .boolean, .int, .int, .int, .int, .int, .int, .int, .int, .int, .int, .int, .int, .int, .int, .int, .int, .int, (.object "jdk/internal/access/JavaLangAccess"), .int]
  resolved := Array.replicate 378 none
  statics := none }

/-- the primitive byte -/
def k23 : Class := { plain "byte" none with kind := .primitive 'B', accessFlags := 0x411 }
/-- [B -/
def k24 : Class := { plain "[B" (some 0) with kind := .array 23 .byte, interfaces := #[18, 2], accessFlags := 1041 }

/-- the primitive char -/
def k25 : Class := { plain "char" none with kind := .primitive 'C', accessFlags := 0x411 }
/-- [C -/
def k26 : Class := { plain "[C" (some 0) with kind := .array 25 .char, interfaces := #[18, 2], accessFlags := 1041 }

/-- the primitive int -/
def k27 : Class := { plain "int" none with kind := .primitive 'I', accessFlags := 0x411 }
/-- [I -/
def k28 : Class := { plain "[I" (some 0) with kind := .array 27 .int, interfaces := #[18, 2], accessFlags := 1041 }

def heap : Heap := #[{ cls := 7, slots := #[.long 0, .int 1, .null, .int 0, .null, .int 0, .int 0], vm := .statics 7 },
  { cls := 9, slots := #[.ref 6, .null, .null], vm := .statics 9 },
  { cls := 10, slots := #[.null, .null, .null], vm := .statics 10 },
  { cls := 12, slots := #[.null, .ref 9, .null, .null, .null], vm := .statics 12 },
  { cls := 15, slots := #[.ref 7], vm := .statics 15 },
  { cls := 17, slots := #[.ref 8, .null], vm := .statics 17 },
  { cls := 12, slots := #[.int 1, .int 0], vm := .none },
  { cls := 15, slots := #[.null, .null, .null], vm := .none },
  { cls := 17, slots := #[.null, .null, .null], vm := .none },
  { cls := 28, slots := #[.int (-1), .int (-1), .int (-1), .int (-1), .int (-1), .int (-1), .int (-1), .int (-1), .int (-1), .int (-1), .int (-1), .int (-1), .int (-1), .int (-1), .int (-1), .int (-1), .int (-1), .int (-1), .int (-1), .int (-1), .int (-1), .int (-1), .int (-1), .int (-1), .int (-1), .int (-1), .int (-1), .int (-1), .int (-1), .int (-1), .int (-1), .int (-1), .int (-1), .int (-1), .int (-1), .int (-1), .int (-1), .int (-1), .int (-1), .int (-1), .int (-1), .int (-1), .int (-1), .int (-1), .int (-1), .int 62, .int (-1), .int (-1), .int 52, .int 53, .int 54, .int 55, .int 56, .int 57, .int 58, .int 59, .int 60, .int 61, .int (-1), .int (-1), .int (-1), .int (-2), .int (-1), .int (-1), .int (-1), .int 0, .int 1, .int 2, .int 3, .int 4, .int 5, .int 6, .int 7, .int 8, .int 9, .int 10, .int 11, .int 12, .int 13, .int 14, .int 15, .int 16, .int 17, .int 18, .int 19, .int 20, .int 21, .int 22, .int 23, .int 24, .int 25, .int (-1), .int (-1), .int (-1), .int (-1), .int 63, .int (-1), .int 26, .int 27, .int 28, .int 29, .int 30, .int 31, .int 32, .int 33, .int 34, .int 35, .int 36, .int 37, .int 38, .int 39, .int 40, .int 41, .int 42, .int 43, .int 44, .int 45, .int 46, .int 47, .int 48, .int 49, .int 50, .int 51, .int (-1), .int (-1), .int (-1), .int (-1), .int (-1), .int (-1), .int (-1), .int (-1), .int (-1), .int (-1), .int (-1), .int (-1), .int (-1), .int (-1), .int (-1), .int (-1), .int (-1), .int (-1), .int (-1), .int (-1), .int (-1), .int (-1), .int (-1), .int (-1), .int (-1), .int (-1), .int (-1), .int (-1), .int (-1), .int (-1), .int (-1), .int (-1), .int (-1), .int (-1), .int (-1), .int (-1), .int (-1), .int (-1), .int (-1), .int (-1), .int (-1), .int (-1), .int (-1), .int (-1), .int (-1), .int (-1), .int (-1), .int (-1), .int (-1), .int (-1), .int (-1), .int (-1), .int (-1), .int (-1), .int (-1), .int (-1), .int (-1), .int (-1), .int (-1), .int (-1), .int (-1), .int (-1), .int (-1), .int (-1), .int (-1), .int (-1), .int (-1), .int (-1), .int (-1), .int (-1), .int (-1), .int (-1), .int (-1), .int (-1), .int (-1), .int (-1), .int (-1), .int (-1), .int (-1), .int (-1), .int (-1), .int (-1), .int (-1), .int (-1), .int (-1), .int (-1), .int (-1), .int (-1), .int (-1), .int (-1), .int (-1), .int (-1), .int (-1), .int (-1), .int (-1), .int (-1), .int (-1), .int (-1), .int (-1), .int (-1), .int (-1), .int (-1), .int (-1), .int (-1), .int (-1), .int (-1), .int (-1), .int (-1), .int (-1), .int (-1), .int (-1), .int (-1), .int (-1), .int (-1), .int (-1), .int (-1), .int (-1), .int (-1), .int (-1), .int (-1), .int (-1), .int (-1), .int (-1), .int (-1), .int (-1), .int (-1), .int (-1), .int (-1), .int (-1), .int (-1), .int (-1), .int (-1), .int (-1)], vm := .none },
  { cls := 22, slots := #[], vm := .none }]
def classes : Array Class := #[k0, k1, k2, k3, k4, k5, k6, k7, k8, k9, k10, k11, k12, k13, k14, k15, k16, k17, k18, k19, k20, k21, k22, k23, k24, k25, k26, k27, k28]
def interned : List (Array UInt16 × Addr) := []
def slotsUsed : Nat := 285
def theMethod : MethodId := ⟨1, 1⟩
def args0 : Array Value := #[.long 5, .long 7, .int 4, .int 1]
def aboutOver (below : List Frame) : State where
  vm := { classes := classes, interned := interned.toArray }
  heap := heap
  slotsUsed := slotsUsed
  threads := #[{ frames := .invoking theMethod args0 :: below }]
def below0 : List Frame := [.native { method := ⟨0, 0⟩, args := #[] }]
def about1 : State := aboutOver below0
def p0 : Program := .bare "" "" ""
def e0 : Env := launch0.env 0 0 0
theorem w_frames : about1.frames = Frame.invoking theMethod args0 :: below0 := rfl
set_option maxRecDepth 65536 in
theorem w_args : argsFit about1.vm theMethod args0 = true := by decide +kernel
set_option maxRecDepth 65536 in
theorem w_heap : heapFits about1 = true := by decide +kernel
set_option maxRecDepth 65536 in
theorem w_runnable : about1.curStatus? = some .runnable := by decide +kernel
set_option maxRecDepth 65536 in
theorem w_alone : about1.alone = true := by decide +kernel
set_option maxRecDepth 65536 in
theorem w_named : about1.methodNamed? x = some theMethod := by decide +kernel
set_option maxRecDepth 65536 in
theorem w_hears : about1.hears theMethod below0 = true := by decide +kernel
set_option maxRecDepth 65536 in
theorem w_ripe : about1.ripe theMethod args0 below0 = true := by decide +kernel
theorem w_running : about1.status = .running := rfl
set_option maxRecDepth 65536 in
theorem w_room : about1.hasRoom e0.platform room_1 = true :=
  launch0.hasRoom_least _ room_1 (by decide +kernel) (by decide +kernel) (by decide +kernel) (by decide +kernel) (by decide +kernel) (by decide +kernel)
theorem allAtoms_all (ts : List Jvm.Cond) (a : Array Jvm.Value) (st : Jvm.State) : (allAtoms ts).before a st = ts.all (fun c => c.before a st) := by
  induction ts with
  | nil => rfl
  | cons c t ih =>
    show (Jvm.Cond.and c (allAtoms t)).before a st = _
    rw [Jvm.Cond.before_and, ih, List.all_cons]
def words1 : List Jvm.Cond := Jvm.Cond.code x code maxLocals ret :: tables_1
/-- a 'code' word, met by the world's own term for the bytes: nothing is compared byte by byte -/
theorem code_word {y : MethodName} {bytes : ByteArray} {mx : Nat} {rt : Option FieldType} {a : Array Value} {s : State} {m : MethodId} {meth : Method} {c : Code} (h1 : s.methodNamed? y = some m) (h2 : s.vm.method? m = some meth) (h3 : meth.code = some c) (h4 : c.code = bytes)
    (h5 : (c.maxLocals == mx && c.exceptionTable.isEmpty && decide (c.maxStack ≤ mostOperands) && decide (meth.sig.returnType = rt) && !meth.locks && decide (parseMethodDescriptor y.desc = some meth.sig)) = true) : (Jvm.Cond.code y bytes mx rt).before a s = true := by
  simp only [Bool.and_eq_true, beq_iff_eq, Bool.not_eq_true', decide_eq_true_eq] at h5
  obtain ⟨⟨⟨⟨⟨g1, g2⟩, g3⟩, g4⟩, g5⟩, g6⟩ := h5
  simp [Cond.before, Cond.holds, Cond.value, h1, h2, h3, h4, g1, g2, g3, g4, g5, g6]
def isCode : Jvm.Cond → Bool
  | .code _ _ _ _ => true
  | _ => false
theorem all_split {L : List Jvm.Cond} {P : Jvm.Cond → Bool} (h1 : L.all (fun c => isCode c || P c) = true) (h2 : ∀ c ∈ L.filter isCode, P c = true) : L.all P = true := by
  refine List.all_eq_true.mpr fun c hc => ?_
  have h := List.all_eq_true.mp h1 c hc
  rcases Bool.eq_false_or_eq_true (isCode c) with hi | hi
  · exact h2 c (List.mem_filter.mpr ⟨hc, hi⟩)
  · simpa [hi] using h
set_option maxRecDepth 65536 in
theorem w_c0 : (Jvm.Cond.code x code maxLocals ret).before args0 about1 = true := code_word (m := ⟨1, 1⟩) (meth := k1m1) (c := k1c1) (by decide +kernel) rfl rfl rfl (by decide +kernel)
set_option maxRecDepth 65536 in
theorem w_c1 : (Jvm.Cond.code ({ cls := "com/example/scopegate/scopegate/token/Base64UrlDecodePinLaw", name := "at", desc := "(IIIJJ)C" } : Jvm.MethodName) method_3_code (7 : Nat) (Option.some Jvm.ClassFile.FieldType.char)).before args0 about1 = true := code_word (m := ⟨1, 2⟩) (meth := k1m2) (c := k1c2) (by decide +kernel) rfl rfl rfl (by decide +kernel)
set_option maxRecDepth 65536 in
theorem w_c2 : (Jvm.Cond.code ({ cls := "java/lang/String", name := "<init>", desc := "([C)V" } : Jvm.MethodName) jdk_42_method_3_code (2 : Nat) (Option.none : Option Jvm.ClassFile.FieldType)).before args0 about1 = true := code_word (m := ⟨7, 1⟩) (meth := k7m1) (c := k7c1) (by decide +kernel) rfl rfl rfl (by decide +kernel)
set_option maxRecDepth 65536 in
theorem w_c3 : (Jvm.Cond.code ({ cls := "java/lang/String", name := "<init>", desc := "([CIILjava/lang/Void;)V" } : Jvm.MethodName) jdk_42_method_149_code (6 : Nat) (Option.none : Option Jvm.ClassFile.FieldType)).before args0 about1 = true := code_word (m := ⟨7, 8⟩) (meth := k7m8) (c := k7c8) (by decide +kernel) rfl rfl rfl (by decide +kernel)
set_option maxRecDepth 65536 in
theorem w_c4 : (Jvm.Cond.code ({ cls := "java/lang/Object", name := "<init>", desc := "()V" } : Jvm.MethodName) object_method_1_code (1 : Nat) (Option.none : Option Jvm.ClassFile.FieldType)).before args0 about1 = true := code_word (m := ⟨0, 0⟩) (meth := k0m0) (c := k0c0) (by decide +kernel) rfl rfl rfl (by decide +kernel)
set_option maxRecDepth 65536 in
theorem w_c5 : (Jvm.Cond.code ({ cls := "java/lang/StringUTF16", name := "compress", desc := "([CII)[B" } : Jvm.MethodName) jdk_52_method_16_code (6 : Nat) (Option.some (Jvm.ClassFile.FieldType.array Jvm.ClassFile.FieldType.byte))).before args0 about1 = true := code_word (m := ⟨8, 2⟩) (meth := k8m2) (c := k8c2) (by decide +kernel) rfl rfl rfl (by decide +kernel)
set_option maxRecDepth 65536 in
theorem w_c6 : (Jvm.Cond.code ({ cls := "java/lang/StringUTF16", name := "compress", desc := "([CI[BII)I" } : Jvm.MethodName) jdk_52_method_21_code (7 : Nat) (Option.some Jvm.ClassFile.FieldType.int)).before args0 about1 = true := code_word (m := ⟨8, 3⟩) (meth := k8m3) (c := k8c3) (by decide +kernel) rfl rfl rfl (by decide +kernel)
set_option maxRecDepth 65536 in
theorem w_c7 : (Jvm.Cond.code ({ cls := "java/lang/StringUTF16", name := "coderFromArrayLen", desc := "([BI)B" } : Jvm.MethodName) jdk_52_method_15_code (2 : Nat) (Option.some Jvm.ClassFile.FieldType.byte)).before args0 about1 = true := code_word (m := ⟨8, 1⟩) (meth := k8m1) (c := k8c1) (by decide +kernel) rfl rfl rfl (by decide +kernel)
set_option maxRecDepth 65536 in
theorem w_c8 : (Jvm.Cond.code ({ cls := "com/example/scopegate/scopegate/token/Base64Url", name := "decode", desc := "(Ljava/lang/String;II)[B" } : Jvm.MethodName) prog_15_method_4_code (3 : Nat) (Option.some (Jvm.ClassFile.FieldType.array Jvm.ClassFile.FieldType.byte))).before args0 about1 = true := code_word (m := ⟨9, 1⟩) (meth := k9m1) (c := k9c1) (by decide +kernel) rfl rfl rfl (by decide +kernel)
set_option maxRecDepth 65536 in
theorem w_c9 : (Jvm.Cond.code ({ cls := "java/lang/String", name := "substring", desc := "(II)Ljava/lang/String;" } : Jvm.MethodName) jdk_42_method_92_code (5 : Nat) (Option.some (Jvm.ClassFile.FieldType.object "java/lang/String"))).before args0 about1 = true := code_word (m := ⟨7, 7⟩) (meth := k7m7) (c := k7c7) (by decide +kernel) rfl rfl rfl (by decide +kernel)
set_option maxRecDepth 65536 in
theorem w_c10 : (Jvm.Cond.code ({ cls := "java/lang/String", name := "length", desc := "()I" } : Jvm.MethodName) jdk_42_method_54_code (1 : Nat) (Option.some Jvm.ClassFile.FieldType.int)).before args0 about1 = true := code_word (m := ⟨7, 5⟩) (meth := k7m5) (c := k7c5) (by decide +kernel) rfl rfl rfl (by decide +kernel)
set_option maxRecDepth 65536 in
theorem w_c11 : (Jvm.Cond.code ({ cls := "java/lang/String", name := "coder", desc := "()B" } : Jvm.MethodName) jdk_42_method_152_code (1 : Nat) (Option.some Jvm.ClassFile.FieldType.byte)).before args0 about1 = true := code_word (m := ⟨7, 10⟩) (meth := k7m10) (c := k7c10) (by decide +kernel) rfl rfl rfl (by decide +kernel)
set_option maxRecDepth 65536 in
theorem w_c12 : (Jvm.Cond.code ({ cls := "java/lang/String", name := "checkBoundsBeginEnd", desc := "(III)V" } : Jvm.MethodName) jdk_42_method_158_code (3 : Nat) (Option.none : Option Jvm.ClassFile.FieldType)).before args0 about1 = true := code_word (m := ⟨7, 12⟩) (meth := k7m12) (c := k7c12) (by decide +kernel) rfl rfl rfl (by decide +kernel)
set_option maxRecDepth 65536 in
theorem w_c13 : (Jvm.Cond.code ({ cls := "jdk/internal/util/Preconditions", name := "checkFromToIndex", desc := "(IIILjava/util/function/BiFunction;)I" } : Jvm.MethodName) jdk_41_method_12_code (4 : Nat) (Option.some Jvm.ClassFile.FieldType.int)).before args0 about1 = true := code_word (m := ⟨10, 1⟩) (meth := k10m1) (c := k10c1) (by decide +kernel) rfl rfl rfl (by decide +kernel)
set_option maxRecDepth 65536 in
theorem w_c14 : (Jvm.Cond.code ({ cls := "java/lang/String", name := "isLatin1", desc := "()Z" } : Jvm.MethodName) jdk_42_method_154_code (1 : Nat) (Option.some Jvm.ClassFile.FieldType.boolean)).before args0 about1 = true := code_word (m := ⟨7, 11⟩) (meth := k7m11) (c := k7c11) (by decide +kernel) rfl rfl rfl (by decide +kernel)
set_option maxRecDepth 65536 in
theorem w_c15 : (Jvm.Cond.code ({ cls := "java/lang/StringLatin1", name := "newString", desc := "([BII)Ljava/lang/String;" } : Jvm.MethodName) jdk_43_method_47_code (3 : Nat) (Option.some (Jvm.ClassFile.FieldType.object "java/lang/String"))).before args0 about1 = true := code_word (m := ⟨11, 1⟩) (meth := k11m1) (c := k11c1) (by decide +kernel) rfl rfl rfl (by decide +kernel)
set_option maxRecDepth 65536 in
theorem w_c16 : (Jvm.Cond.code ({ cls := "java/util/Base64$Decoder", name := "decode", desc := "(Ljava/lang/String;)[B" } : Jvm.MethodName) jdk_2450_method_3_code (2 : Nat) (Option.some (Jvm.ClassFile.FieldType.array Jvm.ClassFile.FieldType.byte))).before args0 about1 = true := code_word (m := ⟨12, 1⟩) (meth := k12m1) (c := k12c1) (by decide +kernel) rfl rfl rfl (by decide +kernel)
set_option maxRecDepth 65536 in
theorem w_c17 : (Jvm.Cond.code ({ cls := "java/lang/String", name := "getBytes", desc := "(Ljava/nio/charset/Charset;)[B" } : Jvm.MethodName) jdk_42_method_64_code (2 : Nat) (Option.some (Jvm.ClassFile.FieldType.array Jvm.ClassFile.FieldType.byte))).before args0 about1 = true := code_word (m := ⟨7, 6⟩) (meth := k7m6) (c := k7c6) (by decide +kernel) rfl rfl rfl (by decide +kernel)
set_option maxRecDepth 65536 in
theorem w_c18 : (Jvm.Cond.code ({ cls := "java/lang/String", name := "encode", desc := "(Ljava/nio/charset/Charset;B[B)[B" } : Jvm.MethodName) jdk_42_method_18_code (3 : Nat) (Option.some (Jvm.ClassFile.FieldType.array Jvm.ClassFile.FieldType.byte))).before args0 about1 = true := code_word (m := ⟨7, 2⟩) (meth := k7m2) (c := k7c2) (by decide +kernel) rfl rfl rfl (by decide +kernel)
set_option maxRecDepth 65536 in
theorem w_c19 : (Jvm.Cond.code ({ cls := "java/lang/String", name := "encode8859_1", desc := "(B[B)[B" } : Jvm.MethodName) jdk_42_method_26_code (2 : Nat) (Option.some (Jvm.ClassFile.FieldType.array Jvm.ClassFile.FieldType.byte))).before args0 about1 = true := code_word (m := ⟨7, 3⟩) (meth := k7m3) (c := k7c3) (by decide +kernel) rfl rfl rfl (by decide +kernel)
set_option maxRecDepth 65536 in
theorem w_c20 : (Jvm.Cond.code ({ cls := "java/lang/String", name := "encode8859_1", desc := "(B[BZ)[B" } : Jvm.MethodName) jdk_42_method_27_code (10 : Nat) (Option.some (Jvm.ClassFile.FieldType.array Jvm.ClassFile.FieldType.byte))).before args0 about1 = true := code_word (m := ⟨7, 4⟩) (meth := k7m4) (c := k7c4) (by decide +kernel) rfl rfl rfl (by decide +kernel)
set_option maxRecDepth 65536 in
theorem w_c21 : (Jvm.Cond.code ({ cls := "java/util/Base64$Decoder", name := "decode", desc := "([B)[B" } : Jvm.MethodName) jdk_2450_method_2_code (4 : Nat) (Option.some (Jvm.ClassFile.FieldType.array Jvm.ClassFile.FieldType.byte))).before args0 about1 = true := code_word (m := ⟨12, 0⟩) (meth := k12m0) (c := k12c0) (by decide +kernel) rfl rfl rfl (by decide +kernel)
set_option maxRecDepth 65536 in
theorem w_c22 : (Jvm.Cond.code ({ cls := "java/util/Base64$Decoder", name := "decodedOutLength", desc := "([BII)I" } : Jvm.MethodName) jdk_2450_method_7_code (9 : Nat) (Option.some Jvm.ClassFile.FieldType.int)).before args0 about1 = true := code_word (m := ⟨12, 2⟩) (meth := k12m2) (c := k12c2) (by decide +kernel) rfl rfl rfl (by decide +kernel)
set_option maxRecDepth 65536 in
theorem w_c23 : (Jvm.Cond.code ({ cls := "java/util/Base64$Decoder", name := "decode0", desc := "([BII[B)I" } : Jvm.MethodName) jdk_2450_method_9_code (11 : Nat) (Option.some Jvm.ClassFile.FieldType.int)).before args0 about1 = true := code_word (m := ⟨12, 4⟩) (meth := k12m4) (c := k12c4) (by decide +kernel) rfl rfl rfl (by decide +kernel)
set_option maxRecDepth 65536 in
theorem w_c24 : (Jvm.Cond.code ({ cls := "com/example/scopegate/scopegate/token/Base64UrlDecodePinLaw", name := "ok", desc := "([BIIJ)Z" } : Jvm.MethodName) method_5_code (5 : Nat) (Option.some Jvm.ClassFile.FieldType.boolean)).before args0 about1 = true := code_word (m := ⟨1, 4⟩) (meth := k1m4) (c := k1c4) (by decide +kernel) rfl rfl rfl (by decide +kernel)
set_option maxRecDepth 65536 in
theorem w_c25 : (Jvm.Cond.code ({ cls := "com/example/scopegate/scopegate/token/Base64UrlDecodePinLaw", name := "alpha", desc := "(I)C" } : Jvm.MethodName) method_4_code (1 : Nat) (Option.some Jvm.ClassFile.FieldType.char)).before args0 about1 = true := code_word (m := ⟨1, 3⟩) (meth := k1m3) (c := k1c3) (by decide +kernel) rfl rfl rfl (by decide +kernel)
set_option maxRecDepth 65536 in
theorem w_c26 : (Jvm.Cond.code ({ cls := "java/util/Arrays", name := "copyOfRange", desc := "([BII)[B" } : Jvm.MethodName) jdk_65_method_132_code (3 : Nat) (Option.some (Jvm.ClassFile.FieldType.array Jvm.ClassFile.FieldType.byte))).before args0 about1 = true := code_word (m := ⟨19, 2⟩) (meth := k19m2) (c := k19c2) (by decide +kernel) rfl rfl rfl (by decide +kernel)
set_option maxRecDepth 65536 in
theorem w_c27 : (Jvm.Cond.code ({ cls := "java/util/Arrays", name := "copyOfRangeByte", desc := "([BII)[B" } : Jvm.MethodName) jdk_65_method_133_code (5 : Nat) (Option.some (Jvm.ClassFile.FieldType.array Jvm.ClassFile.FieldType.byte))).before args0 about1 = true := code_word (m := ⟨19, 3⟩) (meth := k19m3) (c := k19c3) (by decide +kernel) rfl rfl rfl (by decide +kernel)
set_option maxRecDepth 65536 in
theorem w_c28 : (Jvm.Cond.code ({ cls := "java/util/Arrays", name := "checkLength", desc := "(II)V" } : Jvm.MethodName) jdk_65_method_131_code (2 : Nat) (Option.none : Option Jvm.ClassFile.FieldType)).before args0 about1 = true := code_word (m := ⟨19, 1⟩) (meth := k19m1) (c := k19c1) (by decide +kernel) rfl rfl rfl (by decide +kernel)
set_option maxRecDepth 65536 in
theorem w_c29 : (Jvm.Cond.code ({ cls := "java/lang/Math", name := "min", desc := "(II)I" } : Jvm.MethodName) jdk_29_method_69_code (2 : Nat) (Option.some Jvm.ClassFile.FieldType.int)).before args0 about1 = true := code_word (m := ⟨20, 1⟩) (meth := k20m1) (c := k20c1) (by decide +kernel) rfl rfl rfl (by decide +kernel)
set_option maxRecDepth 65536 in
theorem w_c30 : (Jvm.Cond.code ({ cls := "java/lang/String", name := "<init>", desc := "([BB)V" } : Jvm.MethodName) jdk_42_method_151_code (3 : Nat) (Option.none : Option Jvm.ClassFile.FieldType)).before args0 about1 = true := code_word (m := ⟨7, 9⟩) (meth := k7m9) (c := k7c9) (by decide +kernel) rfl rfl rfl (by decide +kernel)
set_option maxRecDepth 65536 in
theorem w_c31 : (Jvm.Cond.code ({ cls := "java/util/Base64$Decoder", name := "decodeBlock", desc := "([BII[BIZZ)I" } : Jvm.MethodName) jdk_2450_method_8_code (16 : Nat) (Option.some Jvm.ClassFile.FieldType.int)).before args0 about1 = true := code_word (m := ⟨12, 3⟩) (meth := k12m3) (c := k12c3) (by decide +kernel) rfl rfl rfl (by decide +kernel)
def codes1 : List Jvm.Cond := [Jvm.Cond.code x code maxLocals ret, Jvm.Cond.code ({ cls := "com/example/scopegate/scopegate/token/Base64UrlDecodePinLaw", name := "at", desc := "(IIIJJ)C" } : Jvm.MethodName) method_3_code (7 : Nat) (Option.some Jvm.ClassFile.FieldType.char), Jvm.Cond.code ({ cls := "java/lang/String", name := "<init>", desc := "([C)V" } : Jvm.MethodName) jdk_42_method_3_code (2 : Nat) (Option.none : Option Jvm.ClassFile.FieldType), Jvm.Cond.code ({ cls := "java/lang/String", name := "<init>", desc := "([CIILjava/lang/Void;)V" } : Jvm.MethodName) jdk_42_method_149_code (6 : Nat) (Option.none : Option Jvm.ClassFile.FieldType), Jvm.Cond.code ({ cls := "java/lang/Object", name := "<init>", desc := "()V" } : Jvm.MethodName) object_method_1_code (1 : Nat) (Option.none : Option Jvm.ClassFile.FieldType), Jvm.Cond.code ({ cls := "java/lang/StringUTF16", name := "compress", desc := "([CII)[B" } : Jvm.MethodName) jdk_52_method_16_code (6 : Nat) (Option.some (Jvm.ClassFile.FieldType.array Jvm.ClassFile.FieldType.byte)), Jvm.Cond.code ({ cls := "java/lang/StringUTF16", name := "compress", desc := "([CI[BII)I" } : Jvm.MethodName) jdk_52_method_21_code (7 : Nat) (Option.some Jvm.ClassFile.FieldType.int), Jvm.Cond.code ({ cls := "java/lang/StringUTF16", name := "coderFromArrayLen", desc := "([BI)B" } : Jvm.MethodName) jdk_52_method_15_code (2 : Nat) (Option.some Jvm.ClassFile.FieldType.byte), Jvm.Cond.code ({ cls := "com/example/scopegate/scopegate/token/Base64Url", name := "decode", desc := "(Ljava/lang/String;II)[B" } : Jvm.MethodName) prog_15_method_4_code (3 : Nat) (Option.some (Jvm.ClassFile.FieldType.array Jvm.ClassFile.FieldType.byte)), Jvm.Cond.code ({ cls := "java/lang/String", name := "substring", desc := "(II)Ljava/lang/String;" } : Jvm.MethodName) jdk_42_method_92_code (5 : Nat) (Option.some (Jvm.ClassFile.FieldType.object "java/lang/String")), Jvm.Cond.code ({ cls := "java/lang/String", name := "length", desc := "()I" } : Jvm.MethodName) jdk_42_method_54_code (1 : Nat) (Option.some Jvm.ClassFile.FieldType.int), Jvm.Cond.code ({ cls := "java/lang/String", name := "coder", desc := "()B" } : Jvm.MethodName) jdk_42_method_152_code (1 : Nat) (Option.some Jvm.ClassFile.FieldType.byte), Jvm.Cond.code ({ cls := "java/lang/String", name := "checkBoundsBeginEnd", desc := "(III)V" } : Jvm.MethodName) jdk_42_method_158_code (3 : Nat) (Option.none : Option Jvm.ClassFile.FieldType), Jvm.Cond.code ({ cls := "jdk/internal/util/Preconditions", name := "checkFromToIndex", desc := "(IIILjava/util/function/BiFunction;)I" } : Jvm.MethodName) jdk_41_method_12_code (4 : Nat) (Option.some Jvm.ClassFile.FieldType.int), Jvm.Cond.code ({ cls := "java/lang/String", name := "isLatin1", desc := "()Z" } : Jvm.MethodName) jdk_42_method_154_code (1 : Nat) (Option.some Jvm.ClassFile.FieldType.boolean), Jvm.Cond.code ({ cls := "java/lang/StringLatin1", name := "newString", desc := "([BII)Ljava/lang/String;" } : Jvm.MethodName) jdk_43_method_47_code (3 : Nat) (Option.some (Jvm.ClassFile.FieldType.object "java/lang/String")), Jvm.Cond.code ({ cls := "java/util/Base64$Decoder", name := "decode", desc := "(Ljava/lang/String;)[B" } : Jvm.MethodName) jdk_2450_method_3_code (2 : Nat) (Option.some (Jvm.ClassFile.FieldType.array Jvm.ClassFile.FieldType.byte)), Jvm.Cond.code ({ cls := "java/lang/String", name := "getBytes", desc := "(Ljava/nio/charset/Charset;)[B" } : Jvm.MethodName) jdk_42_method_64_code (2 : Nat) (Option.some (Jvm.ClassFile.FieldType.array Jvm.ClassFile.FieldType.byte)), Jvm.Cond.code ({ cls := "java/lang/String", name := "encode", desc := "(Ljava/nio/charset/Charset;B[B)[B" } : Jvm.MethodName) jdk_42_method_18_code (3 : Nat) (Option.some (Jvm.ClassFile.FieldType.array Jvm.ClassFile.FieldType.byte)), Jvm.Cond.code ({ cls := "java/lang/String", name := "encode8859_1", desc := "(B[B)[B" } : Jvm.MethodName) jdk_42_method_26_code (2 : Nat) (Option.some (Jvm.ClassFile.FieldType.array Jvm.ClassFile.FieldType.byte)), Jvm.Cond.code ({ cls := "java/lang/String", name := "encode8859_1", desc := "(B[BZ)[B" } : Jvm.MethodName) jdk_42_method_27_code (10 : Nat) (Option.some (Jvm.ClassFile.FieldType.array Jvm.ClassFile.FieldType.byte)), Jvm.Cond.code ({ cls := "java/util/Base64$Decoder", name := "decode", desc := "([B)[B" } : Jvm.MethodName) jdk_2450_method_2_code (4 : Nat) (Option.some (Jvm.ClassFile.FieldType.array Jvm.ClassFile.FieldType.byte)), Jvm.Cond.code ({ cls := "java/util/Base64$Decoder", name := "decodedOutLength", desc := "([BII)I" } : Jvm.MethodName) jdk_2450_method_7_code (9 : Nat) (Option.some Jvm.ClassFile.FieldType.int), Jvm.Cond.code ({ cls := "java/util/Base64$Decoder", name := "decode0", desc := "([BII[B)I" } : Jvm.MethodName) jdk_2450_method_9_code (11 : Nat) (Option.some Jvm.ClassFile.FieldType.int), Jvm.Cond.code ({ cls := "com/example/scopegate/scopegate/token/Base64UrlDecodePinLaw", name := "ok", desc := "([BIIJ)Z" } : Jvm.MethodName) method_5_code (5 : Nat) (Option.some Jvm.ClassFile.FieldType.boolean), Jvm.Cond.code ({ cls := "com/example/scopegate/scopegate/token/Base64UrlDecodePinLaw", name := "alpha", desc := "(I)C" } : Jvm.MethodName) method_4_code (1 : Nat) (Option.some Jvm.ClassFile.FieldType.char), Jvm.Cond.code ({ cls := "java/util/Arrays", name := "copyOfRange", desc := "([BII)[B" } : Jvm.MethodName) jdk_65_method_132_code (3 : Nat) (Option.some (Jvm.ClassFile.FieldType.array Jvm.ClassFile.FieldType.byte)), Jvm.Cond.code ({ cls := "java/util/Arrays", name := "copyOfRangeByte", desc := "([BII)[B" } : Jvm.MethodName) jdk_65_method_133_code (5 : Nat) (Option.some (Jvm.ClassFile.FieldType.array Jvm.ClassFile.FieldType.byte)), Jvm.Cond.code ({ cls := "java/util/Arrays", name := "checkLength", desc := "(II)V" } : Jvm.MethodName) jdk_65_method_131_code (2 : Nat) (Option.none : Option Jvm.ClassFile.FieldType), Jvm.Cond.code ({ cls := "java/lang/Math", name := "min", desc := "(II)I" } : Jvm.MethodName) jdk_29_method_69_code (2 : Nat) (Option.some Jvm.ClassFile.FieldType.int), Jvm.Cond.code ({ cls := "java/lang/String", name := "<init>", desc := "([BB)V" } : Jvm.MethodName) jdk_42_method_151_code (3 : Nat) (Option.none : Option Jvm.ClassFile.FieldType), Jvm.Cond.code ({ cls := "java/util/Base64$Decoder", name := "decodeBlock", desc := "([BII[BIZZ)I" } : Jvm.MethodName) jdk_2450_method_8_code (16 : Nat) (Option.some Jvm.ClassFile.FieldType.int)]
set_option maxRecDepth 65536 in
theorem codes_eq : words1.filter isCode = codes1 := rfl
theorem w_codes : ∀ c ∈ words1.filter isCode, c.before args0 about1 = true := by
  rw [codes_eq]
  intro c hc
  simp only [codes1, List.mem_cons, List.not_mem_nil, or_false] at hc
  rcases hc with rfl | rfl | rfl | rfl | rfl | rfl | rfl | rfl | rfl | rfl | rfl | rfl | rfl | rfl | rfl | rfl | rfl | rfl | rfl | rfl | rfl | rfl | rfl | rfl | rfl | rfl | rfl | rfl | rfl | rfl | rfl | rfl
  · exact w_c0
  · exact w_c1
  · exact w_c2
  · exact w_c3
  · exact w_c4
  · exact w_c5
  · exact w_c6
  · exact w_c7
  · exact w_c8
  · exact w_c9
  · exact w_c10
  · exact w_c11
  · exact w_c12
  · exact w_c13
  · exact w_c14
  · exact w_c15
  · exact w_c16
  · exact w_c17
  · exact w_c18
  · exact w_c19
  · exact w_c20
  · exact w_c21
  · exact w_c22
  · exact w_c23
  · exact w_c24
  · exact w_c25
  · exact w_c26
  · exact w_c27
  · exact w_c28
  · exact w_c29
  · exact w_c30
  · exact w_c31
set_option maxRecDepth 65536 in
theorem w_t1 : (words1.take 24).all (fun c => isCode c || c.before args0 about1) = true := by decide +kernel
set_option maxRecDepth 65536 in
theorem w_t2 : ((words1.drop 24).take 24).all (fun c => isCode c || c.before args0 about1) = true := by decide +kernel
set_option maxRecDepth 65536 in
theorem w_t3 : (((words1.drop 24).drop 24).take 24).all (fun c => isCode c || c.before args0 about1) = true := by decide +kernel
set_option maxRecDepth 65536 in
theorem w_t4 : ((((words1.drop 24).drop 24).drop 24).take 24).all (fun c => isCode c || c.before args0 about1) = true := by decide +kernel
set_option maxRecDepth 65536 in
theorem w_t5 : (((((words1.drop 24).drop 24).drop 24).drop 24).take 24).all (fun c => isCode c || c.before args0 about1) = true := by decide +kernel
set_option maxRecDepth 65536 in
theorem w_t6 : ((((((words1.drop 24).drop 24).drop 24).drop 24).drop 24).take 24).all (fun c => isCode c || c.before args0 about1) = true := by decide +kernel
set_option maxRecDepth 65536 in
theorem w_t7 : (((((((words1.drop 24).drop 24).drop 24).drop 24).drop 24).drop 24).take 24).all (fun c => isCode c || c.before args0 about1) = true := by decide +kernel
set_option maxRecDepth 65536 in
theorem w_t8 : (((((((words1.drop 24).drop 24).drop 24).drop 24).drop 24).drop 24).drop 24).all (fun c => isCode c || c.before args0 about1) = true := by decide +kernel
theorem w_tables : (allAtoms (Jvm.Cond.code x code maxLocals ret :: tables_1)).before args0 about1 = true := by
  rw [allAtoms_all]
  show words1.all (fun c => c.before args0 about1) = true
  refine all_split ?_ w_codes
  rw [← List.take_append_drop 24 words1, List.all_append, w_t1, ← List.take_append_drop 24 (words1.drop 24), List.all_append, w_t2, ← List.take_append_drop 24 ((words1.drop 24).drop 24), List.all_append, w_t3, ← List.take_append_drop 24 (((words1.drop 24).drop 24).drop 24), List.all_append, w_t4, ← List.take_append_drop 24 ((((words1.drop 24).drop 24).drop 24).drop 24), List.all_append, w_t5, ← List.take_append_drop 24 (((((words1.drop 24).drop 24).drop 24).drop 24).drop 24), List.all_append, w_t6, ← List.take_append_drop 24 ((((((words1.drop 24).drop 24).drop 24).drop 24).drop 24).drop 24), List.all_append, w_t7, w_t8]
  rfl
set_option maxRecDepth 65536 in
theorem w_rest : rest_1_c.before args0 about1 = true := by decide +kernel
set_option maxRecDepth 65536 in
theorem w_case : (Jvm.Cond.and given_1 narrow_1).before args0 about1 = true := by decide +kernel
set_option maxRecDepth 65536 in
theorem w_consts : constsHeld consts_1 about1 := Jvm.Lit.constsHeldB_iff.mp (by decide +kernel)
theorem w_applies : (headSpec (Jvm.Cond.code x code maxLocals ret :: tables_1) room_1).applies x e0.platform about1 = true :=
  (Spec.applies_iff w_frames).mpr ⟨w_running, w_runnable, w_alone, w_named, w_hears, w_ripe, w_room, w_tables⟩
theorem atStart : AtStart classFile x code maxLocals ret World_1 tables_1 room_1 Calls_1 rest_1 Pre_1 launch0 p0 e0 about1 theMethod args0 below0 :=
  ⟨lists_1, trivial, launch0.admits_env _ _ _, launch0.least_env, fairChoices_fair.cas, fairChoices_fair.clock, w_frames, w_args, w_heap, w_applies, ⟨w_consts, trivial⟩, w_rest, w_case⟩
end start1
theorem witness_1 : WitnessClaimed_1 := ⟨start1.p0, start1.e0, start1.about1, start1.theMethod, start1.args0, start1.below0, start1.atStart⟩
end Jvm.Pilot.@@N@@
