import JvmDerived
import JvmDerived.Pilot.@@N@@Statement
import JvmDerived.Pilot.@@N@@Code
set_option linter.unusedVariables false
set_option linter.unusedSimpArgs false
/- laws to paste: Road.backV (cut by pick.py; bodies as the Statement names them) -/
namespace Jvm.Pilot.@@N@@
namespace StrChars
open Jvm Sem ClassFile Op Lib Jvm.Stand Jvm.Free.XT Jvm.Free.ALB Jvm.Free.JM Jvm.Free
open Jvm.Lib.Cold (StaticIs)
/-- a char array whose places are chars -/
def Ch (a : Addr) (A : Cell) (U : State) : Prop := Arr .char a A U ∧ Typed .char A
theorem Ch.mv {a : Addr} {A : Cell} {U U' : State} (h : Ch a A U) (hal : U.vm.Alike U'.vm) (hh : U'.heap = U.heap) : Ch a A U' := ⟨h.1.mv hal hh, h.2⟩
theorem Ch.keep {a : Addr} {A : Cell} {U U' : State} (h : Ch a A U) (hal : U.vm.Alike U'.vm) (hk : U'.heap[a]? = some A) : Ch a A U' := ⟨h.1.keep hal hk, h.2⟩
/-- what place i of a char[]'s cell holds -/
def cv (A : Cell) (i : Nat) : Int32 := match A.slots[i]? with | some (.int x) => x | _ => 0
theorem Ch.get {a : Addr} {A : Cell} {U : State} (h : Ch a A U) {i : Nat} (hi : i < A.slots.size) : A.slots[i]? = some (.int (cv A i)) := by
  have e := Array.getElem?_eq_getElem hi
  have f := h.2 i _ e
  unfold cv; rw [e]
  generalize A.slots[i] = v at f
  cases v <;> simp [fits] at f ⊢
/-- the byte that i2b leaves of a char -/
def lo8 (x : Int32) : Int32 := x.toInt8.toInt32
theorem fits_lo8 (y : Int32) : fits .byte (.int (lo8 y)) = true := by
  have h1 := y.toInt8.le_toInt
  have h2 := y.toInt8.toInt_lt
  simp only [lo8, fits, Bool.and_eq_true, decide_eq_true_eq, Int32.le_iff_toInt_le, Int8.toInt_toInt32, show (-128 : Int32).toInt = -128 from by decide, show (127 : Int32).toInt = 127 from by decide]
  omega
/-- A' is A but that each place j of lo .. hi - 1 holds f j -/
def Laid (A A' : Cell) (lo hi : Nat) (f : Nat → Value) : Prop := A'.cls = A.cls ∧ A'.vm = A.vm ∧ A'.slots.size = A.slots.size ∧ ∀ i, A'.slots[i]? = if lo ≤ i ∧ i < hi then some (f i) else A.slots[i]?
theorem Laid.zero (A : Cell) (lo : Nat) (f : Nat → Value) : Laid A A lo (lo + 0) f := ⟨rfl, rfl, rfl, fun i => by rw [if_neg (by omega)]⟩
theorem Laid.step {A Ak : Cell} {lo k : Nat} {f : Nat → Value} {v : Value} (h : Laid A Ak lo k f) (hlo : lo ≤ k) (hk : k < Ak.slots.size) (hv : v = f k) : Laid A (Ak.setSlot k v) lo (k + 1) f := by
  refine ⟨h.1, h.2.1, by simpa [Cell.setSlot] using h.2.2.1, fun i => ?_⟩
  by_cases e : k = i
  · subst e; rw [Cell.slots_setSlot_self v hk, if_pos (by omega), hv]
  · rw [Cell.slots_setSlot_ne v e, h.2.2.2 i]
    by_cases q : lo ≤ i ∧ i < k
    · rw [if_pos q, if_pos (by omega)]
    · rw [if_neg q, if_neg (by omega)]
def U16 : String := "java/lang/StringUTF16"
namespace Cmp5
def yN : MethodName := ⟨"java/lang/StringUTF16", "compress", "([CI[BII)I"⟩
abbrev yB : ByteArray := jdk_52_method_21_code
theorem d0 : decode yB 0 = .ok (.iconst 0, 1) := by decide +kernel
theorem d1 : decode yB 1 = .ok (.istore 5, 2) := by decide +kernel
theorem d3 : decode yB 3 = .ok (.iload 5, 2) := by decide +kernel
theorem d5 : decode yB 5 = .ok (.iload 4, 2) := by decide +kernel
theorem d7 : decode yB 7 = .ok (.if_icmp (.ge) 37, 3) := by decide +kernel
theorem d10 : decode yB 10 = .ok (.aload_n 0, 1) := by decide +kernel
theorem d11 : decode yB 11 = .ok (.iload_n 1, 1) := by decide +kernel
theorem d12 : decode yB 12 = .ok (.caload, 1) := by decide +kernel
theorem d13 : decode yB 13 = .ok (.istore 6, 2) := by decide +kernel
theorem d15 : decode yB 15 = .ok (.iload 6, 2) := by decide +kernel
theorem d17 : decode yB 17 = .ok (.sipush 255, 3) := by decide +kernel
theorem d20 : decode yB 20 = .ok (.if_icmp (.le) 6, 3) := by decide +kernel
theorem d26 : decode yB 26 = .ok (.aload_n 2, 1) := by decide +kernel
theorem d27 : decode yB 27 = .ok (.iload_n 3, 1) := by decide +kernel
theorem d28 : decode yB 28 = .ok (.iload 6, 2) := by decide +kernel
theorem d30 : decode yB 30 = .ok (.i2b, 1) := by decide +kernel
theorem d31 : decode yB 31 = .ok (.bastore, 1) := by decide +kernel
theorem d32 : decode yB 32 = .ok (.iinc 1 1, 3) := by decide +kernel
theorem d35 : decode yB 35 = .ok (.iinc 3 1, 3) := by decide +kernel
theorem d38 : decode yB 38 = .ok (.iinc 5 1, 3) := by decide +kernel
theorem d41 : decode yB 41 = .ok (.goto (-38), 3) := by decide +kernel
theorem d44 : decode yB 44 = .ok (.iload 4, 2) := by decide +kernel
theorem d46 : decode yB 46 = .ok (.ireturn, 1) := by decide +kernel
def site : List Cond := []
def tab : Cond := tabOf yN yB 7 (some .int) site
def P (b : Addr) (A : Cell) (d : Addr) (B : Cell) (o q len : Nat) (args : Array Value) (s : State) : Prop := args = #[.ref b, .int (Int32.ofNat o), .ref d, .int (Int32.ofNat q), .int (Int32.ofNat len)] ∧ Ch b A s ∧ Arr .byte d B s ∧ b ≠ d ∧ o + len ≤ A.slots.size ∧ q + len ≤ B.slots.size ∧ ∀ i, i < len → ¬ 255 < cv A (o + i)
def E (b : Addr) (A : Cell) (d : Addr) (B : Cell) (o q len : Nat) (r : Option Value) (s u : State) : Prop := r = some (.int (Int32.ofNat len)) ∧ ∃ B', Put d B' s u ∧ Laid B B' q (q + len) (fun j => Value.int (lo8 (cv A (o + (j - q)))))
/-- no char of the range above 255: len; the places written hold each char's low byte -/
theorem law (l : Launch) (b : Addr) (A : Cell) (d : Addr) (B : Cell) (o q len : Nat) : Law l yN 5 5 0 0 yB 7 (some .int) site (P b A d B o q len) (E b A d B o q len) (copyLocs d q len) 0 0 := by
  refine Law.of_walk (plainFor_of_name (by decide +kernel)) (by decide +kernel) (by decide +kernel) (by decide) (fun _ _ h => by rw [h.1]; rfl) (fun _ U U' hal hh h => ⟨h.1, h.2.1.mv hal hh, h.2.2.1.mv hal hh, h.2.2.2⟩) (fun r U U' V V' h1 hal h2 h => ⟨h.1, h.2.elim fun B' q => ⟨B', q.1.mv h1 h2, q.2⟩⟩) ?_
  intro p e s m args below meth c s₁ X0 hexec hbytes hml hret hlk hnm hown hh0 W hP
  obtain ⟨rfl, hA, hB, hne, l1, l2, hp⟩ := hP
  have c1 : Steps p.tables e below (s₁.setTop (entryFrame m #[.ref b, .int (Int32.ofNat o), .ref d, .int (Int32.ofNat q), .int (Int32.ofNat len)] 7)) (s₁.setTop (mkF m 0 #[.val (.ref b), .val (.int (Int32.ofNat o)), .val (.ref d), .val (.int (Int32.ofNat q)), .val (.int (Int32.ofNat len)), .unset, .unset] [])) := entry rfl
  have hA0 := hA.1.mv X0.warmed.alike hh0
  have hB0 := hB.mv X0.warmed.alike hh0
  have a31 := hA.1.2.2.2
  have c2 : Steps p.tables e below (s₁.setTop (entryFrame m #[.ref b, .int (Int32.ofNat o), .ref d, .int (Int32.ofNat q), .int (Int32.ofNat len)] 7)) (s₁.setTop (mkF m 3 #[.val (.ref b), .val (.int (Int32.ofNat o)), .val (.ref d), .val (.int (Int32.ofNat q)), .val (.int (Int32.ofNat len)), .val (.int 0), .unset] [])) := c1.trans (by
    refine iconstV X0.here hexec rfl 0 (hb hbytes d0) (by decide) ?_
    refine XS.istore X0.here hexec rfl (hb hbytes d1) rfl rfl ?_
    exact Steps.refl _)
  have loop : ∀ (r i : Nat), i + r = len → ∀ (z : Slot), (z = .unset ∨ ∃ w, z = .val w ∧ w.category = 1) → ∀ (Tl : State) (Bk : Cell), Stand p l e { frames := 0, locals := 0, cells := 0, slots := 0 } s m #[.ref b, .int (Int32.ofNat o), .ref d, .int (Int32.ofNat q), .int (Int32.ofNat len)] below meth c Tl ([] ++ copyLocs d q i) 0 0 → Put d Bk s₁ Tl → Laid B Bk q (q + i) (fun j => Value.int (lo8 (cv A (o + (j - q))))) →
      Steps p.tables e below (s₁.setTop (entryFrame m #[.ref b, .int (Int32.ofNat o), .ref d, .int (Int32.ofNat q), .int (Int32.ofNat len)] 7)) (Tl.setTop (mkF m 3 #[.val (.ref b), .val (.int (Int32.ofNat (o + i))), .val (.ref d), .val (.int (Int32.ofNat (q + i))), .val (.int (Int32.ofNat len)), .val (.int (Int32.ofNat i)), z] [])) → ∃ (T' : State) (B' : Cell) (z' : Slot), Stand p l e { frames := 0, locals := 0, cells := 0, slots := 0 } s m #[.ref b, .int (Int32.ofNat o), .ref d, .int (Int32.ofNat q), .int (Int32.ofNat len)] below meth c T' ([] ++ copyLocs d q len) 0 0 ∧ Put d B' s₁ T' ∧ Laid B B' q (q + len) (fun j => Value.int (lo8 (cv A (o + (j - q))))) ∧
      Steps p.tables e below (s₁.setTop (entryFrame m #[.ref b, .int (Int32.ofNat o), .ref d, .int (Int32.ofNat q), .int (Int32.ofNat len)] 7)) (T'.setTop (mkF m 3 #[.val (.ref b), .val (.int (Int32.ofNat (o + len))), .val (.ref d), .val (.int (Int32.ofNat (q + len))), .val (.int (Int32.ofNat len)), .val (.int (Int32.ofNat len)), z'] [])) := by
    intro r
    induction r with
    | zero =>
      intro i hi z hz Tl Bk Xl pl fl cl
      have hil : i = len := by omega
      rw [hil] at Xl fl cl
      exact ⟨Tl, Bk, z, Xl, pl, fl, cl⟩
    | succ r ih =>
      intro i hi z hz Tl Bk Xl pl fl cl
      have all := X0.warmed.alike.symm.trans Xl.warmed.alike
      have hAl := hA0.keep all (pl.other hne hA0.1)
      have hBk := hB0.like all pl.1 fl.1 fl.2.1 fl.2.2.1
      have hlt : q + i < Bk.slots.size := by rw [fl.2.2.1]; omega
      have c3 : Steps p.tables e below (s₁.setTop (entryFrame m #[.ref b, .int (Int32.ofNat o), .ref d, .int (Int32.ofNat q), .int (Int32.ofNat len)] 7)) (Tl.setTop (mkF m 12 #[.val (.ref b), .val (.int (Int32.ofNat (o + i))), .val (.ref d), .val (.int (Int32.ofNat (q + i))), .val (.int (Int32.ofNat len)), .val (.int (Int32.ofNat i)), z] [.int (Int32.ofNat (o + i)), .ref b])) := cl.trans (by
        refine XS.iload Xl.here hexec rfl (hb hbytes d3) rfl ?_
        refine XS.iload Xl.here hexec rfl (hb hbytes d5) rfl ?_
        refine XS.icmpNo Xl.here hexec rfl (hb hbytes d7) rfl (ii_ge_f (lt32 (by omega) (by omega))) ?_
        refine XS.aloadN Xl.here hexec rfl (hb hbytes d10) rfl rfl ?_
        refine XS.iloadN Xl.here hexec rfl (hb hbytes d11) rfl ?_
        exact Steps.refl _)
      have c4 : Steps p.tables e below (s₁.setTop (entryFrame m #[.ref b, .int (Int32.ofNat o), .ref d, .int (Int32.ofNat q), .int (Int32.ofNat len)] 7)) (Tl.setTop (mkF m 13 #[.val (.ref b), .val (.int (Int32.ofNat (o + i))), .val (.ref d), .val (.int (Int32.ofNat (q + i))), .val (.int (Int32.ofNat len)), .val (.int (Int32.ofNat i)), z] [.int (cv A (o + i))])) := c3.trans (by
        refine Xl.aget hexec hAl rfl (hA.get (i := o + i) (by omega)) rfl rfl (hb hbytes d12) ?_
        exact Steps.refl _)
      have c5 : Steps p.tables e below (s₁.setTop (entryFrame m #[.ref b, .int (Int32.ofNat o), .ref d, .int (Int32.ofNat q), .int (Int32.ofNat len)] 7)) (Tl.setTop (mkF m 15 #[.val (.ref b), .val (.int (Int32.ofNat (o + i))), .val (.ref d), .val (.int (Int32.ofNat (q + i))), .val (.int (Int32.ofNat len)), .val (.int (Int32.ofNat i)), .val (.int (cv A (o + i)))] [])) := c4.trans (by
        refine XS.istoreS Xl.here hexec rfl (hb hbytes d13) rfl rfl hz ?_
        exact Steps.refl _)
      have c6 : Steps p.tables e below (s₁.setTop (entryFrame m #[.ref b, .int (Int32.ofNat o), .ref d, .int (Int32.ofNat q), .int (Int32.ofNat len)] 7)) (Tl.setTop (mkF m 31 #[.val (.ref b), .val (.int (Int32.ofNat (o + i))), .val (.ref d), .val (.int (Int32.ofNat (q + i))), .val (.int (Int32.ofNat len)), .val (.int (Int32.ofNat i)), .val (.int (cv A (o + i)))] [.int (lo8 (cv A (o + i))), .int (Int32.ofNat (q + i)), .ref d])) := c5.trans (by
        refine XS.iload Xl.here hexec rfl (hb hbytes d15) rfl ?_
        refine sipushV Xl.here hexec rfl 255 (hb hbytes d17) (by decide) ?_
        refine XS.icmpYes Xl.here hexec rfl (pc0 := 20) rfl (hb hbytes d20) rfl (ii_le_t (hp i (by omega))) (by decide) rfl ?_
        refine XS.aloadN Xl.here hexec rfl (hb hbytes d26) rfl rfl ?_
        refine XS.iloadN Xl.here hexec rfl (hb hbytes d27) rfl ?_
        refine XS.iload Xl.here hexec rfl (hb hbytes d28) rfl ?_
        refine i2b Xl.here hexec rfl (hb hbytes d30) rfl ?_
        exact Steps.refl _)
      obtain ⟨T7, X7, p7, st7⟩ := Xl.aput hexec hBk rfl hlt rfl (fits_lo8 (cv A (o + i))) (g := (mkF m 31 #[.val (.ref b), .val (.int (Int32.ofNat (o + i))), .val (.ref d), .val (.int (Int32.ofNat (q + i))), .val (.int (Int32.ofNat len)), .val (.int (Int32.ofNat i)), .val (.int (cv A (o + i)))] [.int (lo8 (cv A (o + i))), .int (Int32.ofNat (q + i)), .ref d])) rfl (rest := []) rfl (hb hbytes d31)
      have c8 : Steps p.tables e below (s₁.setTop (entryFrame m #[.ref b, .int (Int32.ofNat o), .ref d, .int (Int32.ofNat q), .int (Int32.ofNat len)] 7)) (T7.setTop (mkF m 32 #[.val (.ref b), .val (.int (Int32.ofNat (o + i))), .val (.ref d), .val (.int (Int32.ofNat (q + i))), .val (.int (Int32.ofNat len)), .val (.int (Int32.ofNat i)), .val (.int (cv A (o + i)))] [])) := c6.trans (st7 _ (Steps.refl _))
      have c9 : Steps p.tables e below (s₁.setTop (entryFrame m #[.ref b, .int (Int32.ofNat o), .ref d, .int (Int32.ofNat q), .int (Int32.ofNat len)] 7)) (T7.setTop (mkF m 3 #[.val (.ref b), .val (.int (Int32.ofNat (o + i) + 1)), .val (.ref d), .val (.int (Int32.ofNat (q + i) + 1)), .val (.int (Int32.ofNat len)), .val (.int (Int32.ofNat i + 1)), .val (.int (cv A (o + i)))] [])) := c8.trans (by
        refine iincV X7.here hexec rfl 1 (hb hbytes d32) (by decide) rfl rfl ?_
        refine iincV X7.here hexec rfl 1 (hb hbytes d35) (by decide) rfl rfl ?_
        refine iincV X7.here hexec rfl 1 (hb hbytes d38) (by decide) rfl rfl ?_
        refine XS.goto X7.here hexec rfl (pc0 := 41) rfl (hb hbytes d41) (by decide) rfl ?_
        exact Steps.refl _)
      have c10 : Steps p.tables e below (s₁.setTop (entryFrame m #[.ref b, .int (Int32.ofNat o), .ref d, .int (Int32.ofNat q), .int (Int32.ofNat len)] 7)) (T7.setTop (mkF m 3 #[.val (.ref b), .val (.int (Int32.ofNat (o + (i + 1)))), .val (.ref d), .val (.int (Int32.ofNat (q + (i + 1)))), .val (.int (Int32.ofNat len)), .val (.int (Int32.ofNat (i + 1))), .val (.int (cv A (o + i)))] [])) := by
        have := c9
        rw [succ32, succ32, succ32] at this
        exact this
      exact ih (i + 1) (by omega) _ (Or.inr ⟨_, rfl, rfl⟩) T7 _ (by rw [copyLocs_step, ← List.append_assoc]; exact X7) (pl.trans p7) (fl.step (by omega) hlt (by simp)) c10
  obtain ⟨T9, B9, z9, X9, p9, f9, g9⟩ := loop len 0 (by omega) .unset (Or.inl rfl) s₁ B (by simpa [copyLocs] using X0) ⟨hB0.1, fun _ _ => rfl, rfl⟩ (Laid.zero _ _ _) c2
  have c11 : Steps p.tables e below (s₁.setTop (entryFrame m #[.ref b, .int (Int32.ofNat o), .ref d, .int (Int32.ofNat q), .int (Int32.ofNat len)] 7)) (T9.setTop (mkF m 46 #[.val (.ref b), .val (.int (Int32.ofNat (o + len))), .val (.ref d), .val (.int (Int32.ofNat (q + len))), .val (.int (Int32.ofNat len)), .val (.int (Int32.ofNat len)), z9] [.int (Int32.ofNat len)])) := g9.trans (by
    refine XS.iload X9.here hexec rfl (hb hbytes d3) rfl ?_
    refine XS.iload X9.here hexec rfl (hb hbytes d5) rfl ?_
    refine XS.icmpYes X9.here hexec rfl (pc0 := 7) rfl (hb hbytes d7) rfl (ii_ge_t (nlt32 (by omega) (Nat.le_refl _))) (by decide) rfl ?_
    refine XS.iload X9.here hexec rfl (hb hbytes d44) rfl ?_
    exact Steps.refl _)
  exact ⟨T9, some (.int (Int32.ofNat len)), _, _, _, X9, by simp, rfl, rfl, (fun h => by cases h), ⟨rfl, B9, p9.from hh0, f9⟩, fun fs hl => c11.trans (X9.ireturnOut hexec hret rfl (Or.inl rfl) (hb hbytes d46) hl)⟩
end Cmp5
namespace Cmp3
def yN : MethodName := ⟨"java/lang/StringUTF16", "compress", "([CII)[B"⟩
abbrev yB : ByteArray := jdk_52_method_16_code
theorem d0 : decode yB 0 = .ok (.iload_n 2, 1) := by decide +kernel
theorem d1 : decode yB 1 = .ok (.newarray .byte, 2) := by decide +kernel
theorem d3 : decode yB 3 = .ok (.astore_n 3, 1) := by decide +kernel
theorem d4 : decode yB 4 = .ok (.aload_n 0, 1) := by decide +kernel
theorem d5 : decode yB 5 = .ok (.iload_n 1, 1) := by decide +kernel
theorem d6 : decode yB 6 = .ok (.aload_n 3, 1) := by decide +kernel
theorem d7 : decode yB 7 = .ok (.iconst 0, 1) := by decide +kernel
theorem d8 : decode yB 8 = .ok (.iload_n 2, 1) := by decide +kernel
theorem d9 : decode yB 9 = .ok (.invokestatic 115, 3) := by decide +kernel
theorem d12 : decode yB 12 = .ok (.istore 4, 2) := by decide +kernel
theorem d14 : decode yB 14 = .ok (.iload 4, 2) := by decide +kernel
theorem d16 : decode yB 16 = .ok (.iload_n 2, 1) := by decide +kernel
theorem d17 : decode yB 17 = .ok (.if_icmp (.eq) 40, 3) := by decide +kernel
theorem d57 : decode yB 57 = .ok (.aload_n 3, 1) := by decide +kernel
theorem d58 : decode yB 58 = .ok (.areturn, 1) := by decide +kernel
def site : List Cond := [.arrayClass .byte, Cmp5.tab] ++ staticW U16 115 Cmp5.yN
def tab : Cond := tabOf yN yB 6 (some (.array .byte)) site
def P (b : Addr) (A : Cell) (o len : Nat) (args : Array Value) (s : State) : Prop := args = #[.ref b, .int (Int32.ofNat o), .int (Int32.ofNat len)] ∧ Ch b A s ∧ o + len ≤ A.slots.size ∧ len ≤ 536870912 ∧ ∀ i, i < len → ¬ 255 < cv A (o + i)
def E (b : Addr) (A : Cell) (o len : Nat) (r : Option Value) (s u : State) : Prop := NewArr .byte "[B" len (fun j => .int (lo8 (cv A (o + j)))) r s u ∧ u.heap.size = s.heap.size + 1
/-- no char of the range above 255: a new byte[] of their low bytes -/
theorem law (l : Launch) (b : Addr) (A : Cell) (o len : Nat) : Law l yN 3 3 1 18 yB 6 (some (.array .byte)) site (P b A o len) (E b A o len) [] 1 len := by
  refine Law.of_walk (plainFor_of_name (by decide +kernel)) (by decide +kernel) (by decide +kernel) (by decide) (fun _ _ h => by rw [h.1]; rfl) (fun _ U U' hal hh h => ⟨h.1, h.2.1.mv hal hh, h.2.2⟩) (fun r U U' V V' h1 hal h2 h => ⟨NewArr.mv r U U' V V' h1 hal h2 h.1, by rw [h1, h2]; exact h.2⟩) ?_
  intro p e s m args below meth c s₁ X0 hexec hbytes hml hret hlk hnm hown hh0 W hP
  obtain ⟨rfl, hA, l1, l2, hp⟩ := hP
  have a31 := hA.1.2.2.2
  have c1 : Steps p.tables e below (s₁.setTop (entryFrame m #[.ref b, .int (Int32.ofNat o), .int (Int32.ofNat len)] 6)) (s₁.setTop (mkF m 0 #[.val (.ref b), .val (.int (Int32.ofNat o)), .val (.int (Int32.ofNat len)), .unset, .unset, .unset] [])) := entry rfl
  have c2 : Steps p.tables e below (s₁.setTop (entryFrame m #[.ref b, .int (Int32.ofNat o), .int (Int32.ofNat len)] 6)) (s₁.setTop (mkF m 1 #[.val (.ref b), .val (.int (Int32.ofNat o)), .val (.int (Int32.ofNat len)), .unset, .unset, .unset] [.int (Int32.ofNat len)])) := c1.trans (by
    refine XS.iloadN X0.here hexec rfl (hb hbytes d0) rfl ?_
    exact Steps.refl _)
  obtain ⟨T3, B3, X3, ba3, bs3, bv3, bh3, bf3, st3⟩ := X0.anew hexec (atype := .byte) (wk W (.arrayClass .byte)) rfl (by show len * 1 ≤ _; omega) (by omega) (g := (mkF m 1 #[.val (.ref b), .val (.int (Int32.ofNat o)), .val (.int (Int32.ofNat len)), .unset, .unset, .unset] [.int (Int32.ofNat len)])) rfl (hb hbytes d1) (rest := []) rfl (Nat.le_refl _) (by show 0 + len ≤ len; omega)
  rw [hh0] at ba3 st3
  have kp3 : XT.Kept s T3 := (XT.Kept.of_eq hh0).push bh3
  have hA3 := hA.keep X3.warmed.alike (kp3 _ _ hA.1.1)
  have hne : b ≠ s.heap.size := hA.1.ne
  have c4 : Steps p.tables e below (s₁.setTop (entryFrame m #[.ref b, .int (Int32.ofNat o), .int (Int32.ofNat len)] 6)) (T3.setTop (mkF m 3 #[.val (.ref b), .val (.int (Int32.ofNat o)), .val (.int (Int32.ofNat len)), .unset, .unset, .unset] [.ref s.heap.size])) := c2.trans (st3 _ (Steps.refl _))
  have c5 : Steps p.tables e below (s₁.setTop (entryFrame m #[.ref b, .int (Int32.ofNat o), .int (Int32.ofNat len)] 6)) (T3.setTop (mkF m 9 #[.val (.ref b), .val (.int (Int32.ofNat o)), .val (.int (Int32.ofNat len)), .val (.ref s.heap.size), .unset, .unset] [.int (Int32.ofNat len), .int 0, .ref s.heap.size, .int (Int32.ofNat o), .ref b])) := c4.trans (by
    refine XS.astoreN X3.here hexec rfl (hb hbytes d3) rfl rfl rfl ?_
    refine XS.aloadN X3.here hexec rfl (hb hbytes d4) rfl rfl ?_
    refine XS.iloadN X3.here hexec rfl (hb hbytes d5) rfl ?_
    refine XS.aloadN X3.here hexec rfl (hb hbytes d6) rfl rfl ?_
    refine iconstV X3.here hexec rfl 0 (hb hbytes d7) (by decide) ?_
    refine XS.iloadN X3.here hexec rfl (hb hbytes d8) rfl ?_
    exact Steps.refl _)
  obtain ⟨v6, T6, X6, E6, g6⟩ := X3.callS hexec (Cmp5.law l b A s.heap.size B3 o 0 len) hown (wks W (staticW U16 115 Cmp5.yN)) (wk W Cmp5.tab) (W := 0) (Nat.le_of_ble_eq_true rfl) (Nat.le_of_ble_eq_true rfl) (Nat.le_refl _) (by show 0 + len + 0 ≤ len; omega) (g := (mkF m 9 #[.val (.ref b), .val (.int (Int32.ofNat o)), .val (.int (Int32.ofNat len)), .val (.ref s.heap.size), .unset, .unset] [.int (Int32.ofNat len), .int (Int32.ofNat 0), .ref s.heap.size, .int (Int32.ofNat o), .ref b])) rfl (by rw [hml]; rfl) c5 (argsL := [.ref b, .int (Int32.ofNat o), .ref s.heap.size, .int (Int32.ofNat 0), .int (Int32.ofNat len)]) (rest := []) rfl rfl (by show 2 * 0 + 0 ≤ _; decide) (hb hbytes d9) (⟨rfl, hA3, ba3, hne, l1, by rw [bs3]; simp, hp⟩)
  obtain ⟨rfl, B6, p6, f6⟩ := E6
  have c7 : Steps p.tables e below (s₁.setTop (entryFrame m #[.ref b, .int (Int32.ofNat o), .int (Int32.ofNat len)] 6)) (T6.setTop (mkF m 12 #[.val (.ref b), .val (.int (Int32.ofNat o)), .val (.int (Int32.ofNat len)), .val (.ref s.heap.size), .unset, .unset] [.int (Int32.ofNat len)])) := g6
  have c8 : Steps p.tables e below (s₁.setTop (entryFrame m #[.ref b, .int (Int32.ofNat o), .int (Int32.ofNat len)] 6)) (T6.setTop (mkF m 58 #[.val (.ref b), .val (.int (Int32.ofNat o)), .val (.int (Int32.ofNat len)), .val (.ref s.heap.size), .val (.int (Int32.ofNat len)), .unset] [.ref s.heap.size])) := c7.trans (by
    refine XS.istore X6.here hexec rfl (hb hbytes d12) rfl rfl ?_
    refine XS.iload X6.here hexec rfl (hb hbytes d14) rfl ?_
    refine XS.iloadN X6.here hexec rfl (hb hbytes d16) rfl ?_
    refine XS.icmpYes X6.here hexec rfl (pc0 := 17) rfl (hb hbytes d17) rfl (ii_eq_t rfl) (by decide) rfl ?_
    refine XS.aloadN X6.here hexec rfl (hb hbytes d57) rfl rfl ?_
    exact Steps.refl _)
  have X8 := X6.wide (L' := []) (cells' := 1) (slots' := len) (fun x hx hlt => by
    simp only [List.nil_append, copyLocs, List.mem_map, List.mem_range] at hx
    obtain ⟨i, -, rfl⟩ := hx
    exact absurd hlt (Nat.lt_irrefl _)) (Nat.le_refl _) (by omega)
  exact ⟨T6, some (.ref s.heap.size), _, _, _, X8, rfl, rfl, rfl, (fun h => by cases h), ⟨⟨rfl, B6, ba3.like (X3.warmed.alike.symm.trans X6.warmed.alike) p6.1 f6.1 f6.2.1 f6.2.2.1, f6.2.1.trans bv3, by rw [X6.warmed.alike.findClass, f6.1]; exact bf3, by rw [f6.2.2.1, bs3]; simp, fun j hj => by rw [f6.2.2.2 j, if_pos (by omega)]; rfl, kp3.put p6 (Nat.le_refl _)⟩, by rw [p6.2.2, bh3, hh0]; simp⟩, fun fs hl => c8.trans (X8.areturnOut hexec rfl hret rfl (hb hbytes d58) hl)⟩
end Cmp3
namespace CodL
def yN : MethodName := ⟨"java/lang/StringUTF16", "coderFromArrayLen", "([BI)B"⟩
abbrev yB : ByteArray := jdk_52_method_15_code
theorem d0 : decode yB 0 = .ok (.iload_n 1, 1) := by decide +kernel
theorem d1 : decode yB 1 = .ok (.aload_n 0, 1) := by decide +kernel
theorem d2 : decode yB 2 = .ok (.arraylength, 1) := by decide +kernel
theorem d3 : decode yB 3 = .ok (.isub, 1) := by decide +kernel
theorem d4 : decode yB 4 = .ok (.bipush 31, 2) := by decide +kernel
theorem d6 : decode yB 6 = .ok (.iushr, 1) := by decide +kernel
theorem d7 : decode yB 7 = .ok (.i2b, 1) := by decide +kernel
theorem d8 : decode yB 8 = .ok (.ireturn, 1) := by decide +kernel
def site : List Cond := []
def tab : Cond := tabOf yN yB 2 (some .byte) site
def P (d : Addr) (B : Cell) (args : Array Value) (s : State) : Prop := args = #[.ref d, .int (Int32.ofNat B.slots.size)] ∧ Arr .byte d B s
def E (r : Option Value) (s u : State) : Prop := XT.PureE (some (.int 0)) r s u
/-- an array as long as the number of chars: LATIN1 -/
theorem law (l : Launch) (d : Addr) (B : Cell) : Law l yN 2 2 0 0 yB 2 (some .byte) site (P d B) E [] 0 0 := by
  refine Law.of_walk (plainFor_of_name (by decide +kernel)) (by decide +kernel) (by decide +kernel) (by decide) (fun _ _ h => by rw [h.1]; rfl) (fun _ U U' hal hh h => ⟨h.1, h.2.mv hal hh⟩) (fun r U U' V V' h1 hal h2 h => XT.PureE.mv r U U' V V' h1 hal h2 h) ?_
  intro p e s m args below meth c s₁ X0 hexec hbytes hml hret hlk hnm hown hh0 W hP
  obtain ⟨rfl, hB⟩ := hP
  have hB0 := hB.mv X0.warmed.alike hh0
  have c1 : Steps p.tables e below (s₁.setTop (entryFrame m #[.ref d, .int (Int32.ofNat B.slots.size)] 2)) (s₁.setTop (mkF m 0 #[.val (.ref d), .val (.int (Int32.ofNat B.slots.size))] [])) := entry rfl
  have c2 : Steps p.tables e below (s₁.setTop (entryFrame m #[.ref d, .int (Int32.ofNat B.slots.size)] 2)) (s₁.setTop (mkF m 2 #[.val (.ref d), .val (.int (Int32.ofNat B.slots.size))] [.ref d, .int (Int32.ofNat B.slots.size)])) := c1.trans (by
    refine XS.iloadN X0.here hexec rfl (hb hbytes d0) rfl ?_
    refine XS.aloadN X0.here hexec rfl (hb hbytes d1) rfl rfl ?_
    exact Steps.refl _)
  have c3 : Steps p.tables e below (s₁.setTop (entryFrame m #[.ref d, .int (Int32.ofNat B.slots.size)] 2)) (s₁.setTop (mkF m 8 #[.val (.ref d), .val (.int (Int32.ofNat B.slots.size))] [.int (lo8 (ushr (Int32.ofNat B.slots.size - Int32.ofNat B.slots.size) 31))])) := c2.trans (by
    refine X0.alen hexec hB0 rfl rfl (hb hbytes d2) ?_
    refine XS.isub X0.here hexec rfl (hb hbytes d3) rfl ?_
    refine bipushV X0.here hexec rfl 31 (hb hbytes d4) (by decide) ?_
    refine iushr X0.here hexec rfl (hb hbytes d6) rfl ?_
    refine i2b X0.here hexec rfl (hb hbytes d7) rfl ?_
    exact Steps.refl _)
  have e0 : lo8 (ushr (Int32.ofNat B.slots.size - Int32.ofNat B.slots.size) 31) = 0 := by rw [Int32.sub_self]; decide
  rw [e0] at c3
  exact ⟨s₁, some (.int 0), _, _, _, X0, rfl, rfl, rfl, (fun h => by cases h), ⟨rfl, hh0⟩, fun fs hl => c3.trans (X0.ireturnOut hexec hret rfl (Or.inr (Or.inr (Or.inl rfl))) (hb hbytes d8) hl)⟩
end CodL
/-- the String at a is Latin-1 over a new byte[] (the heap's one new cell): the low bytes of the len chars of A from o on; every cell but a is kept -/
def Got (a : Addr) (D : Cell) (fV fC : Field) (A : Cell) (o len : Nat) (r : Option Value) (s u : State) : Prop := r = none ∧ ∃ D' V : Cell, Blank "java/lang/String" a D' u ∧ Same D D' [fV.slot, fC.slot] ∧ D'.slots[fV.slot]? = some (.ref s.heap.size) ∧ D'.slots[fC.slot]? = some (.int 0) ∧ Arr .byte s.heap.size V u ∧ V.vm = .none ∧ u.vm.findClass "[B" = some V.cls ∧ V.slots.size = len ∧ (∀ j, j < len → V.slots[j]? = some (.int (lo8 (cv A (o + j))))) ∧ (∀ (y : Addr) (c : Cell), y ≠ a → s.heap[y]? = some c → u.heap[y]? = some c) ∧ u.heap.size = s.heap.size + 1
theorem Got.mv {a : Addr} {D A : Cell} {fV fC : Field} {o len : Nat} : ∀ r (U U' V V' : State), U'.heap = U.heap → V.vm.Alike V'.vm → V'.heap = V.heap → Got a D fV fC A o len r U V → Got a D fV fC A o len r U' V' :=
  fun r U U' V V' h1 hal h2 ⟨e0, D', X, a1, a2, a3, a4, a5, a6, a7, a8, a9, a10, a11⟩ => ⟨e0, D', X, a1.mv hal h2, a2, by rw [h1]; exact a3, a4, by rw [h1]; exact a5.mv hal h2, a6, by rw [hal.findClass]; exact a7, a8, a9, by rw [h1, h2]; exact a10, by rw [h1, h2]; exact a11⟩
namespace New4
def yN : MethodName := ⟨"java/lang/String", "<init>", "([CIILjava/lang/Void;)V"⟩
abbrev yB : ByteArray := jdk_42_method_149_code
theorem d0 : decode yB 0 = .ok (.aload_n 0, 1) := by decide +kernel
theorem d1 : decode yB 1 = .ok (.invokespecial 1, 3) := by decide +kernel
theorem d4 : decode yB 4 = .ok (.iload_n 3, 1) := by decide +kernel
theorem d5 : decode yB 5 = .ok (.ifCond (.ne) 22, 3) := by decide +kernel
theorem d27 : decode yB 27 = .ok (.getstatic 38, 3) := by decide +kernel
theorem d30 : decode yB 30 = .ok (.ifCond (.eq) 28, 3) := by decide +kernel
theorem d33 : decode yB 33 = .ok (.aload_n 1, 1) := by decide +kernel
theorem d34 : decode yB 34 = .ok (.iload_n 2, 1) := by decide +kernel
theorem d35 : decode yB 35 = .ok (.iload_n 3, 1) := by decide +kernel
theorem d36 : decode yB 36 = .ok (.invokestatic 177, 3) := by decide +kernel
theorem d39 : decode yB 39 = .ok (.astore 5, 2) := by decide +kernel
theorem d41 : decode yB 41 = .ok (.aload_n 0, 1) := by decide +kernel
theorem d42 : decode yB 42 = .ok (.aload 5, 2) := by decide +kernel
theorem d44 : decode yB 44 = .ok (.iload_n 3, 1) := by decide +kernel
theorem d45 : decode yB 45 = .ok (.invokestatic 47, 3) := by decide +kernel
theorem d48 : decode yB 48 = .ok (.putfield 15, 3) := by decide +kernel
theorem d51 : decode yB 51 = .ok (.aload_n 0, 1) := by decide +kernel
theorem d52 : decode yB 52 = .ok (.aload 5, 2) := by decide +kernel
theorem d54 : decode yB 54 = .ok (.putfield 9, 3) := by decide +kernel
theorem d57 : decode yB 57 = .ok (.return_, 1) := by decide +kernel
def site : List Cond := [.fieldLink "java/lang/String" 38 "java/lang/String" "COMPACT_STRINGS" "Z", Cmp3.tab, CodL.tab, .laysFinal "java/lang/String" "java/lang/String" "value" "[B", .fieldLink "java/lang/String" 9 "java/lang/String" "value" "[B", .laysFinal "java/lang/String" "java/lang/String" "coder" "B", .fieldLink "java/lang/String" 15 "java/lang/String" "coder" "B"] ++ objW "java/lang/String" 1 ++ staticW "java/lang/String" 177 Cmp3.yN ++ staticW "java/lang/String" 47 CodL.yN
def tab : Cond := tabOf yN yB 6 none site
def P (a : Addr) (D : Cell) (fV fC : Field) (b : Addr) (A : Cell) (z : Int32) (o len : Nat) (args : Array Value) (s : State) : Prop := args = #[.ref a, .ref b, .int (Int32.ofNat o), .int (Int32.ofNat len), .null] ∧ Blank "java/lang/String" a D s ∧ Found "java/lang/String" "value" "[B" fV s ∧ Found "java/lang/String" "coder" "B" fC s ∧ Ch b A s ∧ StaticIs s "java/lang/String" "COMPACT_STRINGS" "Z" (.int z) ∧ ¬ z = 0 ∧ 0 < len ∧ o + len ≤ A.slots.size ∧ len ≤ 536870912 ∧ ∀ i, i < len → ¬ 255 < cv A (o + i)
def E (a : Addr) (D : Cell) (fV fC : Field) (A : Cell) (o len : Nat) (r : Option Value) (s u : State) : Prop := Got a D fV fC A o len r s u
/-- len > 0, no char of the range above 255: a Latin-1 String of their low bytes -/
theorem law (l : Launch) (a : Addr) (D : Cell) (fV fC : Field) (b : Addr) (A : Cell) (z : Int32) (o len : Nat) : Law l yN 5 4 2 35 yB 6 none site (P a D fV fC b A z o len) (E a D fV fC A o len) [⟨a, fC.slot⟩, ⟨a, fV.slot⟩] 1 len := by
  refine Law.of_walk (plainFor_of_name (by decide +kernel)) (by decide +kernel) (by decide +kernel) (by decide) (fun _ _ h => by rw [h.1]; rfl) (fun _ U U' hal hh h => ⟨h.1, h.2.1.mv hal hh, h.2.2.1.al hal, h.2.2.2.1.al hal, h.2.2.2.2.1.mv hal hh, h.2.2.2.2.2.1.there hal hh, h.2.2.2.2.2.2⟩) (fun r U U' V V' h1 hal h2 h => Got.mv r U U' V V' h1 hal h2 h) ?_
  intro p e s m args below meth c s₁ X0 hexec hbytes hml hret hlk hnm hown hh0 W hP
  obtain ⟨rfl, hB, f1, f2, hA, s1, hz, l0, l1, l2, hp⟩ := hP
  have a31 := hA.1.2.2.2
  have c1 : Steps p.tables e below (s₁.setTop (entryFrame m #[.ref a, .ref b, .int (Int32.ofNat o), .int (Int32.ofNat len), .null] 6)) (s₁.setTop (mkF m 0 #[.val (.ref a), .val (.ref b), .val (.int (Int32.ofNat o)), .val (.int (Int32.ofNat len)), .val .null, .unset] [])) := entry rfl
  have c2 : Steps p.tables e below (s₁.setTop (entryFrame m #[.ref a, .ref b, .int (Int32.ofNat o), .int (Int32.ofNat len), .null] 6)) (s₁.setTop (mkF m 1 #[.val (.ref a), .val (.ref b), .val (.int (Int32.ofNat o)), .val (.int (Int32.ofNat len)), .val .null, .unset] [.ref a])) := c1.trans (by
    refine XS.aloadN X0.here hexec rfl (hb hbytes d0) rfl rfl ?_
    exact Steps.refl _)
  obtain ⟨T3, X3, q3, st3⟩ := X0.oinit hexec hown (wks W (objW "java/lang/String" 1)) (g := (mkF m 1 #[.val (.ref a), .val (.ref b), .val (.int (Int32.ofNat o)), .val (.int (Int32.ofNat len)), .val .null, .unset] [.ref a])) rfl (by rw [hml]; rfl) (rest := []) rfl (hb hbytes d1) (W := 0) (by show 2 * 0 + 0 ≤ _; decide) (Nat.le_of_ble_eq_true rfl) (Nat.le_of_ble_eq_true rfl)
  have hh3 := q3.trans hh0
  have c4 : Steps p.tables e below (s₁.setTop (entryFrame m #[.ref a, .ref b, .int (Int32.ofNat o), .int (Int32.ofNat len), .null] 6)) (T3.setTop (mkF m 27 #[.val (.ref a), .val (.ref b), .val (.int (Int32.ofNat o)), .val (.int (Int32.ofNat len)), .val .null, .unset] [])) := (c2.trans (st3 _ (Steps.refl _))).trans (by
    refine XS.iloadN X3.here hexec rfl (hb hbytes d4) rfl ?_
    refine XS.ifYes X3.here hexec rfl (pc0 := 5) rfl (hb hbytes d5) rfl (i0_ne_t (nz32 (by omega) l0)) (by decide) rfl ?_
    exact Steps.refl _)
  obtain ⟨T5, X5, q5, st5⟩ := X3.sget hexec hown (wk W (.fieldLink "java/lang/String" 38 "java/lang/String" "COMPACT_STRINGS" "Z")) s1 (fun _ _ h => by rw [hh3]; exact h) (g := (mkF m 27 #[.val (.ref a), .val (.ref b), .val (.int (Int32.ofNat o)), .val (.int (Int32.ofNat len)), .val .null, .unset] [])) rfl (hb hbytes d27)
  have hh5 := q5.trans hh3
  have c6 : Steps p.tables e below (s₁.setTop (entryFrame m #[.ref a, .ref b, .int (Int32.ofNat o), .int (Int32.ofNat len), .null] 6)) (T5.setTop (mkF m 30 #[.val (.ref a), .val (.ref b), .val (.int (Int32.ofNat o)), .val (.int (Int32.ofNat len)), .val .null, .unset] [.int z])) := c4.trans (st5 _ (Steps.refl _))
  have c7 : Steps p.tables e below (s₁.setTop (entryFrame m #[.ref a, .ref b, .int (Int32.ofNat o), .int (Int32.ofNat len), .null] 6)) (T5.setTop (mkF m 36 #[.val (.ref a), .val (.ref b), .val (.int (Int32.ofNat o)), .val (.int (Int32.ofNat len)), .val .null, .unset] [.int (Int32.ofNat len), .int (Int32.ofNat o), .ref b])) := c6.trans (by
    refine XS.ifNo X5.here hexec rfl (hb hbytes d30) rfl (i0_eq_f hz) ?_
    refine XS.aloadN X5.here hexec rfl (hb hbytes d33) rfl rfl ?_
    refine XS.iloadN X5.here hexec rfl (hb hbytes d34) rfl ?_
    refine XS.iloadN X5.here hexec rfl (hb hbytes d35) rfl ?_
    exact Steps.refl _)
  obtain ⟨v8, T8, X8, E8, g8⟩ := X5.callS hexec (Cmp3.law l b A o len) hown (wks W (staticW "java/lang/String" 177 Cmp3.yN)) (wk W Cmp3.tab) (W := 0) (Nat.le_of_ble_eq_true rfl) (Nat.le_of_ble_eq_true rfl) (Nat.le_refl _) (by show 0 + len ≤ len; omega) (g := (mkF m 36 #[.val (.ref a), .val (.ref b), .val (.int (Int32.ofNat o)), .val (.int (Int32.ofNat len)), .val .null, .unset] [.int (Int32.ofNat len), .int (Int32.ofNat o), .ref b])) rfl (by rw [hml]; rfl) c7 (argsL := [.ref b, .int (Int32.ofNat o), .int (Int32.ofNat len)]) (rest := []) rfl rfl (by show 2 * 0 + 0 ≤ _; decide) (hb hbytes d36) (⟨rfl, hA.mv X5.warmed.alike hh5, l1, l2, hp⟩)
  obtain ⟨e8, z8⟩ := E8
  obtain ⟨rfl, N, n1, n2, n3, n4, n5, n6⟩ := NewArr.mv _ T5 s _ _ hh5.symm (Vm.Alike.refl _) rfl e8
  rw [hh5] at z8
  have hB1 := hB.keep X8.warmed.alike (n6 _ _ hB.1)
  have hne : s.heap.size ≠ a := (Nat.ne_of_lt (Array.getElem?_eq_some_iff.mp hB.1).1).symm
  have c9 : Steps p.tables e below (s₁.setTop (entryFrame m #[.ref a, .ref b, .int (Int32.ofNat o), .int (Int32.ofNat len), .null] 6)) (T8.setTop (mkF m 39 #[.val (.ref a), .val (.ref b), .val (.int (Int32.ofNat o)), .val (.int (Int32.ofNat len)), .val .null, .unset] [.ref s.heap.size])) := g8
  have c10 : Steps p.tables e below (s₁.setTop (entryFrame m #[.ref a, .ref b, .int (Int32.ofNat o), .int (Int32.ofNat len), .null] 6)) (T8.setTop (mkF m 45 #[.val (.ref a), .val (.ref b), .val (.int (Int32.ofNat o)), .val (.int (Int32.ofNat len)), .val .null, .val (.ref s.heap.size)] [.int (Int32.ofNat N.slots.size), .ref s.heap.size, .ref a])) := by
    have hc : Steps p.tables e below (s₁.setTop (entryFrame m #[.ref a, .ref b, .int (Int32.ofNat o), .int (Int32.ofNat len), .null] 6)) (T8.setTop (mkF m 45 #[.val (.ref a), .val (.ref b), .val (.int (Int32.ofNat o)), .val (.int (Int32.ofNat len)), .val .null, .val (.ref s.heap.size)] [.int (Int32.ofNat len), .ref s.heap.size, .ref a])) := c9.trans (by
      refine XS.astore X8.here hexec rfl (hb hbytes d39) rfl rfl rfl ?_
      refine XS.aloadN X8.here hexec rfl (hb hbytes d41) rfl rfl ?_
      refine XS.aload X8.here hexec rfl (hb hbytes d42) rfl rfl ?_
      refine XS.iloadN X8.here hexec rfl (hb hbytes d44) rfl ?_
      exact Steps.refl _)
    rw [n4]; exact hc
  obtain ⟨v11, T11, X11, E11, g11⟩ := X8.callS hexec (CodL.law l s.heap.size N) hown (wks W (staticW "java/lang/String" 47 CodL.yN)) (wk W CodL.tab) (W := 1) (Nat.le_of_ble_eq_true rfl) (Nat.le_of_ble_eq_true rfl) (Nat.le_refl _) (by show 0 + len + 0 ≤ len; omega) (g := (mkF m 45 #[.val (.ref a), .val (.ref b), .val (.int (Int32.ofNat o)), .val (.int (Int32.ofNat len)), .val .null, .val (.ref s.heap.size)] [.int (Int32.ofNat N.slots.size), .ref s.heap.size, .ref a])) rfl (by rw [hml]; rfl) c10 (argsL := [.ref s.heap.size, .int (Int32.ofNat N.slots.size)]) (rest := [.ref a]) rfl rfl (by show 2 * 0 + (1 + 0) ≤ _; decide) (hb hbytes d45) (⟨rfl, n1⟩)
  obtain ⟨rfl, q11⟩ := E11
  have hB11 := hB1.mv (X8.warmed.alike.symm.trans X11.warmed.alike) q11
  have c12 : Steps p.tables e below (s₁.setTop (entryFrame m #[.ref a, .ref b, .int (Int32.ofNat o), .int (Int32.ofNat len), .null] 6)) (T11.setTop (mkF m 48 #[.val (.ref a), .val (.ref b), .val (.int (Int32.ofNat o)), .val (.int (Int32.ofNat len)), .val .null, .val (.ref s.heap.size)] [.int 0, .ref a])) := g11
  obtain ⟨T13, X13, p13, bl13, sl13, st13⟩ := X11.finit hexec hown (wk W (.fieldLink "java/lang/String" 15 "java/lang/String" "coder" "B")) (Or.inr ⟨_, (wk W (.laysFinal "java/lang/String" "java/lang/String" "coder" "B"))⟩) (Or.inl ⟨rfl, hnm⟩) f2 (Or.inl rfl) hB11 (t := .byte) (by decide +kernel) rfl (g := (mkF m 48 #[.val (.ref a), .val (.ref b), .val (.int (Int32.ofNat o)), .val (.int (Int32.ofNat len)), .val .null, .val (.ref s.heap.size)] [.int 0, .ref a])) rfl (rest := []) rfl (hb hbytes d48)
  have c14 : Steps p.tables e below (s₁.setTop (entryFrame m #[.ref a, .ref b, .int (Int32.ofNat o), .int (Int32.ofNat len), .null] 6)) (T13.setTop (mkF m 54 #[.val (.ref a), .val (.ref b), .val (.int (Int32.ofNat o)), .val (.int (Int32.ofNat len)), .val .null, .val (.ref s.heap.size)] [.ref s.heap.size, .ref a])) := (c12.trans (st13 _ (Steps.refl _))).trans (by
    refine XS.aloadN X13.here hexec rfl (hb hbytes d51) rfl rfl ?_
    refine XS.aload X13.here hexec rfl (hb hbytes d52) rfl rfl ?_
    exact Steps.refl _)
  obtain ⟨T15, X15, p15, bl15, sl15, st15⟩ := X13.finit hexec hown (wk W (.fieldLink "java/lang/String" 9 "java/lang/String" "value" "[B")) (Or.inr ⟨_, (wk W (.laysFinal "java/lang/String" "java/lang/String" "value" "[B"))⟩) (Or.inl ⟨rfl, hnm⟩) f1 (Or.inl rfl) bl13 (t := (.array .byte)) (by decide +kernel) rfl (g := (mkF m 54 #[.val (.ref a), .val (.ref b), .val (.int (Int32.ofNat o)), .val (.int (Int32.ofNat len)), .val .null, .val (.ref s.heap.size)] [.ref s.heap.size, .ref a])) rfl (rest := []) rfl (hb hbytes d54)
  have c16 : Steps p.tables e below (s₁.setTop (entryFrame m #[.ref a, .ref b, .int (Int32.ofNat o), .int (Int32.ofNat len), .null] 6)) (T15.setTop (mkF m 57 #[.val (.ref a), .val (.ref b), .val (.int (Int32.ofNat o)), .val (.int (Int32.ofNat len)), .val .null, .val (.ref s.heap.size)] [])) := c14.trans (st15 _ (Steps.refl _))
  have ap := apart (Or.inr ⟨_, (wk W (.laysFinal "java/lang/String" "java/lang/String" "value" "[B"))⟩) (Or.inr ⟨_, (wk W (.laysFinal "java/lang/String" "java/lang/String" "coder" "B"))⟩) f1 f2 (t₁ := .array .byte) (t₂ := .byte) (by decide +kernel) (by decide +kernel) (by decide)
  have al := X8.warmed.alike.symm.trans X15.warmed.alike
  have n7 : T11.heap[s.heap.size]? = some N := by rw [q11]; exact n1.1
  exact ⟨T15, none, _, _, _, X15, by simp, rfl, by omega, (fun _ => rfl), ⟨rfl, _, N, bl15, ((Same.refl D _).set _ (by simp)).set _ (by simp), sl15, (Cell.slots_setSlot_ne _ ap).trans sl13, n1.keep al (p15.other hne (p13.other hne n7)), n2, by rw [al.findClass]; exact n3, n4, n5, fun y c h1 h2 => p15.other h1 (p13.other h1 (by rw [q11]; exact n6 y c h2)), by rw [p15.2.2, p13.2.2, q11]; exact z8⟩, fun fs hl => c16.trans (X15.returnOut hexec hret (hb hbytes d57) hl)⟩
end New4
namespace New1
def yN : MethodName := ⟨"java/lang/String", "<init>", "([C)V"⟩
abbrev yB : ByteArray := jdk_42_method_3_code
theorem d0 : decode yB 0 = .ok (.aload_n 0, 1) := by decide +kernel
theorem d1 : decode yB 1 = .ok (.aload_n 1, 1) := by decide +kernel
theorem d2 : decode yB 2 = .ok (.iconst 0, 1) := by decide +kernel
theorem d3 : decode yB 3 = .ok (.aload_n 1, 1) := by decide +kernel
theorem d4 : decode yB 4 = .ok (.arraylength, 1) := by decide +kernel
theorem d5 : decode yB 5 = .ok (.aconst_null, 1) := by decide +kernel
theorem d6 : decode yB 6 = .ok (.invokespecial 27, 3) := by decide +kernel
theorem d9 : decode yB 9 = .ok (.return_, 1) := by decide +kernel
def site : List Cond := [New4.tab] ++ initW "java/lang/String" 27 New4.yN
def tab : Cond := tabOf yN yB 2 none site
def P (a : Addr) (D : Cell) (fV fC : Field) (b : Addr) (A : Cell) (z : Int32) (args : Array Value) (s : State) : Prop := args = #[.ref a, .ref b] ∧ Blank "java/lang/String" a D s ∧ Found "java/lang/String" "value" "[B" fV s ∧ Found "java/lang/String" "coder" "B" fC s ∧ Ch b A s ∧ StaticIs s "java/lang/String" "COMPACT_STRINGS" "Z" (.int z) ∧ ¬ z = 0 ∧ 0 < A.slots.size ∧ A.slots.size ≤ 536870912 ∧ ∀ i, i < A.slots.size → ¬ 255 < cv A i
def E (a : Addr) (D : Cell) (fV fC : Field) (A : Cell) (r : Option Value) (s u : State) : Prop := Got a D fV fC A 0 A.slots.size r s u
/-- new String(chars), not empty, no char above 255: a Latin-1 String of their low bytes -/
theorem law (l : Launch) (a : Addr) (D : Cell) (fV fC : Field) (b : Addr) (A : Cell) (z : Int32) : Law l yN 2 1 3 52 yB 2 none site (P a D fV fC b A z) (E a D fV fC A) [⟨a, fC.slot⟩, ⟨a, fV.slot⟩] 1 A.slots.size := by
  refine Law.of_walk (plainFor_of_name (by decide +kernel)) (by decide +kernel) (by decide +kernel) (by decide) (fun _ _ h => by rw [h.1]; rfl) (fun _ U U' hal hh h => ⟨h.1, h.2.1.mv hal hh, h.2.2.1.al hal, h.2.2.2.1.al hal, h.2.2.2.2.1.mv hal hh, h.2.2.2.2.2.1.there hal hh, h.2.2.2.2.2.2⟩) (fun r U U' V V' h1 hal h2 h => Got.mv r U U' V V' h1 hal h2 h) ?_
  intro p e s m args below meth c s₁ X0 hexec hbytes hml hret hlk hnm hown hh0 W hP
  obtain ⟨rfl, hB, f1, f2, hA, s1, hz, l0, l2, hp⟩ := hP
  have c1 : Steps p.tables e below (s₁.setTop (entryFrame m #[.ref a, .ref b] 2)) (s₁.setTop (mkF m 0 #[.val (.ref a), .val (.ref b)] [])) := entry rfl
  have c2 : Steps p.tables e below (s₁.setTop (entryFrame m #[.ref a, .ref b] 2)) (s₁.setTop (mkF m 6 #[.val (.ref a), .val (.ref b)] [.null, .int (Int32.ofNat A.slots.size), .int 0, .ref b, .ref a])) := c1.trans (by
    refine XS.aloadN X0.here hexec rfl (hb hbytes d0) rfl rfl ?_
    refine XS.aloadN X0.here hexec rfl (hb hbytes d1) rfl rfl ?_
    refine iconstV X0.here hexec rfl 0 (hb hbytes d2) (by decide) ?_
    refine XS.aloadN X0.here hexec rfl (hb hbytes d3) rfl rfl ?_
    refine X0.alen hexec (hA.1.mv X0.warmed.alike hh0) rfl rfl (hb hbytes d4) ?_
    refine XS.aconstNull X0.here hexec rfl (hb hbytes d5) ?_
    exact Steps.refl _)
  obtain ⟨v3, T3, X3, E3, g3⟩ := X0.callN hexec (New4.law l a D fV fC b A z 0 A.slots.size) rfl hown (wks W (initW "java/lang/String" 27 New4.yN)) (W New4.tab (by simp only [site, List.mem_cons, List.mem_append, true_or, or_true])) (W := 0) (Nat.le_of_ble_eq_true rfl) (Nat.le_of_ble_eq_true rfl) (Nat.le_refl _) (by show 0 + A.slots.size ≤ A.slots.size; omega) (g := (mkF m 6 #[.val (.ref a), .val (.ref b)] [.null, .int (Int32.ofNat A.slots.size), .int (Int32.ofNat 0), .ref b, .ref a])) rfl (by rw [hml]; rfl) c2 (argsL := [.ref b, .int (Int32.ofNat 0), .int (Int32.ofNat A.slots.size), .null]) (rest := []) rfl rfl (by show 2 * 0 + 0 ≤ _; decide) (hb hbytes d6) (⟨rfl, hB.mv X0.warmed.alike hh0, f1.al X0.warmed.alike, f2.al X0.warmed.alike, hA.mv X0.warmed.alike hh0, s1.there X0.warmed.alike hh0, hz, l0, by omega, l2, fun i hi => by rw [Nat.zero_add]; exact hp i hi⟩)
  have e0 := Got.mv _ s₁ s _ _ hh0.symm (Vm.Alike.refl _) rfl E3
  obtain rfl := e0.1
  have c4 : Steps p.tables e below (s₁.setTop (entryFrame m #[.ref a, .ref b] 2)) (T3.setTop (mkF m 9 #[.val (.ref a), .val (.ref b)] [])) := g3
  exact ⟨T3, none, _, _, _, X3, by simp, rfl, by omega, (fun _ => rfl), e0, fun fs hl => c4.trans (X3.returnOut hexec hret (hb hbytes d9) hl)⟩
theorem pays {l : Launch} {R : Room} {p : Program} {e : Env} {below : List Frame} {s : State} {sargs : Array Value} {len W : Nat} (a : Addr) (D : Cell) (fV fC : Field) (b : Addr) (A : Cell) (z : Int32) (htab : tab.before sargs s = true) (hfr : 4 ≤ R.frames) (hlo : W + 65 ≤ R.locals) :
    Back l R p e below s sargs yN len W (fun A₁ a₁ => A₁.cells + 1 ≤ R.cells ∧ A₁.slots + A.slots.size ≤ R.slots ∧ P a D fV fC b A z a₁ A₁.U) (fun A₁ _ v₁ B₁ => E a D fV fC A v₁ A₁.U B₁.U ∧ B₁.locs = A₁.locs ++ [⟨a, fC.slot⟩, ⟨a, fV.slot⟩] ∧ B₁.cells = A₁.cells + 1 ∧ B₁.slots = A₁.slots + A.slots.size) :=
  (law l a D fV fC b A z).pays htab hfr (by omega)
end New1
end StrChars
namespace StrChars.Road
open Jvm Sem ClassFile Op Lib Jvm.Stand Jvm.Free Jvm.Free.XT
open Jvm.Lib.Cold (StaticIs)
abbrev ST : String := "java/lang/String"
/-- every table word that New1's law asks, flat -/
abbrev words : List Jvm.Cond := [.code New1.yN New1.yB 2 none, .initialized ST, .methodLink ST 27 New4.yN, .instanceMethod New4.yN,
  .code New4.yN New4.yB 6 none, .fieldLink ST 38 ST "COMPACT_STRINGS" "Z", .laysFinal ST ST "value" "[B", .fieldLink ST 9 ST "value" "[B", .laysFinal ST ST "coder" "B", .fieldLink ST 15 ST "coder" "B",
  .methodLink ST 1 Lib.objectInit, .instanceMethod Lib.objectInit, .code Lib.objectInit ⟨#[0xb1]⟩ 1 none, .methodLink ST 177 Cmp3.yN, .static Cmp3.yN, .methodLink ST 47 CodL.yN, .static CodL.yN,
  .code Cmp3.yN Cmp3.yB 6 (some (.array .byte)), .initialized U16, .arrayClass .byte, .methodLink U16 115 Cmp5.yN, .static Cmp5.yN, .code Cmp5.yN Cmp5.yB 7 (some .int), .code CodL.yN CodL.yB 2 (some .byte)]
theorem tab_of {a : Array Value} {s : State} (h : ∀ w ∈ words, w.before a s = true) : New1.tab.before a s = true := by
  have h5 : Cmp5.tab.before a s = true := unparts (wk h (.code Cmp5.yN Cmp5.yB 7 (some .int))) (wks h (.initialized Cmp5.yN.cls :: Cmp5.site))
  have hc : CodL.tab.before a s = true := unparts (wk h (.code CodL.yN CodL.yB 2 (some .byte))) (wks h (.initialized CodL.yN.cls :: CodL.site))
  have q5 : ∀ w ∈ Cmp5.tab :: words, w.before a s = true := fun w hw => (List.mem_cons.mp hw).elim (fun e => e ▸ h5) (h w)
  have h3 : Cmp3.tab.before a s = true := unparts (wk q5 (.code Cmp3.yN Cmp3.yB 6 (some (.array .byte)))) (wks q5 (.initialized Cmp3.yN.cls :: Cmp3.site))
  have q3 : ∀ w ∈ Cmp3.tab :: CodL.tab :: words, w.before a s = true := fun w hw => (List.mem_cons.mp hw).elim (fun e => e ▸ h3) fun hw => (List.mem_cons.mp hw).elim (fun e => e ▸ hc) (h w)
  have h4 : New4.tab.before a s = true := unparts (wk q3 (.code New4.yN New4.yB 6 none)) (wks q3 (.initialized New4.yN.cls :: New4.site))
  have q4 : ∀ w ∈ New4.tab :: words, w.before a s = true := fun w hw => (List.mem_cons.mp hw).elim (fun e => e ▸ h4) (h w)
  exact unparts (wk q4 (.code New1.yN New1.yB 2 none)) (wks q4 (.initialized New1.yN.cls :: New1.site))
/-- the words ride from the start Z to the walk's own state -/
theorem moved {Z s : State} {a0 args : Array Value} (hZ : Z.Warmed39 s.vm) (hw : ∀ d ∈ words, d.before a0 Z = true) : ∀ d ∈ words, d.before args s = true := fun d hd => by
  have q := hw d hd
  have t : ∀ d ∈ words, d = .arrayClass .byte ∨ (d.onTables && d.keepsFace) = true := by decide +kernel
  rcases t d hd with rfl | t
  · exact RoadKit.mvA hZ q
  · exact RoadKit.mv hZ q t
/-- WHAT COMES BACK, over the tables of the start Z: h the heap at the call, h' behind it -/
def Q (Z : State) (x : Addr) (A : Cell) (h : Heap) (v : Option Value) (h' : Heap) (L : List Loc) : Prop := v = none ∧ (∀ y ∈ L, y.base = x) ∧ RoadKit.Keep h h' [x] ∧ h'.size = h.size + 1 ∧ RoadKit.Exa Z h' x ST ∧ RoadKit.Fld Z h' x ST "value" "[B" (.ref h.size) ∧ RoadKit.Fld Z h' x ST "coder" "B" (.int 0) ∧
  (∃ V : Cell, RoadKit.Arr Z h' h.size V .byte ∧ V.vm = .none ∧ Z.vm.findClass "[B" = some V.cls ∧ V.slots.size = A.slots.size ∧ ∀ j, j < A.slots.size → V.slots[j]? = some (.int (lo8 (cv A j)))) ∧
  ∀ (O n d : String) (w : Value), RoadKit.Fld Z h x O n d w → RoadKit.slotOf Z O n d ≠ RoadKit.slotOf Z ST "value" "[B" → RoadKit.slotOf Z O n d ≠ RoadKit.slotOf Z ST "coder" "B" → RoadKit.Fld Z h' x O n d w
/-- **new String(chars) AT A CALL, IN THE ROAD'S FORM**: for specialBack behind newO: x the fresh String, b the char[] with the cell A -/
theorem back {p : Program} {l : Launch} {e : Env} {R : Room} {s : State} {args : Array Value} {below : List Frame} {len W : Nat} {Z : State} {a0 : Array Value} {h : Heap} (hZ : Z.Warmed39 s.vm) (hw : ∀ d ∈ words, d.before a0 Z = true) {kI : Nat} (wi : (Jvm.Cond.instantiable ST kI).before a0 Z = true)
    {x b : Addr} {A : Cell} {z : Int32} {v0 c0 : Value} (E : RoadKit.Exa Z h x ST) (V : RoadKit.Fld Z h x ST "value" "[B" v0) (C : RoadKit.Fld Z h x ST "coder" "B" c0) (K : RoadKit.Arr Z h b A .char) (hty : Typed .char A) (S : RoadKit.Sta Z h ST "COMPACT_STRINGS" "Z" (.int z)) (hz : ¬ z = 0)
    (l0 : 0 < A.slots.size) (l2 : A.slots.size ≤ 536870912) (hp : ∀ i, i < A.slots.size → ¬ 255 < cv A i) (hfr : 4 ≤ R.frames) (hlo : W + 65 ≤ R.locals) :
    Back l R p e below s args New1.yN len W (fun P a => a = #[.ref x, .ref b] ∧ P.U.heap = h ∧ P.cells + 1 ≤ R.cells ∧ P.slots + A.slots.size ≤ R.slots)
      (fun P _ v B => ∃ L, Q Z x A h v B.U.heap L ∧ B.locs = P.locs ++ L ∧ B.cells = P.cells + 1 ∧ B.slots = P.slots + A.slots.size) := by
  intro m meth c P g ig mk a X hg hsize hdg hW hn hp'
  obtain ⟨rfl, rfl, r1, r2⟩ := hp'
  have al : Z.vm.Alike P.U.vm := hZ.alike.trans X.warmed.alike
  obtain ⟨D, cfV, kV, iV, fV, hD, gV, stV, knV, obV, asV, slV⟩ := id V
  obtain ⟨D', cfC, kC, iC, fC, hD', gC, stC, -, -, asC, slC⟩ := id C
  cases hD.symm.trans hD'
  obtain ⟨D2, kD, e1, e2, e3, e4, e5⟩ := id E
  cases hD.symm.trans e1
  obtain ⟨c2, k2, i1, i2, i3, -⟩ := Cond.instantiable_spec wi
  cases e2.symm.trans i1
  cases e3.symm.trans i2
  obtain ⟨kU, u1, u2⟩ := al.2.2 _ _ e3
  have hB : Blank ST x D P.U := ⟨hD, ⟨knV, fun q hq => by rw [hq] at obV; cases obV⟩, by rw [al.findClass]; exact e2, kU, u1, by rw [u2]; exact i3, by rw [u2]; exact e5 i3⟩
  have F1 : Found ST "value" "[B" fV P.U := ⟨SBG.found_only al ⟨cfV, kV, iV, gV⟩, stV⟩
  have F2 : Found ST "coder" "B" fC P.U := ⟨SBG.found_only al ⟨cfC, kC, iC, gC⟩, stC⟩
  have hA : Ch b A P.U := ⟨⟨K.1, State.isArrayOf_alike al K.2.1, K.2.2, by omega⟩, hty⟩
  have hS : StaticIs P.U ST "COMPACT_STRINGS" "Z" (.int z) := by
    obtain ⟨cfS, iS, kS, fS, st, cS, t1, t2, t3, t4, t5, t6, t7⟩ := S
    exact StaticIs.there (s := { Z with heap := P.U.heap }) ⟨cfS, iS, kS, fS, st, cS, t1, t2, t3, t4, t5, (fun q => by rw [q] at t6; cases t6), t7⟩ al rfl
  obtain ⟨v, B, X', ⟨⟨hv, E', V', q1, q2, q3, q4, q5, q6, q7, q8, q9, q10, q11⟩, hl, hc, hs⟩, st⟩ := New1.pays x D fV fC b A z (tab_of (moved hZ hw)) hfr hlo m meth c P g ig mk _ X hg hsize hdg hW hn ⟨r1, r2, rfl, hB, F1, F2, hA, hS, hz, l0, l2, hp⟩
  have al' : Z.vm.Alike B.U.vm := hZ.alike.trans X'.warmed.alike
  have hsz : E'.slots.size = D.slots.size := by
    obtain ⟨-, -, -, kB, w1, w2, w3⟩ := q1
    obtain ⟨kB', y1, y2⟩ := al'.2.2 _ _ e3
    rw [q2.2.1] at w1
    cases w1.symm.trans y1
    rw [w3, e5 i3, y2]
  refine ⟨v, B, X', ⟨_, ⟨hv, ?_, ⟨by omega, fun y cy hy hn' => q10 y cy (by simpa using hn') hy, fun y cy hy => ?_⟩, q11, ⟨E', _, q1.1, by rw [q2.2.1]; exact e2, by rw [q2.2.1]; exact e3, by rw [q2.1]; exact obV, fun _ => by rw [hsz]; exact e5 i3⟩,
    ⟨E', cfV, kV, iV, fV, q1.1, gV, stV, by rw [q2.1]; exact knV, by rw [q2.1]; exact obV, by rw [q2.2.1]; exact asV, q3⟩, ⟨E', cfC, kC, iC, fC, q1.1, gC, stC, by rw [q2.1]; exact knV, by rw [q2.1]; exact obV, by rw [q2.2.1]; exact asC, q4⟩,
    ⟨V', ⟨q5.1, State.isArrayOf_alike al'.symm q5.2.1, q5.2.2.1⟩, q6, by rw [← al'.findClass]; exact q7, q8, fun j hj => by have := q9 j hj; rwa [Nat.zero_add] at this⟩, fun O n d w F n1 n2 => ?_⟩, hl, hc, hs⟩, st⟩
  · intro y hy
    simp only [List.mem_cons, List.not_mem_nil, or_false] at hy
    rcases hy with rfl | rfl <;> rfl
  · by_cases q : y = x
    · subst q
      cases hD.symm.trans hy
      exact ⟨E', q1.1, q2.2.1, q2.1, hsz⟩
    · exact ⟨cy, q10 y cy q hy, rfl, rfl, rfl⟩
  · obtain ⟨D3, cf, k, i, f, g1, g2, g3, g4, g5, g6, g7⟩ := F
    cases hD.symm.trans g1
    simp only [RoadKit.slotOf, g2, gV, gC, Option.map_some, Option.getD_some] at n1 n2
    exact ⟨E', cf, k, i, f, q1.1, g2, g3, by rw [q2.1]; exact g4, by rw [q2.1]; exact g5, by rw [q2.2.1]; exact g6, by rw [q2.2.2 f.slot (by simp [n1, n2])]; exact g7⟩
end StrChars.Road
namespace StrChars.Road
open Jvm Sem ClassFile Op Lib Jvm.Stand Jvm.Free Jvm.Free.XT
/-- WHAT COMES BACK, the byte[] as a list of values -/
def QA (Z : State) (x : Addr) (zn : Int32) (cs : List Int32) (h : Heap) (v : Option Value) (h' : Heap) (L : List Loc) : Prop := v = none ∧ (∀ y ∈ L, y.base = x) ∧ RoadKit.Keep h h' [x] ∧ h'.size = h.size + 1 ∧ RoadKit.Exa Z h' x ST ∧ RoadKit.Fld Z h' x ST "value" "[B" (.ref h.size) ∧ RoadKit.Fld Z h' x ST "coder" "B" (.int 0) ∧
  (∃ kb, Z.vm.findClass "[B" = some kb ∧ RoadKit.Arv Z h' h.size kb .byte zn (cs.map fun c => .int (lo8 c)) (.int 0)) ∧
  ∀ (O n d : String) (w : Value), RoadKit.Fld Z h x O n d w → RoadKit.slotOf Z O n d ≠ RoadKit.slotOf Z ST "value" "[B" → RoadKit.slotOf Z O n d ≠ RoadKit.slotOf Z ST "coder" "B" → RoadKit.Fld Z h' x O n d w
/-- **new String(chars) AT A CALL, THE ARRAYS AS LISTS**: the char[] at b holds cs, not empty, no char above 255 -/
theorem backArv {p : Program} {l : Launch} {e : Env} {R : Room} {s : State} {args : Array Value} {below : List Frame} {len W : Nat} {Z : State} {a0 : Array Value} {h : Heap} (hZ : Z.Warmed39 s.vm) (hw : ∀ d ∈ words, d.before a0 Z = true) {kI : Nat} (wi : (Jvm.Cond.instantiable ST kI).before a0 Z = true)
    {x b : Addr} {k : ClassId} {zn z : Int32} {cs : List Int32} {dv v0 c0 : Value} (E : RoadKit.Exa Z h x ST) (V : RoadKit.Fld Z h x ST "value" "[B" v0) (C : RoadKit.Fld Z h x ST "coder" "B" c0) (K : RoadKit.Arv Z h b k .char zn (cs.map Value.int) dv) (S : RoadKit.Sta Z h ST "COMPACT_STRINGS" "Z" (.int z)) (hz : ¬ z = 0)
    (hlen : zn.toNatClampNeg = cs.length) (h0 : 0 < cs.length) (hbig : cs.length ≤ 536870912) (hall : ∀ c ∈ cs, ¬ 255 < c) (hfr : 4 ≤ R.frames) (hlo : W + 65 ≤ R.locals) :
    Back l R p e below s args New1.yN len W (fun P a => a = #[.ref x, .ref b] ∧ P.U.heap = h ∧ P.cells + 1 ≤ R.cells ∧ P.slots + cs.length ≤ R.slots)
      (fun P _ v B => ∃ L, QA Z x zn cs h v B.U.heap L ∧ B.locs = P.locs ++ L ∧ B.cells = P.cells + 1 ∧ B.slots = P.slots + cs.length) := by
  obtain ⟨A, K1, K2, K3, K4, K5, K6⟩ := K
  have e : A.slots.size = cs.length := K3.trans hlen
  have hat : ∀ (i : Nat) (hi : i < cs.length), A.slots[i]? = some (.int cs[i]) := fun i hi => by rw [K5 i (by omega)]; simp [List.getD_eq_getElem?_getD, hi]
  have hcv : ∀ (i : Nat) (hi : i < cs.length), cv A i = cs[i] := fun i hi => by unfold cv; rw [hat i hi]
  have hty : Typed .char A := fun i v hv => by
    have hi : i < A.slots.size := (Array.getElem?_eq_some_iff.mp hv).1
    have q := K5 i hi
    rw [hv] at q
    rw [Option.some.inj q]
    exact K6 i hi
  refine Back.mono (back hZ hw wi E V C K1 hty S hz (by omega) (by omega) (fun i hi => by rw [hcv i (by omega)]; exact hall _ (List.getElem_mem _)) hfr hlo) (fun P a hp => ⟨hp.1, hp.2.1, hp.2.2.1, by rw [e]; exact hp.2.2.2⟩) (fun P a v B hp hq => ?_)
  obtain ⟨L, ⟨q1, q2, q3, q4, q5, q6, q7, ⟨V', v1, v2, v3, v4, v5⟩, q9⟩, hl, hc, hs⟩ := hq
  refine ⟨L, ⟨q1, q2, q3, q4, q5, q6, q7, ⟨V'.cls, v3, V', v1, rfl, by rw [v4, e, hlen], K4, fun i hi => ?_, fun i hi => ?_⟩, q9⟩, hl, hc, by rw [hs, e]⟩
  · have hi' : i < cs.length := by omega
    rw [v5 i (by omega), hcv i hi']; simp [List.getD_eq_getElem?_getD, hi']
  · have hi' : i < cs.length := by omega
    simp only [List.getD_eq_getElem?_getD, List.getElem?_map, List.getElem?_eq_getElem hi', Option.map_some, Option.getD_some]
    exact fits_lo8 _
end StrChars.Road
namespace StrChars.Road
open Jvm Sem ClassFile Op Lib Jvm.Stand Jvm.Free Jvm.Free.XT
/-- WHAT COMES BACK, in the writer's own shape -/
def QV (Z : State) (x : Addr) (N : Int32) (bs : List Int32) (h : Heap) (n0 : Nat) (v : Option Value) (h' : Heap) (L : List Loc) : Prop := v = none ∧ RoadKit.Fr n0 L ∧ RoadKit.Keep h h' [x] ∧ RoadKit.Exa Z h' x ST ∧ RoadKit.Fld Z h' x ST "coder" "B" (.int 0) ∧
  ∃ (t : Addr) (kb : ClassId), n0 ≤ t ∧ h.size ≤ t ∧ ¬ t = x ∧ RoadKit.Fld Z h' x ST "value" "[B" (.ref t) ∧ RoadKit.Arv Z h' t kb .byte N (bs.map Value.int) (.int 0)
/-- **new String(chars) AT A CALL, FOR THE WRITER**: a char[] of n known ints, each 0 to 255 -/
theorem backV {p : Program} {l : Launch} {e : Env} {R : Room} {s : State} {args : Array Value} {below : List Frame} {len W : Nat} {Z : State} {a0 : Array Value} {h : Heap} (hZ : Z.Warmed39 s.vm) (hw : ∀ d ∈ words, d.before a0 Z = true) {kI : Nat} (wi : (Jvm.Cond.instantiable ST kI).before a0 Z = true)
    {x b : Addr} {kC : ClassId} {cs bs : List Int32} {d v0 c0 : Value} {z N : Int32} {n n0 : Nat} (hx0 : n0 ≤ x) (hh0 : n0 ≤ h.size) (E : RoadKit.Exa Z h x ST) (V : RoadKit.Fld Z h x ST "value" "[B" v0) (C : RoadKit.Fld Z h x ST "coder" "B" c0) (K : RoadKit.Arv Z h b kC .char N (cs.map Value.int) d) (S : RoadKit.Sta Z h ST "COMPACT_STRINGS" "Z" (.int z)) (hz : ¬ z = 0)
    (hn : cs.length = n) (hN : N = Int32.ofNat n) (l0 : 0 < n) (l2 : n ≤ 4000) (hp : ∀ c ∈ cs, ¬ c < 0 ∧ ¬ (255 : Int32) < c) (hb : bs = cs.map (fun c => c.toInt8.toInt32)) (hfr : 4 ≤ R.frames) (hlo : W + 65 ≤ R.locals) :
    Back l R p e below s args (⟨"java/lang/String", "<init>", "([C)V"⟩ : MethodName) len W (fun P a => a = #[.ref x, .ref b] ∧ P.U.heap = h ∧ P.cells + 1 ≤ R.cells ∧ P.slots + n ≤ R.slots)
      (fun P _ v B => ∃ L, QV Z x N bs h n0 v B.U.heap L ∧ B.locs = P.locs ++ L ∧ B.cells = P.cells + 1 ∧ B.slots = P.slots + n) := by
  subst hn hN hb
  refine Back.mono (backArv hZ hw wi E V C K S hz (n32 (by omega)) l0 (by omega) (fun c hc => (hp c hc).2) hfr hlo) (fun P a hp => hp) (fun P a v B hp hq => ?_)
  obtain ⟨L, ⟨q1, q2, q3, q4, q5, q6, q7, ⟨kb, v1, v2⟩, q9⟩, hl, hc, hs⟩ := hq
  exact ⟨L, ⟨q1, fun y hy => by rw [q2 y hy]; exact hx0, q3, q5, q7, h.size, kb, hh0, Nat.le_refl _, Nat.ne_of_gt E.lt, q6, by rw [List.map_map]; exact v2⟩, hl, hc, hs⟩
end StrChars.Road
end Jvm.Pilot.@@N@@
namespace Jvm.Pilot.@@N@@
open Jvm Jvm.ClassFile Sem Op Lib Jvm.Free Jvm.Stand Jvm.LawKit Jvm.RoadKit Bundle Jvm.Pilot.@@N@@.Jvm.D
namespace Wk
open Jvm Jvm.ClassFile Sem Op Lib Jvm.Free Jvm.Stand Jvm.LawKit Jvm.RoadKit
/-- the fixed part of a walk: program, environment, the state at the invocation, the method, its arguments, the frames below, the method's record, its code -/
abbrev Wd : Type := Program × Env × State × MethodId × Array Value × List Frame × Method × Code
abbrev Wd.p (W : Wd) : Program := W.1
abbrev Wd.e (W : Wd) : Env := W.2.1
abbrev Wd.s (W : Wd) : State := W.2.2.1
abbrev Wd.m (W : Wd) : MethodId := W.2.2.2.1
abbrev Wd.a (W : Wd) : Array Value := W.2.2.2.2.1
abbrev Wd.b (W : Wd) : List Frame := W.2.2.2.2.2.1
abbrev Wd.t (W : Wd) : Method := W.2.2.2.2.2.2.1
abbrev Wd.c (W : Wd) : Code := W.2.2.2.2.2.2.2
abbrev Post : Type := Option Value → Heap → Prop
def Go (R : Room) (Z : State) (W : Wd) (Q : Post) (A : State) : Prop :=
  ∃ s₂ o, Steps W.p.tables W.e W.b A s₂ ∧ s₂.status = .running ∧ Ended s₂ W.b o ∧ ∃ v L, o = .returned v ∧ (Q v s₂.heap ∧ Ext Z.heap s₂.heap ∧ Fr Z.heap.size L) ∧ FrameEnd W.s o s₂ L R.cells R.slots
abbrev Std (l : Launch) (R : Room) (W : Wd) (T : State) (locs : List Loc) (k n : Nat) : Prop := Stand W.p l W.e R W.s W.m W.a W.b W.t W.c T locs k n
def Run (l : Launch) (R : Room) (Z : State) (W : Wd) (Q : Post) (h : Heap) (k n : Nat) (f : JFrame) : Prop :=
  ∀ T locs, Std l R W T locs k n → T.heap = h → Fr Z.heap.size locs → Ext Z.heap h → Go R Z W Q (T.setTop f)
def Cx (Z : State) (W : Wd) (own nm : String) (code : ByteArray) (maxL : Nat) (ret : Option FieldType) : Prop :=
  W.p.tables.exec = Jvm.exec ∧ W.c.code = code ∧ W.c.maxLocals = maxL ∧ W.s.vm.findClass own = some W.m.cls ∧ Z.Warmed39 W.s.vm ∧ W.t.sig.returnType = ret ∧ W.t.name = nm ∧ W.t.locks = false
section Kit
variable {l : Launch} {R : Room} {Z : State} {W : Wd} {Q : Post} {h : Heap} {k n : Nat} {own nm : String} {code : ByteArray} {maxL : Nat} {ret : Option FieldType} {a0 : Array Value} {pc pc' : Nat} {Ls : Array Slot} {st : List Value}
theorem Cx.hx (C : Cx Z W own nm code maxL ret) : W.p.tables.exec = Jvm.exec := C.1
theorem Cx.hb (C : Cx Z W own nm code maxL ret) {pc : Nat} {r : Except ClassFile.DecodeError (ClassFile.Instr × Nat)} (h2 : decode code pc = r) : decode W.c.code pc = r := C.2.1 ▸ h2
theorem Cx.ow (C : Cx Z W own nm code maxL ret) : W.s.vm.findClass own = some W.m.cls := C.2.2.2.1
theorem Cx.hZ (C : Cx Z W own nm code maxL ret) : Z.Warmed39 W.s.vm := C.2.2.2.2.1
theorem Cx.ml (C : Cx Z W own nm code maxL ret) : W.c.maxLocals = maxL := C.2.2.1
theorem Cx.rt (C : Cx Z W own nm code maxL ret) : W.t.sig.returnType = ret := C.2.2.2.2.2.1
theorem Cx.nme (C : Cx Z W own nm code maxL ret) : W.t.name = nm := C.2.2.2.2.2.2.1
theorem Cx.lk (C : Cx Z W own nm code maxL ret) : W.t.locks = false := C.2.2.2.2.2.2.2
theorem old_of (O : Ext Z.heap h) : Old Z Z.heap.size h := ⟨rfl, O⟩
theorem Go.step {A B : State} (f : ∀ t, Steps W.p.tables W.e W.b B t → Steps W.p.tables W.e W.b A t) (g : Go R Z W Q B) : Go R Z W Q A := by
  obtain ⟨t, o, h1, r⟩ := g
  exact ⟨t, o, f t h1, r⟩
theorem Run.one {g g' : JFrame} (f : ∀ T locs, Std l R W T locs k n → T.heap = h → ∀ t, Steps W.p.tables W.e W.b (T.setTop g') t → Steps W.p.tables W.e W.b (T.setTop g) t) (r : Run l R Z W Q h k n g') : Run l R Z W Q h k n g :=
  fun T locs X eT N O => Go.step (f T locs X eT) (r T locs X eT N O)
theorem Run.old {f : JFrame} (r : Ext Z.heap h → Run l R Z W Q h k n f) : Run l R Z W Q h k n f := fun T locs X eT N O => r O T locs X eT N O
theorem iloadN (C : Cx Z W own nm code maxL ret) {i : Fin 4} {v : Int32} (hd : decode code pc = .ok (.iload_n i, 1)) (hl : Ls[i.val]? = some (.val (.int v))) (hp : pc + 1 = pc')
    (r : Run l R Z W Q h k n (mkF W.m pc' Ls (.int v :: st))) : Run l R Z W Q h k n (mkF W.m pc Ls (st)) := by
  subst hp
  exact Run.one (fun T locs X _ t g => XS.iloadN X.here C.hx rfl (C.hb hd) hl g) r
theorem iload (C : Cx Z W own nm code maxL ret) {i : Nat} {v : Int32} (hd : decode code pc = .ok (.iload i, 2)) (hl : Ls[i]? = some (.val (.int v))) (hp : pc + 2 = pc')
    (r : Run l R Z W Q h k n (mkF W.m pc' Ls (.int v :: st))) : Run l R Z W Q h k n (mkF W.m pc Ls (st)) := by
  subst hp
  exact Run.one (fun T locs X _ t g => XS.iload X.here C.hx rfl (C.hb hd) hl g) r
theorem aloadN (C : Cx Z W own nm code maxL ret) {i : Fin 4} {v : Value} (hd : decode code pc = .ok (.aload_n i, 1)) (hl : Ls[i.val]? = some (.val v)) (hv : v.isRef = true) (hp : pc + 1 = pc')
    (r : Run l R Z W Q h k n (mkF W.m pc' Ls (v :: st))) : Run l R Z W Q h k n (mkF W.m pc Ls (st)) := by
  subst hp
  exact Run.one (fun T locs X _ t g => XS.aloadN X.here C.hx rfl (C.hb hd) hl hv g) r
theorem aload (C : Cx Z W own nm code maxL ret) {i : Nat} {v : Value} (hd : decode code pc = .ok (.aload i, 2)) (hl : Ls[i]? = some (.val v)) (hv : v.isRef = true) (hp : pc + 2 = pc')
    (r : Run l R Z W Q h k n (mkF W.m pc' Ls (v :: st))) : Run l R Z W Q h k n (mkF W.m pc Ls (st)) := by
  subst hp
  exact Run.one (fun T locs X _ t g => XS.aload X.here C.hx rfl (C.hb hd) hl hv g) r
theorem istoreN (C : Cx Z W own nm code maxL ret) {i : Fin 4} {v : Int32} {Ls' : Array Slot} (hd : decode code pc = .ok (.istore_n i, 1)) (hl : storeLocals Ls i.val (.int v) = some Ls') (hp : pc + 1 = pc')
    (r : Run l R Z W Q h k n (mkF W.m pc' Ls' (st))) : Run l R Z W Q h k n (mkF W.m pc Ls (.int v :: st)) := by
  subst hp
  exact Run.one (fun T locs X _ t g => XS.istoreN X.here C.hx rfl (C.hb hd) rfl hl g) r
theorem istore (C : Cx Z W own nm code maxL ret) {i : Nat} {v : Int32} {Ls' : Array Slot} (hd : decode code pc = .ok (.istore i, 2)) (hl : storeLocals Ls i (.int v) = some Ls') (hp : pc + 2 = pc')
    (r : Run l R Z W Q h k n (mkF W.m pc' Ls' (st))) : Run l R Z W Q h k n (mkF W.m pc Ls (.int v :: st)) := by
  subst hp
  exact Run.one (fun T locs X _ t g => XS.istore X.here C.hx rfl (C.hb hd) rfl hl g) r
theorem astoreN (C : Cx Z W own nm code maxL ret) {i : Fin 4} {v : Value} {Ls' : Array Slot} (hd : decode code pc = .ok (.astore_n i, 1)) (hv : v.isRef = true) (hl : storeLocals Ls i.val v = some Ls') (hp : pc + 1 = pc')
    (r : Run l R Z W Q h k n (mkF W.m pc' Ls' (st))) : Run l R Z W Q h k n (mkF W.m pc Ls (v :: st)) := by
  subst hp
  exact Run.one (fun T locs X _ t g => XS.astoreN X.here C.hx rfl (C.hb hd) rfl hv hl g) r
theorem astore (C : Cx Z W own nm code maxL ret) {i : Nat} {v : Value} {Ls' : Array Slot} (hd : decode code pc = .ok (.astore i, 2)) (hv : v.isRef = true) (hl : storeLocals Ls i v = some Ls') (hp : pc + 2 = pc')
    (r : Run l R Z W Q h k n (mkF W.m pc' Ls' (st))) : Run l R Z W Q h k n (mkF W.m pc Ls (v :: st)) := by
  subst hp
  exact Run.one (fun T locs X _ t g => XS.astore X.here C.hx rfl (C.hb hd) rfl hv hl g) r
theorem iconst (C : Cx Z W own nm code maxL ret) {i : Int} {v : Int32} (hd : decode code pc = .ok (.iconst i, 1)) (hv : Int32.ofInt i = v) (hp : pc + 1 = pc')
    (r : Run l R Z W Q h k n (mkF W.m pc' Ls (.int v :: st))) : Run l R Z W Q h k n (mkF W.m pc Ls (st)) := by
  subst hp
  exact Run.one (fun T locs X _ t g => XS.iconst X.here C.hx rfl (C.hb hd) (hv ▸ g)) r
theorem bipush (C : Cx Z W own nm code maxL ret) {i : Int} {v : Int32} (hd : decode code pc = .ok (.bipush i, 2)) (hv : (Int8.ofInt i).toInt32 = v) (hp : pc + 2 = pc')
    (r : Run l R Z W Q h k n (mkF W.m pc' Ls (.int v :: st))) : Run l R Z W Q h k n (mkF W.m pc Ls (st)) := by
  subst hp
  exact Run.one (fun T locs X _ t g => XS.bipush X.here C.hx rfl (C.hb hd) (hv ▸ g)) r
theorem sipush (C : Cx Z W own nm code maxL ret) {i : Int} {v : Int32} (hd : decode code pc = .ok (.sipush i, 3)) (hv : (Int16.ofInt i).toInt32 = v) (hp : pc + 3 = pc')
    (r : Run l R Z W Q h k n (mkF W.m pc' Ls (.int v :: st))) : Run l R Z W Q h k n (mkF W.m pc Ls (st)) := by
  subst hp
  exact Run.one (fun T locs X _ t g => XS.sipush X.here C.hx rfl (C.hb hd) (hv ▸ g)) r
theorem aconstNull (C : Cx Z W own nm code maxL ret)  (hd : decode code pc = .ok (.aconst_null, 1)) (hp : pc + 1 = pc')
    (r : Run l R Z W Q h k n (mkF W.m pc' Ls (.null :: st))) : Run l R Z W Q h k n (mkF W.m pc Ls (st)) := by
  subst hp
  exact Run.one (fun T locs X _ t g => XS.aconstNull X.here C.hx rfl (C.hb hd) g) r
theorem isub (C : Cx Z W own nm code maxL ret) {x y v : Int32} (hd : decode code pc = .ok (.isub, 1)) (hv : x - y = v) (hp : pc + 1 = pc')
    (r : Run l R Z W Q h k n (mkF W.m pc' Ls (.int v :: st))) : Run l R Z W Q h k n (mkF W.m pc Ls (.int y :: .int x :: st)) := by
  subst hp
  exact Run.one (fun T locs X _ t g => XS.isub X.here C.hx rfl (C.hb hd) rfl (hv ▸ g)) r
theorem iand (C : Cx Z W own nm code maxL ret) {x y v : Int32} (hd : decode code pc = .ok (.iand, 1)) (hv : x &&& y = v) (hp : pc + 1 = pc')
    (r : Run l R Z W Q h k n (mkF W.m pc' Ls (.int v :: st))) : Run l R Z W Q h k n (mkF W.m pc Ls (.int y :: .int x :: st)) := by
  subst hp
  exact Run.one (fun T locs X _ t g => XS.iand X.here C.hx rfl (C.hb hd) rfl (hv ▸ g)) r
theorem ior (C : Cx Z W own nm code maxL ret) {x y v : Int32} (hd : decode code pc = .ok (.ior, 1)) (hv : x ||| y = v) (hp : pc + 1 = pc')
    (r : Run l R Z W Q h k n (mkF W.m pc' Ls (.int v :: st))) : Run l R Z W Q h k n (mkF W.m pc Ls (.int y :: .int x :: st)) := by
  subst hp
  exact Run.one (fun T locs X _ t g => XS.ior X.here C.hx rfl (C.hb hd) rfl (hv ▸ g)) r
theorem irem (C : Cx Z W own nm code maxL ret) {x y v : Int32} (hd : decode code pc = .ok (.irem, 1)) (hy : ¬ y = 0) (hv : x % y = v) (hp : pc + 1 = pc')
    (r : Run l R Z W Q h k n (mkF W.m pc' Ls (.int v :: st))) : Run l R Z W Q h k n (mkF W.m pc Ls (.int y :: .int x :: st)) := by
  subst hp
  exact Run.one (fun T locs X _ t g => iremM X C.hx rfl (C.hb hd) rfl hy (hv ▸ g)) r
theorem ishl (C : Cx Z W own nm code maxL ret) {x y v : Int32} (hd : decode code pc = .ok (.ishl, 1)) (hv : x <<< (y &&& 31) = v) (hp : pc + 1 = pc')
    (r : Run l R Z W Q h k n (mkF W.m pc' Ls (.int v :: st))) : Run l R Z W Q h k n (mkF W.m pc Ls (.int y :: .int x :: st)) := by
  subst hp
  exact Run.one (fun T locs X _ t g => XS.ishl X.here C.hx rfl (C.hb hd) rfl (hv ▸ g)) r
theorem ishr (C : Cx Z W own nm code maxL ret) {x y v : Int32} (hd : decode code pc = .ok (.ishr, 1)) (hv : x >>> (y &&& 31) = v) (hp : pc + 1 = pc')
    (r : Run l R Z W Q h k n (mkF W.m pc' Ls (.int v :: st))) : Run l R Z W Q h k n (mkF W.m pc Ls (.int y :: .int x :: st)) := by
  subst hp
  exact Run.one (fun T locs X _ t g => XS.ishr X.here C.hx rfl (C.hb hd) rfl (hv ▸ g)) r
theorem iushr (C : Cx Z W own nm code maxL ret) {x y v : Int32} (hd : decode code pc = .ok (.iushr, 1)) (hv : (x.toUInt32 >>> (y &&& 31).toUInt32).toInt32 = v) (hp : pc + 1 = pc')
    (r : Run l R Z W Q h k n (mkF W.m pc' Ls (.int v :: st))) : Run l R Z W Q h k n (mkF W.m pc Ls (.int y :: .int x :: st)) := by
  subst hp
  exact Run.one (fun T locs X _ t g => XS.iushr X.here C.hx rfl (C.hb hd) rfl (hv ▸ g)) r
theorem i2b (C : Cx Z W own nm code maxL ret) {x : Int32} {v : Int32} (hd : decode code pc = .ok (.i2b, 1)) (hv : x.toInt8.toInt32 = v) (hp : pc + 1 = pc')
    (r : Run l R Z W Q h k n (mkF W.m pc' Ls (.int v :: st))) : Run l R Z W Q h k n (mkF W.m pc Ls (.int x :: st)) := by
  subst hp
  exact Run.one (fun T locs X _ t g => XS.i2b X.here C.hx rfl (C.hb hd) rfl (hv ▸ g)) r
theorem i2c (C : Cx Z W own nm code maxL ret) {x : Int32} {v : Int32} (hd : decode code pc = .ok (.i2c, 1)) (hv : x.toUInt32.toUInt16.toUInt32.toInt32 = v) (hp : pc + 1 = pc')
    (r : Run l R Z W Q h k n (mkF W.m pc' Ls (.int v :: st))) : Run l R Z W Q h k n (mkF W.m pc Ls (.int x :: st)) := by
  subst hp
  exact Run.one (fun T locs X _ t g => XS.i2c X.here C.hx rfl (C.hb hd) rfl (hv ▸ g)) r
theorem dup (C : Cx Z W own nm code maxL ret) {v : Value} (hd : decode code pc = .ok (.dup, 1)) (hc : v.category = 1) (hp : pc + 1 = pc')
    (r : Run l R Z W Q h k n (mkF W.m pc' Ls (v :: v :: st))) : Run l R Z W Q h k n (mkF W.m pc Ls (v :: st)) := by
  subst hp
  exact Run.one (fun T locs X _ t g => XS.dup X.here C.hx rfl (C.hb hd) rfl hc g) r
theorem pop (C : Cx Z W own nm code maxL ret) {v : Value} (hd : decode code pc = .ok (.pop, 1)) (hc : v.category = 1) (hp : pc + 1 = pc')
    (r : Run l R Z W Q h k n (mkF W.m pc' Ls (st))) : Run l R Z W Q h k n (mkF W.m pc Ls (v :: st)) := by
  subst hp
  exact Run.one (fun T locs X _ t g => XS.pop X.here C.hx rfl (C.hb hd) rfl hc g) r
theorem iinc (C : Cx Z W own nm code maxL ret) {i : Nat} {d : Int} {x v : Int32} {Ls' : Array Slot} (hd : decode code pc = .ok (.iinc i d, 3)) (hl : Ls[i]? = some (.val (.int x))) (hv : x + Int32.ofInt d = v) (hl' : storeLocals Ls i (.int v) = some Ls') (hp : pc + 3 = pc')
    (r : Run l R Z W Q h k n (mkF W.m pc' Ls' st)) : Run l R Z W Q h k n (mkF W.m pc Ls st) := by
  subst hp hv
  exact Run.one (fun T locs X _ t g => XS.iinc X.here C.hx rfl (C.hb hd) hl hl' g) r
theorem goto (C : Cx Z W own nm code maxL ret) {o : Int} (hd : decode code pc = .ok (.goto o, 3)) (ho : 0 ≤ (pc : Int) + o) (hp : ((pc : Int) + o).toNat = pc')
    (r : Run l R Z W Q h k n (mkF W.m pc' Ls st)) : Run l R Z W Q h k n (mkF W.m pc Ls st) :=
  Run.one (fun T locs X _ t g => XS.goto X.here C.hx rfl rfl (C.hb hd) ho hp g) r
theorem icmp_eq (C : Cx Z W own nm code maxL ret) {x y : Int32} {o : Int} {pcT : Nat} (hd : decode code pc = .ok (.if_icmp .eq o, 3)) (ho : 0 ≤ (pc : Int) + o) (hp : ((pc : Int) + o).toNat = pcT) (hp' : pc + 3 = pc')
    (rt : x = y → Run l R Z W Q h k n (mkF W.m pcT Ls st)) (rf : ¬ x = y → Run l R Z W Q h k n (mkF W.m pc' Ls st)) : Run l R Z W Q h k n (mkF W.m pc Ls (.int y :: .int x :: st)) := by
  subst hp'
  by_cases q : x = y
  · exact Run.one (fun T locs X _ t g => XS.icmpYes X.here C.hx rfl rfl (C.hb hd) rfl (teq q).1 ho hp g) (rt q)
  · exact Run.one (fun T locs X _ t g => XS.icmpNo X.here C.hx rfl (C.hb hd) rfl (feq q).1 g) (rf q)
theorem if_eq (C : Cx Z W own nm code maxL ret) {x : Int32} {o : Int} {pcT : Nat} (hd : decode code pc = .ok (.ifCond .eq o, 3)) (ho : 0 ≤ (pc : Int) + o) (hp : ((pc : Int) + o).toNat = pcT) (hp' : pc + 3 = pc')
    (rt : x = (0 : Int32) → Run l R Z W Q h k n (mkF W.m pcT Ls st)) (rf : ¬ x = (0 : Int32) → Run l R Z W Q h k n (mkF W.m pc' Ls st)) : Run l R Z W Q h k n (mkF W.m pc Ls (.int x :: st)) := by
  subst hp'
  by_cases q : x = (0 : Int32)
  · exact Run.one (fun T locs X _ t g => XS.ifYes X.here C.hx rfl rfl (C.hb hd) rfl ((if0 _ _).trans (teq q).1) ho hp g) (rt q)
  · exact Run.one (fun T locs X _ t g => XS.ifNo X.here C.hx rfl (C.hb hd) rfl ((if0 _ _).trans (feq q).1) g) (rf q)
theorem icmp_ne (C : Cx Z W own nm code maxL ret) {x y : Int32} {o : Int} {pcT : Nat} (hd : decode code pc = .ok (.if_icmp .ne o, 3)) (ho : 0 ≤ (pc : Int) + o) (hp : ((pc : Int) + o).toNat = pcT) (hp' : pc + 3 = pc')
    (rt : ¬ x = y → Run l R Z W Q h k n (mkF W.m pcT Ls st)) (rf : x = y → Run l R Z W Q h k n (mkF W.m pc' Ls st)) : Run l R Z W Q h k n (mkF W.m pc Ls (.int y :: .int x :: st)) := by
  subst hp'
  by_cases q : x = y
  · exact Run.one (fun T locs X _ t g => XS.icmpNo X.here C.hx rfl (C.hb hd) rfl (teq q).2 g) (rf q)
  · exact Run.one (fun T locs X _ t g => XS.icmpYes X.here C.hx rfl rfl (C.hb hd) rfl (feq q).2 ho hp g) (rt q)
theorem if_ne (C : Cx Z W own nm code maxL ret) {x : Int32} {o : Int} {pcT : Nat} (hd : decode code pc = .ok (.ifCond .ne o, 3)) (ho : 0 ≤ (pc : Int) + o) (hp : ((pc : Int) + o).toNat = pcT) (hp' : pc + 3 = pc')
    (rt : ¬ x = (0 : Int32) → Run l R Z W Q h k n (mkF W.m pcT Ls st)) (rf : x = (0 : Int32) → Run l R Z W Q h k n (mkF W.m pc' Ls st)) : Run l R Z W Q h k n (mkF W.m pc Ls (.int x :: st)) := by
  subst hp'
  by_cases q : x = (0 : Int32)
  · exact Run.one (fun T locs X _ t g => XS.ifNo X.here C.hx rfl (C.hb hd) rfl ((if0 _ _).trans (teq q).2) g) (rf q)
  · exact Run.one (fun T locs X _ t g => XS.ifYes X.here C.hx rfl rfl (C.hb hd) rfl ((if0 _ _).trans (feq q).2) ho hp g) (rt q)
theorem icmp_lt (C : Cx Z W own nm code maxL ret) {x y : Int32} {o : Int} {pcT : Nat} (hd : decode code pc = .ok (.if_icmp .lt o, 3)) (ho : 0 ≤ (pc : Int) + o) (hp : ((pc : Int) + o).toNat = pcT) (hp' : pc + 3 = pc')
    (rt : x < y → Run l R Z W Q h k n (mkF W.m pcT Ls st)) (rf : ¬ x < y → Run l R Z W Q h k n (mkF W.m pc' Ls st)) : Run l R Z W Q h k n (mkF W.m pc Ls (.int y :: .int x :: st)) := by
  subst hp'
  by_cases q : x < y
  · exact Run.one (fun T locs X _ t g => XS.icmpYes X.here C.hx rfl rfl (C.hb hd) rfl (tlt q).1 ho hp g) (rt q)
  · exact Run.one (fun T locs X _ t g => XS.icmpNo X.here C.hx rfl (C.hb hd) rfl (flt q).1 g) (rf q)
theorem if_lt (C : Cx Z W own nm code maxL ret) {x : Int32} {o : Int} {pcT : Nat} (hd : decode code pc = .ok (.ifCond .lt o, 3)) (ho : 0 ≤ (pc : Int) + o) (hp : ((pc : Int) + o).toNat = pcT) (hp' : pc + 3 = pc')
    (rt : x < (0 : Int32) → Run l R Z W Q h k n (mkF W.m pcT Ls st)) (rf : ¬ x < (0 : Int32) → Run l R Z W Q h k n (mkF W.m pc' Ls st)) : Run l R Z W Q h k n (mkF W.m pc Ls (.int x :: st)) := by
  subst hp'
  by_cases q : x < (0 : Int32)
  · exact Run.one (fun T locs X _ t g => XS.ifYes X.here C.hx rfl rfl (C.hb hd) rfl ((if0 _ _).trans (tlt q).1) ho hp g) (rt q)
  · exact Run.one (fun T locs X _ t g => XS.ifNo X.here C.hx rfl (C.hb hd) rfl ((if0 _ _).trans (flt q).1) g) (rf q)
theorem icmp_ge (C : Cx Z W own nm code maxL ret) {x y : Int32} {o : Int} {pcT : Nat} (hd : decode code pc = .ok (.if_icmp .ge o, 3)) (ho : 0 ≤ (pc : Int) + o) (hp : ((pc : Int) + o).toNat = pcT) (hp' : pc + 3 = pc')
    (rt : ¬ x < y → Run l R Z W Q h k n (mkF W.m pcT Ls st)) (rf : x < y → Run l R Z W Q h k n (mkF W.m pc' Ls st)) : Run l R Z W Q h k n (mkF W.m pc Ls (.int y :: .int x :: st)) := by
  subst hp'
  by_cases q : x < y
  · exact Run.one (fun T locs X _ t g => XS.icmpNo X.here C.hx rfl (C.hb hd) rfl (tlt q).2.1 g) (rf q)
  · exact Run.one (fun T locs X _ t g => XS.icmpYes X.here C.hx rfl rfl (C.hb hd) rfl (flt q).2.1 ho hp g) (rt q)
theorem if_ge (C : Cx Z W own nm code maxL ret) {x : Int32} {o : Int} {pcT : Nat} (hd : decode code pc = .ok (.ifCond .ge o, 3)) (ho : 0 ≤ (pc : Int) + o) (hp : ((pc : Int) + o).toNat = pcT) (hp' : pc + 3 = pc')
    (rt : ¬ x < (0 : Int32) → Run l R Z W Q h k n (mkF W.m pcT Ls st)) (rf : x < (0 : Int32) → Run l R Z W Q h k n (mkF W.m pc' Ls st)) : Run l R Z W Q h k n (mkF W.m pc Ls (.int x :: st)) := by
  subst hp'
  by_cases q : x < (0 : Int32)
  · exact Run.one (fun T locs X _ t g => XS.ifNo X.here C.hx rfl (C.hb hd) rfl ((if0 _ _).trans (tlt q).2.1) g) (rf q)
  · exact Run.one (fun T locs X _ t g => XS.ifYes X.here C.hx rfl rfl (C.hb hd) rfl ((if0 _ _).trans (flt q).2.1) ho hp g) (rt q)
theorem icmp_gt (C : Cx Z W own nm code maxL ret) {x y : Int32} {o : Int} {pcT : Nat} (hd : decode code pc = .ok (.if_icmp .gt o, 3)) (ho : 0 ≤ (pc : Int) + o) (hp : ((pc : Int) + o).toNat = pcT) (hp' : pc + 3 = pc')
    (rt : y < x → Run l R Z W Q h k n (mkF W.m pcT Ls st)) (rf : ¬ y < x → Run l R Z W Q h k n (mkF W.m pc' Ls st)) : Run l R Z W Q h k n (mkF W.m pc Ls (.int y :: .int x :: st)) := by
  subst hp'
  by_cases q : y < x
  · exact Run.one (fun T locs X _ t g => XS.icmpYes X.here C.hx rfl rfl (C.hb hd) rfl (tlt q).2.2.1 ho hp g) (rt q)
  · exact Run.one (fun T locs X _ t g => XS.icmpNo X.here C.hx rfl (C.hb hd) rfl (flt q).2.2.1 g) (rf q)
theorem icmp_le (C : Cx Z W own nm code maxL ret) {x y : Int32} {o : Int} {pcT : Nat} (hd : decode code pc = .ok (.if_icmp .le o, 3)) (ho : 0 ≤ (pc : Int) + o) (hp : ((pc : Int) + o).toNat = pcT) (hp' : pc + 3 = pc')
    (rt : ¬ y < x → Run l R Z W Q h k n (mkF W.m pcT Ls st)) (rf : y < x → Run l R Z W Q h k n (mkF W.m pc' Ls st)) : Run l R Z W Q h k n (mkF W.m pc Ls (.int y :: .int x :: st)) := by
  subst hp'
  by_cases q : y < x
  · exact Run.one (fun T locs X _ t g => XS.icmpNo X.here C.hx rfl (C.hb hd) rfl (tlt q).2.2.2 g) (rf q)
  · exact Run.one (fun T locs X _ t g => XS.icmpYes X.here C.hx rfl rfl (C.hb hd) rfl (flt q).2.2.2 ho hp g) (rt q)
theorem ldcI (C : Cx Z W own nm code maxL ret) {ix : Nat} {v : Int32} (hd : decode code pc = .ok (.ldc ix, 2)) (w : (Cond.constant own ix v).before a0 Z = true) (hp : pc + 2 = pc') (r : Run l R Z W Q h k n (mkF W.m pc' Ls (.int v :: st))) : Run l R Z W Q h k n (mkF W.m pc Ls st) := by
  subst hp
  exact Run.one (fun T locs X _ t g => X.ldcInt C.hx C.ow (mvT C.hZ w) (g := mkF W.m pc Ls st) rfl (C.hb hd) t g) r
theorem Run.via {g g' : JFrame} (f : ∀ T locs, Std l R W T locs k n → T.heap = h → ∃ T', Std l R W T' locs k n ∧ T'.heap = h ∧ ∀ t, Steps W.p.tables W.e W.b (T'.setTop g') t → Steps W.p.tables W.e W.b (T.setTop g) t) (r : Run l R Z W Q h k n g') : Run l R Z W Q h k n g :=
  fun T locs X eT N O => by
    obtain ⟨T', X', e', s'⟩ := f T locs X eT
    exact Go.step s' (r T' locs X' e' N O)
theorem getF (C : Cx Z W own nm code maxL ret) {R0 O nmF d : String} {ix : Nat} (hd : decode code pc = .ok (.getfield ix, 3)) (w : (Cond.fieldLink own ix R0 nmF d).before a0 Z = true) (via : Via Z R0 O nmF d) {a : Addr} {v : Value} (F : Fld Z h a O nmF d v) (hp : pc + 3 = pc')
    (r : Run l R Z W Q h k n (mkF W.m pc' Ls (v :: st))) : Run l R Z W Q h k n (mkF W.m pc Ls (.ref a :: st)) := by
  subst hp
  exact Run.via (fun T locs X eT => RoadKit.getF X C.hx C.hZ C.ow (host := "") (Or.inl w) via eT F (g := mkF W.m pc Ls (.ref a :: st)) rfl rfl (C.hb hd)) r
theorem getS (C : Cx Z W own nm code maxL ret) {R0 O nmF d : String} {ix : Nat} (hd : decode code pc = .ok (.getstatic ix, 3)) (w : (Cond.fieldLink own ix R0 nmF d).before a0 Z = true) (via : Via Z R0 O nmF d) {v : Value} (F : Sta Z h O nmF d v) (hp : pc + 3 = pc')
    (r : Run l R Z W Q h k n (mkF W.m pc' Ls (v :: st))) : Run l R Z W Q h k n (mkF W.m pc Ls st) := by
  subst hp
  exact Run.via (fun T locs X eT => getS2 X C.hx C.hZ C.ow (host := "") (Or.inl w) via eT F (g := mkF W.m pc Ls st) rfl (C.hb hd)) r
/-- an array as a list: its kind, its length, its elements -/
def Ary (Z : State) (h : Heap) (a : Addr) (ty : FieldType) (vs : List Value) : Prop := ∃ c : Cell, Arr Z h a c ty ∧ c.slots = vs.toArray ∧ vs.length < 2 ^ 31 ∧ ∀ v ∈ vs, fits ty v = true
theorem Ary.lt {a : Addr} {ty : FieldType} {vs : List Value} (F : Ary Z h a ty vs) : a < h.size := by obtain ⟨c, A, -⟩ := F; exact A.lt
theorem Ary.ext {h' : Heap} {a : Addr} {ty : FieldType} {vs : List Value} (F : Ary Z h a ty vs) (E : Ext h h') : Ary Z h' a ty vs := by obtain ⟨c, A, r⟩ := F; exact ⟨c, A.ext E, r⟩
theorem Ary.other {h' : Heap} {a b : Addr} {sl : Nat} {v : Value} {ty : FieldType} {vs : List Value} (F : Ary Z h b ty vs) (X : Wr h h' a sl v) (q : b ≠ a) : Ary Z h' b ty vs := by obtain ⟨c, A, r⟩ := F; exact ⟨c, A.other X q, r⟩
theorem Ary.keep {h' : Heap} {a : Addr} {ws : List Addr} {ty : FieldType} {vs : List Value} (F : Ary Z h a ty vs) (K : Keep h h' ws) (q : a ∉ ws) : Ary Z h' a ty vs := by obtain ⟨c, A, r⟩ := F; exact ⟨c, ⟨K.2.1 a c A.1 q, A.2⟩, r⟩
theorem Ary.set {h' : Heap} {a : Addr} {i : Nat} {v : Value} {ty : FieldType} {vs : List Value} (F : Ary Z h a ty vs) (X : Wr h h' a i v) (hv : fits ty v = true) : Ary Z h' a ty (vs.set i v) := by
  obtain ⟨c, A, e, q, f⟩ := F
  refine ⟨_, A.same X, ?_, by simpa using q, fun w hw => ?_⟩
  · show (c.slots.setIfInBounds i v) = _
    rw [e]; simp
  · rcases List.mem_or_eq_of_mem_set hw with hw | rfl
    · exact f w hw
    · exact hv
theorem Ary.inb {a : Addr} {ty : FieldType} {vs : List Value} {c : Cell} {j : Int32} (e : c.slots = vs.toArray) (h0 : ¬ j < 0) (h1 : j.toNatClampNeg < vs.length) : ¬ (j < 0 ∨ c.slots.size ≤ j.toNatClampNeg) := by
  rw [e]
  rintro (q | q)
  · exact h0 q
  · simp at q; omega
theorem Ary.arv {a : Addr} {ty : FieldType} {vs : List Value} {d : Value} (F : Ary Z h a ty vs) : ∃ kc, Arv Z h a kc ty (Int32.ofNat vs.length) vs d := by
  obtain ⟨c, A, e, q, f⟩ := F
  have hn : (Int32.ofNat vs.length).toNatClampNeg = vs.length := by
    rw [Int32.toNatClampNeg_ofNat_of_lt q]
  refine ⟨c.cls, c, A, rfl, by rw [hn, e]; simp, ?_, fun i hi => ?_, fun i hi => ?_⟩
  · rw [Int32.lt_iff_toInt_lt, Int32.toInt_ofNat_of_lt q]; simp
  · have hi' : i < vs.length := by rw [e] at hi; simpa using hi
    rw [e]; simp [List.getD_eq_getElem?_getD, hi']
  · have hi' : i < vs.length := by rw [e] at hi; simpa using hi
    have := f _ (List.getElem_mem hi')
    simpa [List.getD_eq_getElem?_getD, hi'] using this
theorem Ary.of_arv {a : Addr} {kc : ClassId} {ty : FieldType} {z : Int32} {vs : List Value} {d : Value} (F : Arv Z h a kc ty z vs d) (hz : z.toNatClampNeg = vs.length) : Ary Z h a ty vs := by
  obtain ⟨c, A, -, S, z0, H, G⟩ := F
  have hs : c.slots.size = vs.length := S.trans hz
  refine ⟨c, A, ?_, by rw [← hz]; exact (back32 z0).2, fun v hv => ?_⟩
  · apply Array.ext
    · simpa using hs
    · intro i h1 h2
      have q := H i h1
      rw [Array.getElem?_eq_getElem h1] at q
      have h3 : i < vs.length := by omega
      simpa [List.getD_eq_getElem?_getD, h3] using q
  · obtain ⟨i, hi, rfl⟩ := List.getElem_of_mem hv
    have := G i (by omega)
    simpa [List.getD_eq_getElem?_getD, hi] using this
theorem alen (C : Cx Z W own nm code maxL ret) (hd : decode code pc = .ok (.arraylength, 1)) {a : Addr} {ty : FieldType} {vs : List Value} {z : Int32} (F : Ary Z h a ty vs) (hz : Int32.ofNat vs.length = z) (hp : pc + 1 = pc')
    (r : Run l R Z W Q h k n (mkF W.m pc' Ls (.int z :: st))) : Run l R Z W Q h k n (mkF W.m pc Ls (.ref a :: st)) := by
  subst hp hz
  obtain ⟨c, A, e, -⟩ := F
  have e2 : c.slots.size.toInt32 = Int32.ofNat vs.length := by rw [e]; simp
  exact Run.one (fun T locs X eT t g => X.arraylength C.hx (by rw [eT]; exact A.1) (State.isArrayOf_alike C.hZ.alike A.2.1) (g := mkF W.m pc Ls (.ref a :: st)) rfl rfl (C.hb hd) t (by rw [e2]; exact g)) r
theorem caload (C : Cx Z W own nm code maxL ret) (hd : decode code pc = .ok (.caload, 1)) {a : Addr} {vs : List Value} {j : Int32} {v : Value} (F : Ary Z h a .char vs) (h0 : ¬ j < 0) (hv : vs[j.toNatClampNeg]? = some v) (hp : pc + 1 = pc')
    (r : Run l R Z W Q h k n (mkF W.m pc' Ls (v :: st))) : Run l R Z W Q h k n (mkF W.m pc Ls (.int j :: .ref a :: st)) := by
  subst hp
  obtain ⟨c, A, e, -⟩ := F
  have h1 : j.toNatClampNeg < vs.length := (List.getElem?_eq_some_iff.mp hv).1
  exact Run.one (fun T locs X eT t g => X.caload C.hx (by rw [eT]; exact A.1) (State.isArrayOf_alike C.hZ.alike A.2.1) A.2.2 (Ary.inb (a := a) (ty := .char) e h0 h1) (by rw [e]; simpa using hv) (g := mkF W.m pc Ls (.int j :: .ref a :: st)) rfl rfl (C.hb hd) t g) r
theorem baload (C : Cx Z W own nm code maxL ret) (hd : decode code pc = .ok (.baload, 1)) {a : Addr} {vs : List Value} {j : Int32} {v : Value} (F : Ary Z h a .byte vs) (h0 : ¬ j < 0) (hv : vs[j.toNatClampNeg]? = some v) (hp : pc + 1 = pc')
    (r : Run l R Z W Q h k n (mkF W.m pc' Ls (v :: st))) : Run l R Z W Q h k n (mkF W.m pc Ls (.int j :: .ref a :: st)) := by
  subst hp
  obtain ⟨c, A, e, -⟩ := F
  have h1 : j.toNatClampNeg < vs.length := (List.getElem?_eq_some_iff.mp hv).1
  exact Run.one (fun T locs X eT t g => X.baloadBytes C.hx (by rw [eT]; exact A.1) (State.isArrayOf_alike C.hZ.alike A.2.1) A.2.2 (Ary.inb (a := a) (ty := .byte) e h0 h1) (by rw [e]; simpa using hv) (g := mkF W.m pc Ls (.int j :: .ref a :: st)) rfl rfl (C.hb hd) t g) r
theorem Run.wrote {a : Addr} {sl : Nat} {v : Value} {g g' : JFrame} (ha : Z.heap.size ≤ a) (f : ∀ T locs, Std l R W T locs k n → T.heap = h → ∃ T' h', Std l R W T' (locs ++ [⟨a, sl⟩]) k n ∧ T'.heap = h' ∧ Wr h h' a sl v ∧ ∀ t, Steps W.p.tables W.e W.b (T'.setTop g') t → Steps W.p.tables W.e W.b (T.setTop g) t)
    (r : ∀ h', Wr h h' a sl v → Ext Z.heap h' → Run l R Z W Q h' k n g') : Run l R Z W Q h k n g := fun T locs X eT N O => by
  obtain ⟨T', h', X', e', w', s'⟩ := f T locs X eT
  have O' : Ext Z.heap h' := ((old_of O).wr w' ha).2
  exact Go.step s' (r h' w' O' T' _ X' e' (Fr.snoc X' N ha) O')
theorem putF (C : Cx Z W own nm code maxL ret) {R0 O nmF d K : String} {ix kk : Nat} {ty : FieldType} (hd : decode code pc = .ok (.putfield ix, 3)) (w : (Cond.fieldLink own ix R0 nmF d).before a0 Z = true) (via : Via Z R0 O nmF d) {a : Addr} {v old : Value} (F : Fld Z h a O nmF d old) (E : Exa Z h a K)
    (L : (Cond.lays K O nmF d).before a0 Z = true ∨ ((Cond.laysFinal K O nmF d).before a0 Z = true ∧ own = O ∧ nm = "<init>")) (wi : (Cond.instantiable K kk).before a0 Z = true) (hty : parseFieldDescriptor d = some ty) (hn : narrow ty v = v) (hf : fits ty v = true) (ha : Z.heap.size ≤ a) (hp : pc + 3 = pc')
    (r : ∀ h', Wr h h' a (RoadKit.slotOf Z O nmF d) v → Ext Z.heap h' → Run l R Z W Q h' k n (mkF W.m pc' Ls st)) : Run l R Z W Q h k n (mkF W.m pc Ls (v :: .ref a :: st)) := by
  subst hp
  exact Run.wrote ha (fun T locs X eT => RoadKit.putF X C.hx C.hZ C.ow (host := "") (Or.inl w) via eT F E (L.imp id fun q => ⟨q.1, q.2.1, C.nme.trans q.2.2⟩) wi hty hn hf (g := mkF W.m pc Ls (v :: .ref a :: st)) rfl rfl (C.hb hd)) r
theorem castore (C : Cx Z W own nm code maxL ret) (hd : decode code pc = .ok (.castore, 1)) {a : Addr} {vs vs' : List Value} {j x : Int32} (F : Ary Z h a .char vs) (h0 : ¬ j < 0) (h1 : j.toNatClampNeg < vs.length) (hx : nar .char x = x) (hs : vs.set j.toNatClampNeg (.int x) = vs') (ha : Z.heap.size ≤ a) (hp : pc + 1 = pc')
    (r : ∀ h', Wr h h' a j.toNatClampNeg (.int x) → Ary Z h' a .char vs' → Ext Z.heap h' → Run l R Z W Q h' k n (mkF W.m pc' Ls st)) : Run l R Z W Q h k n (mkF W.m pc Ls (.int x :: .int j :: .ref a :: st)) := by
  subst hp hs
  have F' := F
  obtain ⟨c, A, e, -⟩ := F'
  exact Run.wrote ha (fun T locs X eT => by have w0 := RoadKit.stC X C.hx C.hZ eT A (Ary.inb (a := a) (ty := .char) e h0 h1) (g := mkF W.m pc Ls (.int x :: .int j :: .ref a :: st)) rfl rfl (C.hb hd); rw [hx] at w0; exact w0) (fun h' w' O' => r h' w' (F.set w' (hx ▸ fits_nar_char x)) O')
theorem bastore (C : Cx Z W own nm code maxL ret) (hd : decode code pc = .ok (.bastore, 1)) {a : Addr} {vs vs' : List Value} {j x : Int32} (F : Ary Z h a .byte vs) (h0 : ¬ j < 0) (h1 : j.toNatClampNeg < vs.length) (hs : vs.set j.toNatClampNeg (.int (nar .byte x)) = vs') (ha : Z.heap.size ≤ a) (hp : pc + 1 = pc')
    (r : ∀ h', Wr h h' a j.toNatClampNeg (.int (nar .byte x)) → Ary Z h' a .byte vs' → Ext Z.heap h' → Run l R Z W Q h' k n (mkF W.m pc' Ls st)) : Run l R Z W Q h k n (mkF W.m pc Ls (.int x :: .int j :: .ref a :: st)) := by
  subst hp hs
  have F' := F
  obtain ⟨c, A, e, -⟩ := F'
  exact Run.wrote ha (fun T locs X eT => by have w0 := RoadKit.stB X C.hx C.hZ eT A (Ary.inb (a := a) (ty := .byte) e h0 h1) (g := mkF W.m pc Ls (.int x :: .int j :: .ref a :: st)) rfl rfl (C.hb hd); exact w0) (fun h' w' O' => r h' w' (F.set w' (fits_nar_byte x)) O')
/-- what a fresh object holds -/
abbrev Fresh (Z : State) (a0 : Array Value) (h' : Heap) (a : Addr) (K : String) : Prop := ∀ {O nm d : String} {ty : FieldType}, Laid Z a0 K O nm d → parseFieldDescriptor d = some ty → Fld Z h' a O nm d (defaultValue ty)
theorem newO (C : Cx Z W own nm code maxL ret) {K : String} {ix sl k' n' : Nat} (hd : decode code pc = .ok (.new ix, 3)) (w : (Cond.classLink own ix K).before a0 Z = true) (wi : (Cond.instantiable K sl).before a0 Z = true) (wz : (Cond.initialized K).before a0 Z = true) (hc : k + 1 = k') (hl : n + sl = n') (hc' : k' ≤ R.cells) (hl' : n' ≤ R.slots) (hp : pc + 3 = pc')
    (r : ∀ a h', a = h.size → Z.heap.size ≤ a → Ext h h' → Exa Z h' a K → Fresh Z a0 h' a K → Unt h' a → Ext Z.heap h' → Run l R Z W Q h' k' n' (mkF W.m pc' Ls (.ref a :: st))) : Run l R Z W Q h k n (mkF W.m pc Ls st) := by
  subst hp hc hl
  intro T locs X eT N O
  obtain ⟨T', h', X', e', E', A', D', U', s'⟩ := RoadKit.newO X C.hx C.hZ C.ow w wi wz eT (g := mkF W.m pc Ls st) rfl (C.hb hd) hc' hl'
  have O' : Ext Z.heap h' := ((old_of O).ext E').2
  exact Go.step s' (r h.size h' rfl O.1 E' A' D' U' O' T' locs X' e' N O')
theorem newA (C : Cx Z W own nm code maxL ret) {aty : ArrayType} {ty : FieldType} {z : Int32} {k' n' cap : Nat} (hd : decode code pc = .ok (.newarray aty, 2)) (ht : newarray.typeOf aty = ty) (w : (Cond.arrayClass ty).before a0 Z = true) (hz : ¬ z < 0) (hcap : z.toNatClampNeg ≤ cap) (hb : cap * 8 ≤ 536870912) (hc : k + 1 = k') (hl : n + cap = n') (hc' : k' ≤ R.cells) (hl' : n' ≤ R.slots) (hdf : fits ty (defaultValue ty) = true) (hp : pc + 2 = pc')
    (r : ∀ a h', a = h.size → Z.heap.size ≤ a → Ext h h' → Ary Z h' a ty (List.replicate z.toNatClampNeg (defaultValue ty)) → Ext Z.heap h' → Run l R Z W Q h' k' n' (mkF W.m pc' Ls (.ref a :: st))) : Run l R Z W Q h k n (mkF W.m pc Ls (.int z :: st)) := by
  subst hp hc hl ht
  intro T locs X eT N O
  obtain ⟨T', h', cA, X', e', E', A', s'⟩ := newP X C.hx C.hZ w eT (g := mkF W.m pc Ls (.int z :: st)) rfl (C.hb hd) rfl hz hcap hb hc' hl'
  have O' : Ext Z.heap h' := ((old_of O).ext E').2
  have hz2 : z.toNatClampNeg < 2 ^ 31 := (back32 hz).2
  refine Go.step s' (r h.size h' rfl O.1 E' ⟨_, A', ?_, by simpa using hz2, fun v hv => ?_⟩ O' T' locs X' e' N O')
  · show Array.replicate _ _ = _
    simp
  · rw [(List.mem_replicate.mp hv).2]; exact hdf
/-- an array of references to K: its class -/
def RefA (Z : State) (h : Heap) (a : Addr) (K : String) : Prop := ∃ cl : Cell, h[a]? = some cl ∧ Ovr Z cl.cls K
theorem RefA.ext {h' : Heap} {a : Addr} {K : String} (F : RefA Z h a K) (E : Ext h h') : RefA Z h' a K := by
  obtain ⟨cl, h1, r⟩ := F
  exact ⟨cl, E.2 _ _ h1, r⟩
theorem RefA.wr {h' : Heap} {a b : Addr} {K : String} {sl : Nat} {v : Value} (F : RefA Z h a K) (W : Wr h h' b sl v) : RefA Z h' a K := by
  obtain ⟨cl, h1, r⟩ := F
  obtain ⟨d, d1, d2, -⟩ := wr_at W h1
  exact ⟨d, d1, by rw [d2]; exact r⟩
theorem initO (C : Cx Z W own nm code maxL ret) {ix Wn : Nat} (hd : decode code pc = .ok (.invokespecial ix, 3)) (w1 : (Cond.methodLink own ix Lib.objectInit).before a0 Z = true) (w2 : (Cond.instanceMethod Lib.objectInit).before a0 Z = true) (w3 : (Cond.code Lib.objectInit ⟨#[0xb1]⟩ 1 none).before a0 Z = true) {a : Addr} (hsz : Ls.size = maxL) (hf : 1 ≤ R.frames) (hW : (st.map fun v => v.category).sum ≤ Wn) (hl : Wn + 12 ≤ R.locals) (hp : pc + 3 = pc')
    (r : Run l R Z W Q h k n (mkF W.m pc' Ls st)) : Run l R Z W Q h k n (mkF W.m pc Ls (.ref a :: st)) := by
  subst hp
  exact Run.via (fun T locs X eT => RoadKit.initO X C.hx C.hZ C.ow w1 w2 w3 eT (g := mkF W.m pc Ls (.ref a :: st)) rfl (hsz.trans C.ml.symm) rfl (C.hb hd) hf (W := Wn) (by show 2 * 0 + _ ≤ _; omega) hl) r
/-! ## contracts and calls -/
/-- the method y, called with these arguments at the heap h0, returns with Q -/
def Con (l : Launch) (Z : State) (y : MethodName) (bytes : ByteArray) (maxL : Nat) (ret : Option FieldType) (rm : Room) (as' : Array Value) (h0 : Heap) (Q : Post) : Prop :=
  ∀ ws, MetFree l y (head1 (Jvm.Cond.code y bytes maxL ret :: ws) rm) (fun a U => a = as' ∧ Z.Warmed39 U.vm ∧ U.heap = h0) (fun _ _ _ _ _ => True) (fun _ U o U' => ∃ v L, o = .returned v ∧ (Q v U'.heap ∧ Ext Z.heap U'.heap ∧ Fr Z.heap.size L) ∧ FrameEnd U o U' L rm.cells rm.slots)
theorem Con.intro {y : MethodName} {bytes : ByteArray} {rm : Room} {as' : Array Value} {Ls0 : Array Slot} (hy : plainFor y = true) (O : Ext Z.heap h) (he : ∀ m, entryFrame m as' maxL = mkF m 0 Ls0 [])
    (body : ∀ W : Wd, Cx Z W y.cls y.name bytes maxL ret → Run l rm Z W Q h 0 0 (mkF W.m 0 Ls0 [])) : Con l Z y bytes maxL ret rm as' h Q := by
  intro ws
  refine MetFree.of_bodySF hy hisR ?_
  intro p e s m args below meth c s₁ Bd hml0 hP hK
  obtain ⟨rfl, hZ, hh⟩ := hP
  have e0 : s₁.heap = h := by rw [← hh, Bd.state]; rfl
  have X0 : Stand p l e rm s m args below meth c s₁ [] 0 0 := Stand.of_body Bd
  have r := body (p, e, s, m, args, below, meth, c) ⟨Bd.exec, Bd.bytes, hml0, findClass_of_methodNamed Bd.named, hZ, Bd.returns, (name_of_methodNamed Bd.named Bd.method).1, Bd.notSynchronized⟩ s₁ [] X0 e0 (Fr.nil _) O
  rw [he m]
  exact r
theorem Con.mono {y : MethodName} {bytes : ByteArray} {rm : Room} {as' : Array Value} {Q' : Post} (c : Con l Z y bytes maxL ret rm as' h Q) (f : ∀ v h', Q v h' → Q' v h') : Con l Z y bytes maxL ret rm as' h Q' := by
  intro ws p e ha hc hk s m args below hf happ hP hK
  obtain ⟨n, o, h1, h2, h3, v, L, h4, ⟨h5, h6⟩, h7⟩ := c ws p e ha hc hk s m args below hf happ hP hK
  exact ⟨n, o, h1, h2, h3, v, L, h4, ⟨f _ _ h5, h6⟩, h7⟩
section Calls
variable {y : MethodName} {bytes : ByteArray} {mxL : Nat} {rt : Option FieldType} {rm : Room} {Qc : Post} {argsL : List Value} {as' : Array Value} {ix Wn k' n' kc nc : Nat} {st' : List Value}
/-- a law of the library, or a contract, as a call takes it -/
abbrev Pays (l : Launch) (R : Room) (W : Wd) (y : MethodName) (ln Wn : Nat) (as' : Array Value) (h : Heap) (kc nc : Nat) (Qv : Option Value → Heap → List Loc → Prop) : Prop :=
  Back l R W.p W.e W.b W.s W.a y ln Wn (fun P a => a = as' ∧ P.U.heap = h ∧ P.cells + kc ≤ R.cells ∧ P.slots + nc ≤ R.slots) (fun P _ v B => ∃ L, Qv v B.U.heap L ∧ B.locs = P.locs ++ L ∧ B.cells = P.cells + kc ∧ B.slots = P.slots + nc)
abbrev Clean (Z : State) (Qc : Post) (Qv : Option Value → Heap → List Loc → Prop) : Prop := ∀ v h' L, Qv v h' L → Qc v h' ∧ Ext Z.heap h' ∧ Fr Z.heap.size L
theorem Con.pays (C : Cx Z W own nm code maxL ret) {ln : Nat} (K : Con l Z y bytes mxL rt rm as' h Qc) (w4 : (Cond.code y bytes mxL rt).before a0 Z = true) (wz : (Cond.initialized y.cls).before a0 Z = true) (hf : rm.frames + 1 ≤ R.frames) (hl : Wn + (mxL + 11) + rm.locals ≤ R.locals) :
    Pays l R W y ln Wn as' h rm.cells rm.slots (fun v h' L => Qc v h' ∧ Ext Z.heap h' ∧ Fr Z.heap.size L) := backOf (W := Wn) (Q := fun v h' L => Qc v h' ∧ Ext Z.heap h' ∧ Fr Z.heap.size L) (K []) C.hZ w4 wz hf hl
theorem callS (C : Cx Z W own nm code maxL ret) (hd : decode code pc = .ok (.invokestatic ix, 3)) {Qv : Option Value → Heap → List Loc → Prop} (K : Pays l R W y 3 Wn as' h kc nc Qv) (hQ : Clean Z Qc Qv) (w1 : (Cond.methodLink own ix y).before a0 Z = true) (w2 : (Cond.static y).before a0 Z = true) (w3 : (Cond.initialized y.cls).before a0 Z = true) (w4 : (Cond.code y bytes mxL rt).before a0 Z = true) (hy : y.cls ≠ "java/lang/invoke/MethodHandle" ∧ y.cls ≠ "java/lang/invoke/VarHandle")
    (has : argsL.toArray = as') (hst : argsL.reverse ++ st = st') (hlen : ∀ sig, parseMethodDescriptor y.desc = some sig → argsL.length = sig.parameters.length) (hsz : Ls.size = maxL) (hW : (st.map fun v => v.category).sum ≤ Wn) (hk : k + kc = k') (hn : n + nc = n') (hk' : k' ≤ R.cells) (hn' : n' ≤ R.slots) (hp : pc + 3 = pc')
    (r : ∀ v h', Qc v h' → Ext Z.heap h' → Run l R Z W Q h' k' n' (mkF W.m pc' Ls (v.toList ++ st))) : Run l R Z W Q h k n (mkF W.m pc Ls st') := by
  subst hp hk hn has hst
  intro T locs X eT N O
  obtain ⟨v, vm₁, ⟨T', L', k', n'⟩, -, X', ⟨L, q0, l1, y1, z1⟩, s'⟩ := Jvm.LawKit.callS X C.hx (y := y) C.ow (mvT C.hZ w1) (mvT C.hZ w2) (mvT C.hZ w3) (mvT C.hZ w4) hy K (g := mkF W.m pc Ls (argsL.reverse ++ st)) rfl (hsz.trans C.ml.symm) (argsL := argsL) (rest := st) hlen rfl (by show 2 * 0 + _ ≤ _; omega) (C.hb hd) (fun _ _ => ⟨rfl, eT, hk', hn'⟩)
  dsimp only [Pt.U, Pt.locs, Pt.cells, Pt.slots] at X' l1 y1 z1 s' q0
  subst l1 y1 z1
  obtain ⟨q1, q2, q3⟩ := hQ _ _ _ q0
  exact Go.step s' (r v T'.heap q1 q2 T' _ X' rfl (N.app q3) q2)
theorem callI (C : Cx Z W own nm code maxL ret) (hd : decode code pc = .ok (.invokespecial ix, 3)) {a : Addr} {Qv : Option Value → Heap → List Loc → Prop} (K : Pays l R W y 3 Wn as' h kc nc Qv) (hQ : Clean Z Qc Qv) (hi : y.name = "<init>") (w1 : (Cond.methodLink own ix y).before a0 Z = true) (w2 : (Cond.instanceMethod y).before a0 Z = true) (w4 : (Cond.code y bytes mxL none).before a0 Z = true) (hy : y.cls ≠ "java/lang/invoke/MethodHandle" ∧ y.cls ≠ "java/lang/invoke/VarHandle")
    (has : (Value.ref a :: argsL).toArray = as') (hst : argsL.reverse ++ .ref a :: st = st') (hlen : ∀ sig, parseMethodDescriptor y.desc = some sig → argsL.length = sig.parameters.length) (hsz : Ls.size = maxL) (hW : (st.map fun v => v.category).sum ≤ Wn) (hk : k + kc = k') (hn : n + nc = n') (hk' : k' ≤ R.cells) (hn' : n' ≤ R.slots) (hp : pc + 3 = pc')
    (r : ∀ v h', Qc v h' → Ext Z.heap h' → Run l R Z W Q h' k' n' (mkF W.m pc' Ls (v.toList ++ st))) : Run l R Z W Q h k n (mkF W.m pc Ls st') := by
  subst hp hk hn has hst
  intro T locs X eT N O
  obtain ⟨v, vm₁, ⟨T', L', k', n'⟩, -, X', ⟨L, q0, l1, y1, z1⟩, s'⟩ := X.specialBack C.hx (y := y) hi C.ow (mvT C.hZ w1) (mvT C.hZ w2) (mvT C.hZ w4) hy K (g := mkF W.m pc Ls (argsL.reverse ++ .ref a :: st)) rfl (hsz.trans C.ml.symm) (Steps.refl _) (a := a) (argsL := argsL) (rest := st) hlen rfl (by show 2 * 0 + _ ≤ _; omega) (C.hb hd) (fun _ _ => ⟨rfl, eT, hk', hn'⟩)
  dsimp only [Pt.U, Pt.locs, Pt.cells, Pt.slots] at X' l1 y1 z1 s' q0
  subst l1 y1 z1
  obtain ⟨q1, q2, q3⟩ := hQ _ _ _ q0
  exact Go.step (fun t => s'.trans) (r v T'.heap q1 q2 T' _ X' rfl (N.app q3) q2)
theorem callV (C : Cx Z W own nm code maxL ret) (hd : decode code pc = .ok (.invokevirtual ix, 3)) {y0 : MethodName} {K0 : String} {a : Addr} {Qv : Option Value → Heap → List Loc → Prop} (K : Pays l R W y 3 Wn as' h kc nc Qv) (hQ : Clean Z Qc Qv) (E : Exa Z h a K0) (w1 : (Cond.methodLink own ix y0).before a0 Z = true) (w2 : (Cond.declares y0).before a0 Z = true) (nf : NotFace W.s y0) (w3 : (Cond.selects K0 y0 y).before a0 Z = true) (w5 : (Cond.instanceMethod y).before a0 Z = true) (hy : y0.cls ≠ "java/lang/invoke/MethodHandle" ∧ y0.cls ≠ "java/lang/invoke/VarHandle")
    (has : (Value.ref a :: argsL).toArray = as') (hst : argsL.reverse ++ .ref a :: st = st') (hlen : ∀ sig, parseMethodDescriptor y0.desc = some sig → argsL.length = sig.parameters.length) (hsz : Ls.size = maxL) (hW : (st.map fun v => v.category).sum ≤ Wn) (hk : k + kc = k') (hn : n + nc = n') (hk' : k' ≤ R.cells) (hn' : n' ≤ R.slots) (hp : pc + 3 = pc')
    (r : ∀ v h', Qc v h' → Ext Z.heap h' → Run l R Z W Q h' k' n' (mkF W.m pc' Ls (v.toList ++ st))) : Run l R Z W Q h k n (mkF W.m pc Ls st') := by
  subst hp hk hn has hst
  intro T locs X eT N O
  obtain ⟨cq, kq, qa, qb, qc⟩ := isOf C.hZ eT E
  obtain ⟨v, vm₁, ⟨T', L', k', n'⟩, -, X', ⟨L, q0, l1, y1, z1⟩, s'⟩ := X.virtualBack C.hx (y := y0) (z := y) C.ow (mvT C.hZ w1) (mvT C.hZ w2) nf (mvT C.hZ w3) (mvT C.hZ w5) hy K qa qc (g := mkF W.m pc Ls (argsL.reverse ++ .ref a :: st)) rfl (hsz.trans C.ml.symm) (Steps.refl _) (argsL := argsL) (rest := st) hlen rfl (by show 2 * 0 + _ ≤ _; omega) (C.hb hd) (fun _ _ => ⟨rfl, eT, hk', hn'⟩)
  dsimp only [Pt.U, Pt.locs, Pt.cells, Pt.slots] at X' l1 y1 z1 s' q0
  subst l1 y1 z1
  obtain ⟨q1, q2, q3⟩ := hQ _ _ _ q0
  exact Go.step (fun t => s'.trans) (r v T'.heap q1 q2 T' _ X' rfl (N.app q3) q2)
theorem cleanC {Qc : Post} : Clean Z Qc (fun v h' L => Qc v h' ∧ Ext Z.heap h' ∧ Fr Z.heap.size L) := fun v h' L q => q
end Calls
theorem Ext.refl (h : Heap) : Ext h h := ⟨Nat.le_refl _, fun _ _ q => q⟩
theorem Ext.trans {h1 h2 h3 : Heap} (A : Ext h1 h2) (B : Ext h2 h3) : Ext h1 h3 := ⟨Nat.le_trans A.1 B.1, fun a c q => B.2 a c (A.2 a c q)⟩
theorem Ext.wr {Z : State} {h1 h2 h3 : Heap} {a : Addr} {sl : Nat} {v : Value} (A : Ext h1 h2) (B : Wr h2 h3 a sl v) (q : h1.size ≤ a) : Ext h1 h3 := ((old_of (Z := { Z with heap := h1 }) A).wr B q).2
theorem Ext.keep1 {Z : State} {h1 h2 h3 : Heap} {a : Addr} (A : Ext h1 h2) (B : Keep h2 h3 [a]) (q : h1.size ≤ a) : Ext h1 h3 := ((old_of (Z := { Z with heap := h1 }) A).keep B (allS q all0)).2
/-! ## returns -/
theorem Run.leave (C : Cx Z W own nm code maxL ret) {v : Option Value} {f : JFrame} (hv : ret = none → v = none) (q : Q v h) (hk : k ≤ R.cells) (hn : n ≤ R.slots)
    (s' : ∀ T locs, Std l R W T locs k n → ∀ fs, (∀ (f : JFrame) (acts : List Action), f.method = W.m → f.locked = none → f.entered = [] → (doReturn W.e (T.setTop f) acts v).1 = T.setFrames fs) → Steps W.p.tables W.e W.b (T.setTop f) (T.setFrames fs)) : Run l R Z W Q h k n f := by
  intro T locs X eT N O
  have hlk : W.t.locks = false := C.lk
  obtain ⟨fs, hr, hrun, hended, hW, hsame⟩ := X.leave (v := v) (fun hh => hv (C.rt.symm.trans hh))
  have e2 : (T.setFrames fs).heap = h := eT
  exact ⟨_, _, s' T locs X fs hr, hrun, hended, _, _, rfl, ⟨by rw [e2]; exact q, by rw [e2]; exact O, N⟩, ⟨_, rfl⟩, hW, hsame.mono hk hn⟩
theorem retV (C : Cx Z W own nm code maxL none) (hd : decode code pc = .ok (.return_, 1)) (hk : k ≤ R.cells) (hn : n ≤ R.slots) (q : Q none h) : Run l R Z W Q h k n (mkF W.m pc Ls []) :=
  Run.leave C (fun _ => rfl) q hk hn (fun T locs X fs hr => X.returnOut C.hx C.rt (C.hb hd) hr)
theorem retI (C : Cx Z W own nm code maxL (some .int)) (hd : decode code pc = .ok (.ireturn, 1)) {z : Int32} (hk : k ≤ R.cells) (hn : n ≤ R.slots) (q : Q (some (.int z)) h) : Run l R Z W Q h k n (mkF W.m pc Ls (.int z :: st)) :=
  Run.leave C (fun hh => nomatch hh) q hk hn (fun T locs X fs hr => retOut X C.hx C.rt rfl (Or.inl ⟨rfl, Or.inl rfl, z, rfl⟩) (C.hb hd) hr)
theorem retNar {ty : FieldType} (C : Cx Z W own nm code maxL (some ty)) (ht : ty = .boolean ∨ ty = .byte ∨ ty = .char ∨ ty = .short) (hd : decode code pc = .ok (.ireturn, 1)) {z z' : Int32} (hz : nar ty z = z') (hk : k ≤ R.cells) (hn : n ≤ R.slots) (q : Q (some (.int z')) h) : Run l R Z W Q h k n (mkF W.m pc Ls (.int z :: st)) := by
  subst hz
  exact Run.leave C (fun hh => nomatch hh) q hk hn (fun T locs X fs hr => retN X C.hx C.rt ht (C.hb hd) hr)
theorem retA {ty : FieldType} {v : Value} (C : Cx Z W own nm code maxL (some ty)) (ht : ty.isReference = true) (hv : v.isRef = true) (hd : decode code pc = .ok (.areturn, 1)) (hk : k ≤ R.cells) (hn : n ≤ R.slots) (q : Q (some v) h) : Run l R Z W Q h k n (mkF W.m pc Ls (v :: st)) :=
  Run.leave C (fun hh => nomatch hh) q hk hn (fun T locs X fs hr => retOut X C.hx C.rt (by rcases ref_cases hv with rfl | ⟨a, rfl⟩ <;> cases ty <;> simp [FieldType.isReference] at ht <;> rfl) (Or.inr (Or.inr (Or.inr (Or.inr ⟨rfl, ht, hv⟩)))) (C.hb hd) hr)
end Kit
end Wk

def Ws (a0 : Array Value) (Z : State) : Prop := ∀ d ∈ tables_1, d.before a0 Z = true
theorem Wk.nar_i2b {x v : Int32} (h : x.toInt8.toInt32 = v) : nar .byte v = v := by
  subst h
  show x.toInt8.toInt32.toInt8.toInt32 = _
  simp
theorem Wk.nar_rng {c : Int32} (h : ¬ c < 0 ∧ ¬ (255 : Int32) < c) : nar .char c = c := by
  show c.toUInt32.toUInt16.toUInt32.toInt32 = c
  have h1 := c_i2c c
  obtain ⟨h2, h3⟩ := h
  rw [Int32.lt_iff_toInt_lt] at h2 h3
  have e0 : (0 : Int32).toInt = 0 := by decide
  have e1 : (255 : Int32).toInt = 255 := by decide
  exact Int32.toInt_inj.mp (by omega)
theorem Wk.mask31 {f v : Int32} (h : f &&& 2147483647 = v) : 0 ≤ v.toInt := by
  subst h
  rw [c_mask f 2147483647 31 (by decide) (by decide)]
  omega
theorem Wk.modr {v d w : Int32} (h0 : 0 ≤ v.toInt) (hd : 0 < d.toInt) (h : v % d = w) : 0 ≤ w.toInt ∧ w.toInt < d.toInt := by
  subst h
  have q := (c_iremV v d).1 h0 hd
  exact ⟨q.1, q.2.1⟩
theorem Wk.subI {x y v : Int32} (h : x - y = v) : (v.toInt - (x.toInt - y.toInt)) % 4294967296 = 0 := h ▸ c_isub x y
theorem Wk.eqI {x y : Int32} (h : x.toInt = y.toInt) : x = y := Int32.toInt_inj.mp h
theorem Wk.ltI {x y : Int32} : x < y ↔ x.toInt < y.toInt := Int32.lt_iff_toInt_lt
theorem Wk.nn {x : Int32} (h : 0 ≤ x.toInt) : ¬ x < 0 := by
  have e0 : (0 : Int32).toInt = 0 := by decide
  rw [Wk.ltI]; omega
theorem Wk.ofNat {x : Int32} (h : 0 ≤ x.toInt) : x = Int32.ofNat x.toNatClampNeg := ((back32 (Wk.nn h)).1).symm
theorem Wk.nat32 {n : Nat} (h : n ≤ 4000) : (Int32.ofNat n).toInt = n ∧ (Int32.ofNat n).toNatClampNeg = n := ⟨Int32.toInt_ofNat_of_lt (by omega), Int32.toNatClampNeg_ofNat_of_lt (by omega)⟩
theorem Wk.succ32 {n : Nat} (h : n < 4000) : Int32.ofNat n + Int32.ofInt 1 = Int32.ofNat (n + 1) := by
  have a := c_iadd (Int32.ofNat n) 1
  have b := rng32 (Int32.ofNat n + 1)
  have c1 : (1 : Int32).toInt = 1 := by decide
  have c2 := (Wk.nat32 (n := n) (by omega)).1
  have c3 := (Wk.nat32 (n := n + 1) (by omega)).1
  exact Wk.eqI (by show (Int32.ofNat n + 1).toInt = _; omega)
theorem Wk.lt32 {a b : Nat} (ha : a ≤ 4000) (hb : b ≤ 4000) : Int32.ofNat a < Int32.ofNat b ↔ a < b := by rw [Wk.ltI, (Wk.nat32 ha).1, (Wk.nat32 hb).1]; omega
theorem Wk.eq32 {a b : Nat} (ha : a ≤ 4000) (hb : b ≤ 4000) : Int32.ofNat a = Int32.ofNat b ↔ a = b := by
  constructor
  · intro h; have q := congrArg Int32.toInt h; rw [(Wk.nat32 ha).1, (Wk.nat32 hb).1] at q; omega
  · rintro rfl; rfl
theorem Wk.nn32 {a : Nat} (ha : a ≤ 4000) : ¬ Int32.ofNat a < 0 := Wk.nn (by rw [(Wk.nat32 ha).1]; omega)
abbrev StN : String := "java/lang/String"
abbrev PcN : String := "jdk/internal/util/Preconditions"
/-- null, or a String -/
def SN (Z : State) (h : Heap) (v : Value) : Prop := v = .null ∨ ∃ x, v = .ref x ∧ Exa Z h x StN
theorem SN.ext {Z : State} {h h' : Heap} {v : Value} (F : SN Z h v) (E : Ext h h') : SN Z h' v := F.imp id fun ⟨x, e, A⟩ => ⟨x, e, A.ext E⟩
theorem SN.wr {Z : State} {h h' : Heap} {v u : Value} {b : Addr} {sl : Nat} (F : SN Z h v) (W : Wr h h' b sl u) : SN Z h' v := F.imp id fun ⟨x, e, A⟩ => ⟨x, e, A.wr W⟩
theorem SN.keep {Z : State} {h h' : Heap} {v : Value} {ws : List Addr} (F : SN Z h v) (K : Keep h h' ws) : SN Z h' v := F.imp id fun ⟨x, e, A⟩ => ⟨x, e, A.keep K⟩
theorem SN.ref {Z : State} {h : Heap} {v : Value} (F : SN Z h v) : v.isRef = true := by rcases F with rfl | ⟨x, rfl, -⟩ <;> rfl
/-- the named sets of the JDK's statics, at the start -/
def Sets (Z : State) : Prop := ∃ (z : Int32) (fm : Value), Sta Z Z.heap StN "COMPACT_STRINGS" "Z" (.int z) ∧ ¬ z = 0 ∧ Sta Z Z.heap PcN "SIOOBE_FORMATTER" "Ljava/util/function/BiFunction;" fm ∧ fm.isRef = true
theorem w0 {a0 : Array Value} {Z : State} (hw : Ws a0 Z) : (Jvm.Cond.constant "com/example/shelfmark/shelfmark/model/MarcRecordIsTagPinLaw" (7 : Nat) (2147483647 : Int32)).before a0 Z = true := hw _ (List.mem_of_getElem? (i := 0) rfl)
theorem w1 {a0 : Array Value} {Z : State} (hw : Ws a0 Z) : (Jvm.Cond.constant "com/example/shelfmark/shelfmark/model/MarcRecordIsTagPinLaw" (8 : Nat) (65535 : Int32)).before a0 Z = true := hw _ (List.mem_of_getElem? (i := 1) rfl)
theorem w2 {a0 : Array Value} {Z : State} (hw : Ws a0 Z) : (Jvm.Cond.methodLink "com/example/shelfmark/shelfmark/model/MarcRecordIsTagPinLaw" (9 : Nat) ({ cls := "com/example/shelfmark/shelfmark/model/MarcRecordIsTagPinLaw", name := "make", desc := "(ICCCC)Ljava/lang/String;" } : Jvm.MethodName)).before a0 Z = true := hw _ (List.mem_of_getElem? (i := 2) rfl)
theorem w3 {a0 : Array Value} {Z : State} (hw : Ws a0 Z) : (Jvm.Cond.static ({ cls := "com/example/shelfmark/shelfmark/model/MarcRecordIsTagPinLaw", name := "make", desc := "(ICCCC)Ljava/lang/String;" } : Jvm.MethodName)).before a0 Z = true := hw _ (List.mem_of_getElem? (i := 3) rfl)
theorem w4 {a0 : Array Value} {Z : State} (hw : Ws a0 Z) : (Jvm.Cond.initialized "com/example/shelfmark/shelfmark/model/MarcRecordIsTagPinLaw").before a0 Z = true := hw _ (List.mem_of_getElem? (i := 4) rfl)
theorem w5 {a0 : Array Value} {Z : State} (hw : Ws a0 Z) : (Jvm.Cond.code ({ cls := "com/example/shelfmark/shelfmark/model/MarcRecordIsTagPinLaw", name := "make", desc := "(ICCCC)Ljava/lang/String;" } : Jvm.MethodName) method_3_code (5 : Nat) (Option.some (Jvm.ClassFile.FieldType.object "java/lang/String"))).before a0 Z = true := hw _ (List.mem_of_getElem? (i := 5) rfl)
theorem w6 {a0 : Array Value} {Z : State} (hw : Ws a0 Z) : (Jvm.Cond.classLink "com/example/shelfmark/shelfmark/model/MarcRecordIsTagPinLaw" (25 : Nat) "java/lang/String").before a0 Z = true := hw _ (List.mem_of_getElem? (i := 6) rfl)
theorem w7 {a0 : Array Value} {Z : State} (hw : Ws a0 Z) : (Jvm.Cond.instantiable "java/lang/String" (4 : Nat)).before a0 Z = true := hw _ (List.mem_of_getElem? (i := 7) rfl)
theorem w8 {a0 : Array Value} {Z : State} (hw : Ws a0 Z) : (Jvm.Cond.initialized "java/lang/String").before a0 Z = true := hw _ (List.mem_of_getElem? (i := 8) rfl)
theorem w9 {a0 : Array Value} {Z : State} (hw : Ws a0 Z) : (Jvm.Cond.arrayClass Jvm.ClassFile.FieldType.char).before a0 Z = true := hw _ (List.mem_of_getElem? (i := 9) rfl)
theorem w10 {a0 : Array Value} {Z : State} (hw : Ws a0 Z) : (Jvm.Cond.methodLink "com/example/shelfmark/shelfmark/model/MarcRecordIsTagPinLaw" (27 : Nat) ({ cls := "java/lang/String", name := "<init>", desc := "([C)V" } : Jvm.MethodName)).before a0 Z = true := hw _ (List.mem_of_getElem? (i := 10) rfl)
theorem w11 {a0 : Array Value} {Z : State} (hw : Ws a0 Z) : (Jvm.Cond.instanceMethod ({ cls := "java/lang/String", name := "<init>", desc := "([C)V" } : Jvm.MethodName)).before a0 Z = true := hw _ (List.mem_of_getElem? (i := 11) rfl)
theorem w12 {a0 : Array Value} {Z : State} (hw : Ws a0 Z) : (Jvm.Cond.code ({ cls := "java/lang/String", name := "<init>", desc := "([C)V" } : Jvm.MethodName) jdk_42_method_3_code (2 : Nat) (Option.none : Option Jvm.ClassFile.FieldType)).before a0 Z = true := hw _ (List.mem_of_getElem? (i := 12) rfl)
theorem w13 {a0 : Array Value} {Z : State} (hw : Ws a0 Z) : (Jvm.Cond.methodLink "java/lang/String" (27 : Nat) ({ cls := "java/lang/String", name := "<init>", desc := "([CIILjava/lang/Void;)V" } : Jvm.MethodName)).before a0 Z = true := hw _ (List.mem_of_getElem? (i := 13) rfl)
theorem w14 {a0 : Array Value} {Z : State} (hw : Ws a0 Z) : (Jvm.Cond.instanceMethod ({ cls := "java/lang/String", name := "<init>", desc := "([CIILjava/lang/Void;)V" } : Jvm.MethodName)).before a0 Z = true := hw _ (List.mem_of_getElem? (i := 14) rfl)
theorem w16 {a0 : Array Value} {Z : State} (hw : Ws a0 Z) : (Jvm.Cond.code ({ cls := "java/lang/String", name := "<init>", desc := "([CIILjava/lang/Void;)V" } : Jvm.MethodName) jdk_42_method_149_code (6 : Nat) (Option.none : Option Jvm.ClassFile.FieldType)).before a0 Z = true := hw _ (List.mem_of_getElem? (i := 16) rfl)
theorem w17 {a0 : Array Value} {Z : State} (hw : Ws a0 Z) : (Jvm.Cond.methodLink "java/lang/String" (1 : Nat) ({ cls := "java/lang/Object", name := "<init>", desc := "()V" } : Jvm.MethodName)).before a0 Z = true := hw _ (List.mem_of_getElem? (i := 17) rfl)
theorem w18 {a0 : Array Value} {Z : State} (hw : Ws a0 Z) : (Jvm.Cond.instanceMethod ({ cls := "java/lang/Object", name := "<init>", desc := "()V" } : Jvm.MethodName)).before a0 Z = true := hw _ (List.mem_of_getElem? (i := 18) rfl)
theorem w19 {a0 : Array Value} {Z : State} (hw : Ws a0 Z) : (Jvm.Cond.code ({ cls := "java/lang/Object", name := "<init>", desc := "()V" } : Jvm.MethodName) object_method_1_code (1 : Nat) (Option.none : Option Jvm.ClassFile.FieldType)).before a0 Z = true := hw _ (List.mem_of_getElem? (i := 19) rfl)
theorem w20 {a0 : Array Value} {Z : State} (hw : Ws a0 Z) : (Jvm.Cond.stringLink "java/lang/String" (7 : Nat) "").before a0 Z = true := hw _ (List.mem_of_getElem? (i := 20) rfl)
theorem w21 {a0 : Array Value} {Z : State} (hw : Ws a0 Z) : (Jvm.Cond.arrayClass Jvm.ClassFile.FieldType.byte).before a0 Z = true := hw _ (List.mem_of_getElem? (i := 21) rfl)
theorem w22 {a0 : Array Value} {Z : State} (hw : Ws a0 Z) : (Jvm.Cond.laysFinal "java/lang/String" "java/lang/String" "value" "[B").before a0 Z = true := hw _ (List.mem_of_getElem? (i := 22) rfl)
theorem w23 {a0 : Array Value} {Z : State} (hw : Ws a0 Z) : (Jvm.Cond.laysFinal "java/lang/String" "java/lang/String" "coder" "B").before a0 Z = true := hw _ (List.mem_of_getElem? (i := 23) rfl)
theorem w24 {a0 : Array Value} {Z : State} (hw : Ws a0 Z) : (Jvm.Cond.soleField "java/lang/String" "value").before a0 Z = true := hw _ (List.mem_of_getElem? (i := 24) rfl)
theorem w25 {a0 : Array Value} {Z : State} (hw : Ws a0 Z) : (Jvm.Cond.soleField "java/lang/String" "coder").before a0 Z = true := hw _ (List.mem_of_getElem? (i := 25) rfl)
theorem w26 {a0 : Array Value} {Z : State} (hw : Ws a0 Z) : (Jvm.Cond.fieldLink "java/lang/String" (9 : Nat) "java/lang/String" "value" "[B").before a0 Z = true := hw _ (List.mem_of_getElem? (i := 26) rfl)
theorem w27 {a0 : Array Value} {Z : State} (hw : Ws a0 Z) : (Jvm.Cond.fieldLink "java/lang/String" (15 : Nat) "java/lang/String" "coder" "B").before a0 Z = true := hw _ (List.mem_of_getElem? (i := 27) rfl)
theorem w28 {a0 : Array Value} {Z : State} (hw : Ws a0 Z) : (Jvm.Cond.methodLink "com/example/shelfmark/shelfmark/model/MarcRecordIsTagPinLaw" (19 : Nat) ({ cls := "com/example/shelfmark/shelfmark/model/MarcRecord", name := "isTag", desc := "(Ljava/lang/String;)Z" } : Jvm.MethodName)).before a0 Z = true := hw _ (List.mem_of_getElem? (i := 28) rfl)
theorem w29 {a0 : Array Value} {Z : State} (hw : Ws a0 Z) : (Jvm.Cond.static ({ cls := "com/example/shelfmark/shelfmark/model/MarcRecord", name := "isTag", desc := "(Ljava/lang/String;)Z" } : Jvm.MethodName)).before a0 Z = true := hw _ (List.mem_of_getElem? (i := 29) rfl)
theorem w30 {a0 : Array Value} {Z : State} (hw : Ws a0 Z) : (Jvm.Cond.initialized "com/example/shelfmark/shelfmark/model/MarcRecord").before a0 Z = true := hw _ (List.mem_of_getElem? (i := 30) rfl)
theorem w31 {a0 : Array Value} {Z : State} (hw : Ws a0 Z) : (Jvm.Cond.code ({ cls := "com/example/shelfmark/shelfmark/model/MarcRecord", name := "isTag", desc := "(Ljava/lang/String;)Z" } : Jvm.MethodName) prog_36_method_9_code (4 : Nat) (Option.some Jvm.ClassFile.FieldType.boolean)).before a0 Z = true := hw _ (List.mem_of_getElem? (i := 31) rfl)
theorem w32 {a0 : Array Value} {Z : State} (hw : Ws a0 Z) : (Jvm.Cond.methodLink "com/example/shelfmark/shelfmark/model/MarcRecord" (101 : Nat) ({ cls := "java/lang/String", name := "length", desc := "()I" } : Jvm.MethodName)).before a0 Z = true := hw _ (List.mem_of_getElem? (i := 32) rfl)
theorem w33 {a0 : Array Value} {Z : State} (hw : Ws a0 Z) : (Jvm.Cond.declares ({ cls := "java/lang/String", name := "length", desc := "()I" } : Jvm.MethodName)).before a0 Z = true := hw _ (List.mem_of_getElem? (i := 33) rfl)
theorem w34 {a0 : Array Value} {Z : State} (hw : Ws a0 Z) : (Jvm.Cond.instanceMethod ({ cls := "java/lang/String", name := "length", desc := "()I" } : Jvm.MethodName)).before a0 Z = true := hw _ (List.mem_of_getElem? (i := 34) rfl)
theorem w35 {a0 : Array Value} {Z : State} (hw : Ws a0 Z) : (Jvm.Cond.selects "java/lang/String" ({ cls := "java/lang/String", name := "length", desc := "()I" } : Jvm.MethodName) ({ cls := "java/lang/String", name := "length", desc := "()I" } : Jvm.MethodName)).before a0 Z = true := hw _ (List.mem_of_getElem? (i := 35) rfl)
theorem w36 {a0 : Array Value} {Z : State} (hw : Ws a0 Z) : (Jvm.Cond.code ({ cls := "java/lang/String", name := "length", desc := "()I" } : Jvm.MethodName) jdk_42_method_54_code (1 : Nat) (Option.some Jvm.ClassFile.FieldType.int)).before a0 Z = true := hw _ (List.mem_of_getElem? (i := 36) rfl)
theorem w37 {a0 : Array Value} {Z : State} (hw : Ws a0 Z) : (Jvm.Cond.methodLink "java/lang/String" (335 : Nat) ({ cls := "java/lang/String", name := "coder", desc := "()B" } : Jvm.MethodName)).before a0 Z = true := hw _ (List.mem_of_getElem? (i := 37) rfl)
theorem w38 {a0 : Array Value} {Z : State} (hw : Ws a0 Z) : (Jvm.Cond.declares ({ cls := "java/lang/String", name := "coder", desc := "()B" } : Jvm.MethodName)).before a0 Z = true := hw _ (List.mem_of_getElem? (i := 38) rfl)
theorem w39 {a0 : Array Value} {Z : State} (hw : Ws a0 Z) : (Jvm.Cond.instanceMethod ({ cls := "java/lang/String", name := "coder", desc := "()B" } : Jvm.MethodName)).before a0 Z = true := hw _ (List.mem_of_getElem? (i := 39) rfl)
theorem w40 {a0 : Array Value} {Z : State} (hw : Ws a0 Z) : (Jvm.Cond.selects "java/lang/String" ({ cls := "java/lang/String", name := "coder", desc := "()B" } : Jvm.MethodName) ({ cls := "java/lang/String", name := "coder", desc := "()B" } : Jvm.MethodName)).before a0 Z = true := hw _ (List.mem_of_getElem? (i := 40) rfl)
theorem w41 {a0 : Array Value} {Z : State} (hw : Ws a0 Z) : (Jvm.Cond.code ({ cls := "java/lang/String", name := "coder", desc := "()B" } : Jvm.MethodName) jdk_42_method_152_code (1 : Nat) (Option.some Jvm.ClassFile.FieldType.byte)).before a0 Z = true := hw _ (List.mem_of_getElem? (i := 41) rfl)
theorem w42 {a0 : Array Value} {Z : State} (hw : Ws a0 Z) : (Jvm.Cond.fieldLink "java/lang/String" (38 : Nat) "java/lang/String" "COMPACT_STRINGS" "Z").before a0 Z = true := hw _ (List.mem_of_getElem? (i := 42) rfl)
theorem w43 {a0 : Array Value} {Z : State} (hw : Ws a0 Z) : (Jvm.Cond.methodLink "com/example/shelfmark/shelfmark/model/MarcRecordIsTagPinLaw" (30 : Nat) ({ cls := "java/lang/String", name := "valueOf", desc := "(C)Ljava/lang/String;" } : Jvm.MethodName)).before a0 Z = true := hw _ (List.mem_of_getElem? (i := 43) rfl)
theorem w44 {a0 : Array Value} {Z : State} (hw : Ws a0 Z) : (Jvm.Cond.static ({ cls := "java/lang/String", name := "valueOf", desc := "(C)Ljava/lang/String;" } : Jvm.MethodName)).before a0 Z = true := hw _ (List.mem_of_getElem? (i := 44) rfl)
theorem w45 {a0 : Array Value} {Z : State} (hw : Ws a0 Z) : (Jvm.Cond.code ({ cls := "java/lang/String", name := "valueOf", desc := "(C)Ljava/lang/String;" } : Jvm.MethodName) jdk_42_method_139_code (1 : Nat) (Option.some (Jvm.ClassFile.FieldType.object "java/lang/String"))).before a0 Z = true := hw _ (List.mem_of_getElem? (i := 45) rfl)
theorem w46 {a0 : Array Value} {Z : State} (hw : Ws a0 Z) : (Jvm.Cond.methodLink "java/lang/String" (1015 : Nat) ({ cls := "java/lang/StringLatin1", name := "canEncode", desc := "(C)Z" } : Jvm.MethodName)).before a0 Z = true := hw _ (List.mem_of_getElem? (i := 46) rfl)
theorem w47 {a0 : Array Value} {Z : State} (hw : Ws a0 Z) : (Jvm.Cond.static ({ cls := "java/lang/StringLatin1", name := "canEncode", desc := "(C)Z" } : Jvm.MethodName)).before a0 Z = true := hw _ (List.mem_of_getElem? (i := 47) rfl)
theorem w48 {a0 : Array Value} {Z : State} (hw : Ws a0 Z) : (Jvm.Cond.initialized "java/lang/StringLatin1").before a0 Z = true := hw _ (List.mem_of_getElem? (i := 48) rfl)
theorem w49 {a0 : Array Value} {Z : State} (hw : Ws a0 Z) : (Jvm.Cond.code ({ cls := "java/lang/StringLatin1", name := "canEncode", desc := "(C)Z" } : Jvm.MethodName) jdk_43_method_3_code (1 : Nat) (Option.some Jvm.ClassFile.FieldType.boolean)).before a0 Z = true := hw _ (List.mem_of_getElem? (i := 49) rfl)
theorem w50 {a0 : Array Value} {Z : State} (hw : Ws a0 Z) : (Jvm.Cond.classLink "java/lang/String" (10 : Nat) "java/lang/String").before a0 Z = true := hw _ (List.mem_of_getElem? (i := 50) rfl)
theorem w51 {a0 : Array Value} {Z : State} (hw : Ws a0 Z) : (Jvm.Cond.methodLink "java/lang/String" (1018 : Nat) ({ cls := "java/lang/StringLatin1", name := "toBytes", desc := "(C)[B" } : Jvm.MethodName)).before a0 Z = true := hw _ (List.mem_of_getElem? (i := 51) rfl)
theorem w52 {a0 : Array Value} {Z : State} (hw : Ws a0 Z) : (Jvm.Cond.static ({ cls := "java/lang/StringLatin1", name := "toBytes", desc := "(C)[B" } : Jvm.MethodName)).before a0 Z = true := hw _ (List.mem_of_getElem? (i := 52) rfl)
theorem w53 {a0 : Array Value} {Z : State} (hw : Ws a0 Z) : (Jvm.Cond.code ({ cls := "java/lang/StringLatin1", name := "toBytes", desc := "(C)[B" } : Jvm.MethodName) jdk_43_method_46_code (1 : Nat) (Option.some (Jvm.ClassFile.FieldType.array Jvm.ClassFile.FieldType.byte))).before a0 Z = true := hw _ (List.mem_of_getElem? (i := 53) rfl)
theorem w54 {a0 : Array Value} {Z : State} (hw : Ws a0 Z) : (Jvm.Cond.methodLink "java/lang/String" (209 : Nat) ({ cls := "java/lang/String", name := "<init>", desc := "([BB)V" } : Jvm.MethodName)).before a0 Z = true := hw _ (List.mem_of_getElem? (i := 54) rfl)
theorem w55 {a0 : Array Value} {Z : State} (hw : Ws a0 Z) : (Jvm.Cond.instanceMethod ({ cls := "java/lang/String", name := "<init>", desc := "([BB)V" } : Jvm.MethodName)).before a0 Z = true := hw _ (List.mem_of_getElem? (i := 55) rfl)
theorem w56 {a0 : Array Value} {Z : State} (hw : Ws a0 Z) : (Jvm.Cond.code ({ cls := "java/lang/String", name := "<init>", desc := "([BB)V" } : Jvm.MethodName) jdk_42_method_151_code (3 : Nat) (Option.none : Option Jvm.ClassFile.FieldType)).before a0 Z = true := hw _ (List.mem_of_getElem? (i := 56) rfl)
theorem w57 {a0 : Array Value} {Z : State} (hw : Ws a0 Z) : (Jvm.Cond.methodLink "java/lang/String" (177 : Nat) ({ cls := "java/lang/StringUTF16", name := "compress", desc := "([CII)[B" } : Jvm.MethodName)).before a0 Z = true := hw _ (List.mem_of_getElem? (i := 57) rfl)
theorem w58 {a0 : Array Value} {Z : State} (hw : Ws a0 Z) : (Jvm.Cond.static ({ cls := "java/lang/StringUTF16", name := "compress", desc := "([CII)[B" } : Jvm.MethodName)).before a0 Z = true := hw _ (List.mem_of_getElem? (i := 58) rfl)
theorem w59 {a0 : Array Value} {Z : State} (hw : Ws a0 Z) : (Jvm.Cond.initialized "java/lang/StringUTF16").before a0 Z = true := hw _ (List.mem_of_getElem? (i := 59) rfl)
theorem w60 {a0 : Array Value} {Z : State} (hw : Ws a0 Z) : (Jvm.Cond.code ({ cls := "java/lang/StringUTF16", name := "compress", desc := "([CII)[B" } : Jvm.MethodName) jdk_52_method_16_code (6 : Nat) (Option.some (Jvm.ClassFile.FieldType.array Jvm.ClassFile.FieldType.byte))).before a0 Z = true := hw _ (List.mem_of_getElem? (i := 60) rfl)
theorem w61 {a0 : Array Value} {Z : State} (hw : Ws a0 Z) : (Jvm.Cond.methodLink "java/lang/StringUTF16" (115 : Nat) ({ cls := "java/lang/StringUTF16", name := "compress", desc := "([CI[BII)I" } : Jvm.MethodName)).before a0 Z = true := hw _ (List.mem_of_getElem? (i := 61) rfl)
theorem w62 {a0 : Array Value} {Z : State} (hw : Ws a0 Z) : (Jvm.Cond.static ({ cls := "java/lang/StringUTF16", name := "compress", desc := "([CI[BII)I" } : Jvm.MethodName)).before a0 Z = true := hw _ (List.mem_of_getElem? (i := 62) rfl)
theorem w63 {a0 : Array Value} {Z : State} (hw : Ws a0 Z) : (Jvm.Cond.code ({ cls := "java/lang/StringUTF16", name := "compress", desc := "([CI[BII)I" } : Jvm.MethodName) jdk_52_method_21_code (7 : Nat) (Option.some Jvm.ClassFile.FieldType.int)).before a0 Z = true := hw _ (List.mem_of_getElem? (i := 63) rfl)
theorem w64 {a0 : Array Value} {Z : State} (hw : Ws a0 Z) : (Jvm.Cond.methodLink "java/lang/String" (47 : Nat) ({ cls := "java/lang/StringUTF16", name := "coderFromArrayLen", desc := "([BI)B" } : Jvm.MethodName)).before a0 Z = true := hw _ (List.mem_of_getElem? (i := 64) rfl)
theorem w65 {a0 : Array Value} {Z : State} (hw : Ws a0 Z) : (Jvm.Cond.static ({ cls := "java/lang/StringUTF16", name := "coderFromArrayLen", desc := "([BI)B" } : Jvm.MethodName)).before a0 Z = true := hw _ (List.mem_of_getElem? (i := 65) rfl)
theorem w66 {a0 : Array Value} {Z : State} (hw : Ws a0 Z) : (Jvm.Cond.code ({ cls := "java/lang/StringUTF16", name := "coderFromArrayLen", desc := "([BI)B" } : Jvm.MethodName) jdk_52_method_15_code (2 : Nat) (Option.some Jvm.ClassFile.FieldType.byte)).before a0 Z = true := hw _ (List.mem_of_getElem? (i := 66) rfl)
theorem w67 {a0 : Array Value} {Z : State} (hw : Ws a0 Z) : (Jvm.Cond.methodLink "java/lang/StringUTF16" (119 : Nat) ({ cls := "java/lang/StringUTF16", name := "toBytes", desc := "([CII)[B" } : Jvm.MethodName)).before a0 Z = true := hw _ (List.mem_of_getElem? (i := 67) rfl)
theorem w68 {a0 : Array Value} {Z : State} (hw : Ws a0 Z) : (Jvm.Cond.static ({ cls := "java/lang/StringUTF16", name := "toBytes", desc := "([CII)[B" } : Jvm.MethodName)).before a0 Z = true := hw _ (List.mem_of_getElem? (i := 68) rfl)
theorem w69 {a0 : Array Value} {Z : State} (hw : Ws a0 Z) : (Jvm.Cond.code ({ cls := "java/lang/StringUTF16", name := "toBytes", desc := "([CII)[B" } : Jvm.MethodName) jdk_52_method_14_code (5 : Nat) (Option.some (Jvm.ClassFile.FieldType.array Jvm.ClassFile.FieldType.byte))).before a0 Z = true := hw _ (List.mem_of_getElem? (i := 69) rfl)
theorem w70 {a0 : Array Value} {Z : State} (hw : Ws a0 Z) : (Jvm.Cond.methodLink "java/lang/StringUTF16" (107 : Nat) ({ cls := "java/lang/StringUTF16", name := "newBytesFor", desc := "(I)[B" } : Jvm.MethodName)).before a0 Z = true := hw _ (List.mem_of_getElem? (i := 70) rfl)
theorem w71 {a0 : Array Value} {Z : State} (hw : Ws a0 Z) : (Jvm.Cond.static ({ cls := "java/lang/StringUTF16", name := "newBytesFor", desc := "(I)[B" } : Jvm.MethodName)).before a0 Z = true := hw _ (List.mem_of_getElem? (i := 71) rfl)
theorem w72 {a0 : Array Value} {Z : State} (hw : Ws a0 Z) : (Jvm.Cond.code ({ cls := "java/lang/StringUTF16", name := "newBytesFor", desc := "(I)[B" } : Jvm.MethodName) jdk_52_method_2_code (1 : Nat) (Option.some (Jvm.ClassFile.FieldType.array Jvm.ClassFile.FieldType.byte))).before a0 Z = true := hw _ (List.mem_of_getElem? (i := 72) rfl)
theorem w73 {a0 : Array Value} {Z : State} (hw : Ws a0 Z) : (Jvm.Cond.methodLink "java/lang/StringUTF16" (11 : Nat) ({ cls := "java/lang/StringUTF16", name := "newBytesLength", desc := "(I)I" } : Jvm.MethodName)).before a0 Z = true := hw _ (List.mem_of_getElem? (i := 73) rfl)
theorem w74 {a0 : Array Value} {Z : State} (hw : Ws a0 Z) : (Jvm.Cond.static ({ cls := "java/lang/StringUTF16", name := "newBytesLength", desc := "(I)I" } : Jvm.MethodName)).before a0 Z = true := hw _ (List.mem_of_getElem? (i := 74) rfl)
theorem w75 {a0 : Array Value} {Z : State} (hw : Ws a0 Z) : (Jvm.Cond.code ({ cls := "java/lang/StringUTF16", name := "newBytesLength", desc := "(I)I" } : Jvm.MethodName) jdk_52_method_3_code (1 : Nat) (Option.some Jvm.ClassFile.FieldType.int)).before a0 Z = true := hw _ (List.mem_of_getElem? (i := 75) rfl)
theorem w76 {a0 : Array Value} {Z : State} (hw : Ws a0 Z) : (Jvm.Cond.constant "java/lang/StringUTF16" (20 : Nat) (1073741823 : Int32)).before a0 Z = true := hw _ (List.mem_of_getElem? (i := 76) rfl)
theorem w77 {a0 : Array Value} {Z : State} (hw : Ws a0 Z) : (Jvm.Cond.methodLink "java/lang/StringUTF16" (111 : Nat) ({ cls := "java/lang/StringUTF16", name := "putChar", desc := "([BII)V" } : Jvm.MethodName)).before a0 Z = true := hw _ (List.mem_of_getElem? (i := 77) rfl)
theorem w78 {a0 : Array Value} {Z : State} (hw : Ws a0 Z) : (Jvm.Cond.static ({ cls := "java/lang/StringUTF16", name := "putChar", desc := "([BII)V" } : Jvm.MethodName)).before a0 Z = true := hw _ (List.mem_of_getElem? (i := 78) rfl)
theorem w79 {a0 : Array Value} {Z : State} (hw : Ws a0 Z) : (Jvm.Cond.code ({ cls := "java/lang/StringUTF16", name := "putChar", desc := "([BII)V" } : Jvm.MethodName) jdk_52_method_4_code (3 : Nat) (Option.none : Option Jvm.ClassFile.FieldType)).before a0 Z = true := hw _ (List.mem_of_getElem? (i := 79) rfl)
theorem w80 {a0 : Array Value} {Z : State} (hw : Ws a0 Z) : (Jvm.Cond.fieldLink "java/lang/StringUTF16" (44 : Nat) "java/lang/StringUTF16" "$assertionsDisabled" "Z").before a0 Z = true := hw _ (List.mem_of_getElem? (i := 80) rfl)
theorem w81 {a0 : Array Value} {Z : State} (hw : Ws a0 Z) : (Jvm.Cond.fieldLink "java/lang/StringUTF16" (59 : Nat) "java/lang/StringUTF16" "HI_BYTE_SHIFT" "I").before a0 Z = true := hw _ (List.mem_of_getElem? (i := 81) rfl)
theorem w82 {a0 : Array Value} {Z : State} (hw : Ws a0 Z) : (Jvm.Cond.fieldLink "java/lang/StringUTF16" (63 : Nat) "java/lang/StringUTF16" "LO_BYTE_SHIFT" "I").before a0 Z = true := hw _ (List.mem_of_getElem? (i := 82) rfl)
theorem w83 {a0 : Array Value} {Z : State} (hw : Ws a0 Z) : (Jvm.Cond.methodLink "java/lang/StringUTF16" (71 : Nat) ({ cls := "java/lang/StringUTF16", name := "getChar", desc := "([BI)C" } : Jvm.MethodName)).before a0 Z = true := hw _ (List.mem_of_getElem? (i := 83) rfl)
theorem w84 {a0 : Array Value} {Z : State} (hw : Ws a0 Z) : (Jvm.Cond.static ({ cls := "java/lang/StringUTF16", name := "getChar", desc := "([BI)C" } : Jvm.MethodName)).before a0 Z = true := hw _ (List.mem_of_getElem? (i := 84) rfl)
theorem w85 {a0 : Array Value} {Z : State} (hw : Ws a0 Z) : (Jvm.Cond.code ({ cls := "java/lang/StringUTF16", name := "getChar", desc := "([BI)C" } : Jvm.MethodName) jdk_52_method_5_code (2 : Nat) (Option.some Jvm.ClassFile.FieldType.char)).before a0 Z = true := hw _ (List.mem_of_getElem? (i := 85) rfl)
theorem w86 {a0 : Array Value} {Z : State} (hw : Ws a0 Z) : (Jvm.Cond.methodLink "com/example/shelfmark/shelfmark/model/MarcRecordIsTagPinLaw" (15 : Nat) ({ cls := "com/example/shelfmark/shelfmark/model/MarcRecordIsTagPinLaw", name := "alnum", desc := "(C)Z" } : Jvm.MethodName)).before a0 Z = true := hw _ (List.mem_of_getElem? (i := 86) rfl)
theorem w87 {a0 : Array Value} {Z : State} (hw : Ws a0 Z) : (Jvm.Cond.static ({ cls := "com/example/shelfmark/shelfmark/model/MarcRecordIsTagPinLaw", name := "alnum", desc := "(C)Z" } : Jvm.MethodName)).before a0 Z = true := hw _ (List.mem_of_getElem? (i := 87) rfl)
theorem w88 {a0 : Array Value} {Z : State} (hw : Ws a0 Z) : (Jvm.Cond.code ({ cls := "com/example/shelfmark/shelfmark/model/MarcRecordIsTagPinLaw", name := "alnum", desc := "(C)Z" } : Jvm.MethodName) method_4_code (3 : Nat) (Option.some Jvm.ClassFile.FieldType.boolean)).before a0 Z = true := hw _ (List.mem_of_getElem? (i := 88) rfl)
theorem w89 {a0 : Array Value} {Z : State} (hw : Ws a0 Z) : (Jvm.Cond.methodLink "com/example/shelfmark/shelfmark/model/MarcRecord" (105 : Nat) ({ cls := "java/lang/String", name := "charAt", desc := "(I)C" } : Jvm.MethodName)).before a0 Z = true := hw _ (List.mem_of_getElem? (i := 89) rfl)
theorem w90 {a0 : Array Value} {Z : State} (hw : Ws a0 Z) : (Jvm.Cond.declares ({ cls := "java/lang/String", name := "charAt", desc := "(I)C" } : Jvm.MethodName)).before a0 Z = true := hw _ (List.mem_of_getElem? (i := 90) rfl)
theorem w91 {a0 : Array Value} {Z : State} (hw : Ws a0 Z) : (Jvm.Cond.instanceMethod ({ cls := "java/lang/String", name := "charAt", desc := "(I)C" } : Jvm.MethodName)).before a0 Z = true := hw _ (List.mem_of_getElem? (i := 91) rfl)
theorem w92 {a0 : Array Value} {Z : State} (hw : Ws a0 Z) : (Jvm.Cond.selects "java/lang/String" ({ cls := "java/lang/String", name := "charAt", desc := "(I)C" } : Jvm.MethodName) ({ cls := "java/lang/String", name := "charAt", desc := "(I)C" } : Jvm.MethodName)).before a0 Z = true := hw _ (List.mem_of_getElem? (i := 92) rfl)
theorem w93 {a0 : Array Value} {Z : State} (hw : Ws a0 Z) : (Jvm.Cond.code ({ cls := "java/lang/String", name := "charAt", desc := "(I)C" } : Jvm.MethodName) jdk_42_method_56_code (2 : Nat) (Option.some Jvm.ClassFile.FieldType.char)).before a0 Z = true := hw _ (List.mem_of_getElem? (i := 93) rfl)
theorem w94 {a0 : Array Value} {Z : State} (hw : Ws a0 Z) : (Jvm.Cond.methodLink "java/lang/String" (492 : Nat) ({ cls := "java/lang/String", name := "isLatin1", desc := "()Z" } : Jvm.MethodName)).before a0 Z = true := hw _ (List.mem_of_getElem? (i := 94) rfl)
theorem w95 {a0 : Array Value} {Z : State} (hw : Ws a0 Z) : (Jvm.Cond.declares ({ cls := "java/lang/String", name := "isLatin1", desc := "()Z" } : Jvm.MethodName)).before a0 Z = true := hw _ (List.mem_of_getElem? (i := 95) rfl)
theorem w96 {a0 : Array Value} {Z : State} (hw : Ws a0 Z) : (Jvm.Cond.instanceMethod ({ cls := "java/lang/String", name := "isLatin1", desc := "()Z" } : Jvm.MethodName)).before a0 Z = true := hw _ (List.mem_of_getElem? (i := 96) rfl)
theorem w97 {a0 : Array Value} {Z : State} (hw : Ws a0 Z) : (Jvm.Cond.selects "java/lang/String" ({ cls := "java/lang/String", name := "isLatin1", desc := "()Z" } : Jvm.MethodName) ({ cls := "java/lang/String", name := "isLatin1", desc := "()Z" } : Jvm.MethodName)).before a0 Z = true := hw _ (List.mem_of_getElem? (i := 97) rfl)
theorem w98 {a0 : Array Value} {Z : State} (hw : Ws a0 Z) : (Jvm.Cond.code ({ cls := "java/lang/String", name := "isLatin1", desc := "()Z" } : Jvm.MethodName) jdk_42_method_154_code (1 : Nat) (Option.some Jvm.ClassFile.FieldType.boolean)).before a0 Z = true := hw _ (List.mem_of_getElem? (i := 98) rfl)
theorem w99 {a0 : Array Value} {Z : State} (hw : Ws a0 Z) : (Jvm.Cond.methodLink "java/lang/String" (498 : Nat) ({ cls := "java/lang/StringUTF16", name := "charAt", desc := "([BI)C" } : Jvm.MethodName)).before a0 Z = true := hw _ (List.mem_of_getElem? (i := 99) rfl)
theorem w100 {a0 : Array Value} {Z : State} (hw : Ws a0 Z) : (Jvm.Cond.static ({ cls := "java/lang/StringUTF16", name := "charAt", desc := "([BI)C" } : Jvm.MethodName)).before a0 Z = true := hw _ (List.mem_of_getElem? (i := 100) rfl)
theorem w101 {a0 : Array Value} {Z : State} (hw : Ws a0 Z) : (Jvm.Cond.code ({ cls := "java/lang/StringUTF16", name := "charAt", desc := "([BI)C" } : Jvm.MethodName) jdk_52_method_83_code (2 : Nat) (Option.some Jvm.ClassFile.FieldType.char)).before a0 Z = true := hw _ (List.mem_of_getElem? (i := 101) rfl)
theorem w102 {a0 : Array Value} {Z : State} (hw : Ws a0 Z) : (Jvm.Cond.methodLink "java/lang/StringUTF16" (67 : Nat) ({ cls := "java/lang/StringUTF16", name := "checkIndex", desc := "(I[B)V" } : Jvm.MethodName)).before a0 Z = true := hw _ (List.mem_of_getElem? (i := 102) rfl)
theorem w103 {a0 : Array Value} {Z : State} (hw : Ws a0 Z) : (Jvm.Cond.static ({ cls := "java/lang/StringUTF16", name := "checkIndex", desc := "(I[B)V" } : Jvm.MethodName)).before a0 Z = true := hw _ (List.mem_of_getElem? (i := 103) rfl)
theorem w104 {a0 : Array Value} {Z : State} (hw : Ws a0 Z) : (Jvm.Cond.code ({ cls := "java/lang/StringUTF16", name := "checkIndex", desc := "(I[B)V" } : Jvm.MethodName) jdk_52_method_91_code (2 : Nat) (Option.none : Option Jvm.ClassFile.FieldType)).before a0 Z = true := hw _ (List.mem_of_getElem? (i := 104) rfl)
theorem w105 {a0 : Array Value} {Z : State} (hw : Ws a0 Z) : (Jvm.Cond.methodLink "java/lang/StringUTF16" (48 : Nat) ({ cls := "java/lang/StringUTF16", name := "length", desc := "([B)I" } : Jvm.MethodName)).before a0 Z = true := hw _ (List.mem_of_getElem? (i := 105) rfl)
theorem w106 {a0 : Array Value} {Z : State} (hw : Ws a0 Z) : (Jvm.Cond.static ({ cls := "java/lang/StringUTF16", name := "length", desc := "([B)I" } : Jvm.MethodName)).before a0 Z = true := hw _ (List.mem_of_getElem? (i := 106) rfl)
theorem w107 {a0 : Array Value} {Z : State} (hw : Ws a0 Z) : (Jvm.Cond.code ({ cls := "java/lang/StringUTF16", name := "length", desc := "([B)I" } : Jvm.MethodName) jdk_52_method_6_code (1 : Nat) (Option.some Jvm.ClassFile.FieldType.int)).before a0 Z = true := hw _ (List.mem_of_getElem? (i := 107) rfl)
theorem w108 {a0 : Array Value} {Z : State} (hw : Ws a0 Z) : (Jvm.Cond.methodLink "java/lang/StringUTF16" (414 : Nat) ({ cls := "java/lang/String", name := "checkIndex", desc := "(II)V" } : Jvm.MethodName)).before a0 Z = true := hw _ (List.mem_of_getElem? (i := 108) rfl)
theorem w109 {a0 : Array Value} {Z : State} (hw : Ws a0 Z) : (Jvm.Cond.static ({ cls := "java/lang/String", name := "checkIndex", desc := "(II)V" } : Jvm.MethodName)).before a0 Z = true := hw _ (List.mem_of_getElem? (i := 109) rfl)
theorem w110 {a0 : Array Value} {Z : State} (hw : Ws a0 Z) : (Jvm.Cond.code ({ cls := "java/lang/String", name := "checkIndex", desc := "(II)V" } : Jvm.MethodName) jdk_42_method_155_code (2 : Nat) (Option.none : Option Jvm.ClassFile.FieldType)).before a0 Z = true := hw _ (List.mem_of_getElem? (i := 110) rfl)
theorem w111 {a0 : Array Value} {Z : State} (hw : Ws a0 Z) : (Jvm.Cond.fieldLink "java/lang/String" (1053 : Nat) "jdk/internal/util/Preconditions" "SIOOBE_FORMATTER" "Ljava/util/function/BiFunction;").before a0 Z = true := hw _ (List.mem_of_getElem? (i := 111) rfl)
theorem w112 {a0 : Array Value} {Z : State} (hw : Ws a0 Z) : (Jvm.Cond.initialized "jdk/internal/util/Preconditions").before a0 Z = true := hw _ (List.mem_of_getElem? (i := 112) rfl)
theorem w113 {a0 : Array Value} {Z : State} (hw : Ws a0 Z) : (Jvm.Cond.methodLink "java/lang/String" (1059 : Nat) ({ cls := "jdk/internal/util/Preconditions", name := "checkIndex", desc := "(IILjava/util/function/BiFunction;)I" } : Jvm.MethodName)).before a0 Z = true := hw _ (List.mem_of_getElem? (i := 113) rfl)
theorem w114 {a0 : Array Value} {Z : State} (hw : Ws a0 Z) : (Jvm.Cond.static ({ cls := "jdk/internal/util/Preconditions", name := "checkIndex", desc := "(IILjava/util/function/BiFunction;)I" } : Jvm.MethodName)).before a0 Z = true := hw _ (List.mem_of_getElem? (i := 114) rfl)
theorem w115 {a0 : Array Value} {Z : State} (hw : Ws a0 Z) : (Jvm.Cond.code ({ cls := "jdk/internal/util/Preconditions", name := "checkIndex", desc := "(IILjava/util/function/BiFunction;)I" } : Jvm.MethodName) jdk_41_method_11_code (3 : Nat) (Option.some Jvm.ClassFile.FieldType.int)).before a0 Z = true := hw _ (List.mem_of_getElem? (i := 115) rfl)
theorem w116 {a0 : Array Value} {Z : State} (hw : Ws a0 Z) : (Jvm.Cond.methodLink "java/lang/String" (495 : Nat) ({ cls := "java/lang/StringLatin1", name := "charAt", desc := "([BI)C" } : Jvm.MethodName)).before a0 Z = true := hw _ (List.mem_of_getElem? (i := 116) rfl)
theorem w117 {a0 : Array Value} {Z : State} (hw : Ws a0 Z) : (Jvm.Cond.static ({ cls := "java/lang/StringLatin1", name := "charAt", desc := "([BI)C" } : Jvm.MethodName)).before a0 Z = true := hw _ (List.mem_of_getElem? (i := 117) rfl)
theorem w118 {a0 : Array Value} {Z : State} (hw : Ws a0 Z) : (Jvm.Cond.code ({ cls := "java/lang/StringLatin1", name := "charAt", desc := "([BI)C" } : Jvm.MethodName) jdk_43_method_2_code (2 : Nat) (Option.some Jvm.ClassFile.FieldType.char)).before a0 Z = true := hw _ (List.mem_of_getElem? (i := 118) rfl)
theorem w119 {a0 : Array Value} {Z : State} (hw : Ws a0 Z) : (Jvm.Cond.methodLink "java/lang/StringLatin1" (9 : Nat) ({ cls := "java/lang/String", name := "checkIndex", desc := "(II)V" } : Jvm.MethodName)).before a0 Z = true := hw _ (List.mem_of_getElem? (i := 119) rfl)
theorem w120 {a0 : Array Value} {Z : State} (hw : Ws a0 Z) : (Jvm.Cond.methodLink "java/lang/String" (1021 : Nat) ({ cls := "java/lang/StringUTF16", name := "toBytes", desc := "(C)[B" } : Jvm.MethodName)).before a0 Z = true := hw _ (List.mem_of_getElem? (i := 120) rfl)
theorem w121 {a0 : Array Value} {Z : State} (hw : Ws a0 Z) : (Jvm.Cond.static ({ cls := "java/lang/StringUTF16", name := "toBytes", desc := "(C)[B" } : Jvm.MethodName)).before a0 Z = true := hw _ (List.mem_of_getElem? (i := 121) rfl)
theorem w122 {a0 : Array Value} {Z : State} (hw : Ws a0 Z) : (Jvm.Cond.code ({ cls := "java/lang/StringUTF16", name := "toBytes", desc := "(C)[B" } : Jvm.MethodName) jdk_52_method_24_code (2 : Nat) (Option.some (Jvm.ClassFile.FieldType.array Jvm.ClassFile.FieldType.byte))).before a0 Z = true := hw _ (List.mem_of_getElem? (i := 122) rfl)
theorem d_jdk_52m4_0 : decode jdk_52_method_4_code 0 = .ok (.getstatic 44, 3) := by decide +kernel
theorem d_jdk_52m4_3 : decode jdk_52_method_4_code 3 = .ok (.ifCond .ne 25, 3) := by decide +kernel
theorem d_jdk_52m4_28 : decode jdk_52_method_4_code 28 = .ok (.iload_n 1, 1) := by decide +kernel
theorem d_jdk_52m4_29 : decode jdk_52_method_4_code 29 = .ok (.iconst 1, 1) := by decide +kernel
theorem d_jdk_52m4_30 : decode jdk_52_method_4_code 30 = .ok (.ishl, 1) := by decide +kernel
theorem d_jdk_52m4_31 : decode jdk_52_method_4_code 31 = .ok (.istore_n 1, 1) := by decide +kernel
theorem d_jdk_52m4_32 : decode jdk_52_method_4_code 32 = .ok (.aload_n 0, 1) := by decide +kernel
theorem d_jdk_52m4_33 : decode jdk_52_method_4_code 33 = .ok (.iload_n 1, 1) := by decide +kernel
theorem d_jdk_52m4_34 : decode jdk_52_method_4_code 34 = .ok (.iinc 1 1, 3) := by decide +kernel
theorem d_jdk_52m4_37 : decode jdk_52_method_4_code 37 = .ok (.iload_n 2, 1) := by decide +kernel
theorem d_jdk_52m4_38 : decode jdk_52_method_4_code 38 = .ok (.getstatic 59, 3) := by decide +kernel
theorem d_jdk_52m4_41 : decode jdk_52_method_4_code 41 = .ok (.ishr, 1) := by decide +kernel
theorem d_jdk_52m4_42 : decode jdk_52_method_4_code 42 = .ok (.i2b, 1) := by decide +kernel
theorem d_jdk_52m4_43 : decode jdk_52_method_4_code 43 = .ok (.bastore, 1) := by decide +kernel
theorem d_jdk_52m4_44 : decode jdk_52_method_4_code 44 = .ok (.aload_n 0, 1) := by decide +kernel
theorem d_jdk_52m4_45 : decode jdk_52_method_4_code 45 = .ok (.iload_n 1, 1) := by decide +kernel
theorem d_jdk_52m4_46 : decode jdk_52_method_4_code 46 = .ok (.iload_n 2, 1) := by decide +kernel
theorem d_jdk_52m4_47 : decode jdk_52_method_4_code 47 = .ok (.getstatic 63, 3) := by decide +kernel
theorem d_jdk_52m4_50 : decode jdk_52_method_4_code 50 = .ok (.ishr, 1) := by decide +kernel
theorem d_jdk_52m4_51 : decode jdk_52_method_4_code 51 = .ok (.i2b, 1) := by decide +kernel
theorem d_jdk_52m4_52 : decode jdk_52_method_4_code 52 = .ok (.bastore, 1) := by decide +kernel
theorem d_jdk_52m4_53 : decode jdk_52_method_4_code 53 = .ok (.return_, 1) := by decide +kernel
theorem d_jdk_52m5_0 : decode jdk_52_method_5_code 0 = .ok (.getstatic 44, 3) := by decide +kernel
theorem d_jdk_52m5_3 : decode jdk_52_method_5_code 3 = .ok (.ifCond .ne 25, 3) := by decide +kernel
theorem d_jdk_52m5_28 : decode jdk_52_method_5_code 28 = .ok (.iload_n 1, 1) := by decide +kernel
theorem d_jdk_52m5_29 : decode jdk_52_method_5_code 29 = .ok (.iconst 1, 1) := by decide +kernel
theorem d_jdk_52m5_30 : decode jdk_52_method_5_code 30 = .ok (.ishl, 1) := by decide +kernel
theorem d_jdk_52m5_31 : decode jdk_52_method_5_code 31 = .ok (.istore_n 1, 1) := by decide +kernel
theorem d_jdk_52m5_32 : decode jdk_52_method_5_code 32 = .ok (.aload_n 0, 1) := by decide +kernel
theorem d_jdk_52m5_33 : decode jdk_52_method_5_code 33 = .ok (.iload_n 1, 1) := by decide +kernel
theorem d_jdk_52m5_34 : decode jdk_52_method_5_code 34 = .ok (.iinc 1 1, 3) := by decide +kernel
theorem d_jdk_52m5_37 : decode jdk_52_method_5_code 37 = .ok (.baload, 1) := by decide +kernel
theorem d_jdk_52m5_38 : decode jdk_52_method_5_code 38 = .ok (.sipush 255, 3) := by decide +kernel
theorem d_jdk_52m5_41 : decode jdk_52_method_5_code 41 = .ok (.iand, 1) := by decide +kernel
theorem d_jdk_52m5_42 : decode jdk_52_method_5_code 42 = .ok (.getstatic 59, 3) := by decide +kernel
theorem d_jdk_52m5_45 : decode jdk_52_method_5_code 45 = .ok (.ishl, 1) := by decide +kernel
theorem d_jdk_52m5_46 : decode jdk_52_method_5_code 46 = .ok (.aload_n 0, 1) := by decide +kernel
theorem d_jdk_52m5_47 : decode jdk_52_method_5_code 47 = .ok (.iload_n 1, 1) := by decide +kernel
theorem d_jdk_52m5_48 : decode jdk_52_method_5_code 48 = .ok (.baload, 1) := by decide +kernel
theorem d_jdk_52m5_49 : decode jdk_52_method_5_code 49 = .ok (.sipush 255, 3) := by decide +kernel
theorem d_jdk_52m5_52 : decode jdk_52_method_5_code 52 = .ok (.iand, 1) := by decide +kernel
theorem d_jdk_52m5_53 : decode jdk_52_method_5_code 53 = .ok (.getstatic 63, 3) := by decide +kernel
theorem d_jdk_52m5_56 : decode jdk_52_method_5_code 56 = .ok (.ishl, 1) := by decide +kernel
theorem d_jdk_52m5_57 : decode jdk_52_method_5_code 57 = .ok (.ior, 1) := by decide +kernel
theorem d_jdk_52m5_58 : decode jdk_52_method_5_code 58 = .ok (.i2c, 1) := by decide +kernel
theorem d_jdk_52m5_59 : decode jdk_52_method_5_code 59 = .ok (.ireturn, 1) := by decide +kernel
theorem d_jdk_52m6_0 : decode jdk_52_method_6_code 0 = .ok (.aload_n 0, 1) := by decide +kernel
theorem d_jdk_52m6_1 : decode jdk_52_method_6_code 1 = .ok (.arraylength, 1) := by decide +kernel
theorem d_jdk_52m6_2 : decode jdk_52_method_6_code 2 = .ok (.iconst 1, 1) := by decide +kernel
theorem d_jdk_52m6_3 : decode jdk_52_method_6_code 3 = .ok (.ishr, 1) := by decide +kernel
theorem d_jdk_52m6_4 : decode jdk_52_method_6_code 4 = .ok (.ireturn, 1) := by decide +kernel
theorem d_jdk_52m3_0 : decode jdk_52_method_3_code 0 = .ok (.iload_n 0, 1) := by decide +kernel
theorem d_jdk_52m3_1 : decode jdk_52_method_3_code 1 = .ok (.ifCond .ge 11, 3) := by decide +kernel
theorem d_jdk_52m3_12 : decode jdk_52_method_3_code 12 = .ok (.iload_n 0, 1) := by decide +kernel
theorem d_jdk_52m3_13 : decode jdk_52_method_3_code 13 = .ok (.ldc 20, 2) := by decide +kernel
theorem d_jdk_52m3_15 : decode jdk_52_method_3_code 15 = .ok (.if_icmp .lt 40, 3) := by decide +kernel
theorem d_jdk_52m3_55 : decode jdk_52_method_3_code 55 = .ok (.iload_n 0, 1) := by decide +kernel
theorem d_jdk_52m3_56 : decode jdk_52_method_3_code 56 = .ok (.iconst 1, 1) := by decide +kernel
theorem d_jdk_52m3_57 : decode jdk_52_method_3_code 57 = .ok (.ishl, 1) := by decide +kernel
theorem d_jdk_52m3_58 : decode jdk_52_method_3_code 58 = .ok (.ireturn, 1) := by decide +kernel
theorem d_jdk_52m2_0 : decode jdk_52_method_2_code 0 = .ok (.iload_n 0, 1) := by decide +kernel
theorem d_jdk_52m2_1 : decode jdk_52_method_2_code 1 = .ok (.invokestatic 11, 3) := by decide +kernel
theorem d_jdk_52m2_4 : decode jdk_52_method_2_code 4 = .ok (.newarray .byte, 2) := by decide +kernel
theorem d_jdk_52m2_6 : decode jdk_52_method_2_code 6 = .ok (.areturn, 1) := by decide +kernel
theorem d_jdk_52m14_0 : decode jdk_52_method_14_code 0 = .ok (.iload_n 2, 1) := by decide +kernel
theorem d_jdk_52m14_1 : decode jdk_52_method_14_code 1 = .ok (.invokestatic 107, 3) := by decide +kernel
theorem d_jdk_52m14_4 : decode jdk_52_method_14_code 4 = .ok (.astore_n 3, 1) := by decide +kernel
theorem d_jdk_52m14_5 : decode jdk_52_method_14_code 5 = .ok (.iconst 0, 1) := by decide +kernel
theorem d_jdk_52m14_6 : decode jdk_52_method_14_code 6 = .ok (.istore 4, 2) := by decide +kernel
theorem d_jdk_52m14_8 : decode jdk_52_method_14_code 8 = .ok (.iload 4, 2) := by decide +kernel
theorem d_jdk_52m14_10 : decode jdk_52_method_14_code 10 = .ok (.iload_n 2, 1) := by decide +kernel
theorem d_jdk_52m14_11 : decode jdk_52_method_14_code 11 = .ok (.if_icmp .ge 21, 3) := by decide +kernel
theorem d_jdk_52m14_14 : decode jdk_52_method_14_code 14 = .ok (.aload_n 3, 1) := by decide +kernel
theorem d_jdk_52m14_15 : decode jdk_52_method_14_code 15 = .ok (.iload 4, 2) := by decide +kernel
theorem d_jdk_52m14_17 : decode jdk_52_method_14_code 17 = .ok (.aload_n 0, 1) := by decide +kernel
theorem d_jdk_52m14_18 : decode jdk_52_method_14_code 18 = .ok (.iload_n 1, 1) := by decide +kernel
theorem d_jdk_52m14_19 : decode jdk_52_method_14_code 19 = .ok (.caload, 1) := by decide +kernel
theorem d_jdk_52m14_20 : decode jdk_52_method_14_code 20 = .ok (.invokestatic 111, 3) := by decide +kernel
theorem d_jdk_52m14_23 : decode jdk_52_method_14_code 23 = .ok (.iinc 1 1, 3) := by decide +kernel
theorem d_jdk_52m14_26 : decode jdk_52_method_14_code 26 = .ok (.iinc 4 1, 3) := by decide +kernel
theorem d_jdk_52m14_29 : decode jdk_52_method_14_code 29 = .ok (.goto (-21), 3) := by decide +kernel
theorem d_jdk_52m14_32 : decode jdk_52_method_14_code 32 = .ok (.aload_n 3, 1) := by decide +kernel
theorem d_jdk_52m14_33 : decode jdk_52_method_14_code 33 = .ok (.areturn, 1) := by decide +kernel
theorem d_jdk_52m21_0 : decode jdk_52_method_21_code 0 = .ok (.iconst 0, 1) := by decide +kernel
theorem d_jdk_52m21_1 : decode jdk_52_method_21_code 1 = .ok (.istore 5, 2) := by decide +kernel
theorem d_jdk_52m21_3 : decode jdk_52_method_21_code 3 = .ok (.iload 5, 2) := by decide +kernel
theorem d_jdk_52m21_5 : decode jdk_52_method_21_code 5 = .ok (.iload 4, 2) := by decide +kernel
theorem d_jdk_52m21_7 : decode jdk_52_method_21_code 7 = .ok (.if_icmp .ge 37, 3) := by decide +kernel
theorem d_jdk_52m21_10 : decode jdk_52_method_21_code 10 = .ok (.aload_n 0, 1) := by decide +kernel
theorem d_jdk_52m21_11 : decode jdk_52_method_21_code 11 = .ok (.iload_n 1, 1) := by decide +kernel
theorem d_jdk_52m21_12 : decode jdk_52_method_21_code 12 = .ok (.caload, 1) := by decide +kernel
theorem d_jdk_52m21_13 : decode jdk_52_method_21_code 13 = .ok (.istore 6, 2) := by decide +kernel
theorem d_jdk_52m21_15 : decode jdk_52_method_21_code 15 = .ok (.iload 6, 2) := by decide +kernel
theorem d_jdk_52m21_17 : decode jdk_52_method_21_code 17 = .ok (.sipush 255, 3) := by decide +kernel
theorem d_jdk_52m21_20 : decode jdk_52_method_21_code 20 = .ok (.if_icmp .le 6, 3) := by decide +kernel
theorem d_jdk_52m21_26 : decode jdk_52_method_21_code 26 = .ok (.aload_n 2, 1) := by decide +kernel
theorem d_jdk_52m21_27 : decode jdk_52_method_21_code 27 = .ok (.iload_n 3, 1) := by decide +kernel
theorem d_jdk_52m21_28 : decode jdk_52_method_21_code 28 = .ok (.iload 6, 2) := by decide +kernel
theorem d_jdk_52m21_30 : decode jdk_52_method_21_code 30 = .ok (.i2b, 1) := by decide +kernel
theorem d_jdk_52m21_31 : decode jdk_52_method_21_code 31 = .ok (.bastore, 1) := by decide +kernel
theorem d_jdk_52m21_32 : decode jdk_52_method_21_code 32 = .ok (.iinc 1 1, 3) := by decide +kernel
theorem d_jdk_52m21_35 : decode jdk_52_method_21_code 35 = .ok (.iinc 3 1, 3) := by decide +kernel
theorem d_jdk_52m21_38 : decode jdk_52_method_21_code 38 = .ok (.iinc 5 1, 3) := by decide +kernel
theorem d_jdk_52m21_41 : decode jdk_52_method_21_code 41 = .ok (.goto (-38), 3) := by decide +kernel
theorem d_jdk_52m21_44 : decode jdk_52_method_21_code 44 = .ok (.iload 4, 2) := by decide +kernel
theorem d_jdk_52m21_23 : decode jdk_52_method_21_code 23 = .ok (.iload 5, 2) := by decide +kernel
theorem d_jdk_52m21_25 : decode jdk_52_method_21_code 25 = .ok (.ireturn, 1) := by decide +kernel
theorem d_jdk_52m16_0 : decode jdk_52_method_16_code 0 = .ok (.iload_n 2, 1) := by decide +kernel
theorem d_jdk_52m16_1 : decode jdk_52_method_16_code 1 = .ok (.newarray .byte, 2) := by decide +kernel
theorem d_jdk_52m16_3 : decode jdk_52_method_16_code 3 = .ok (.astore_n 3, 1) := by decide +kernel
theorem d_jdk_52m16_4 : decode jdk_52_method_16_code 4 = .ok (.aload_n 0, 1) := by decide +kernel
theorem d_jdk_52m16_5 : decode jdk_52_method_16_code 5 = .ok (.iload_n 1, 1) := by decide +kernel
theorem d_jdk_52m16_6 : decode jdk_52_method_16_code 6 = .ok (.aload_n 3, 1) := by decide +kernel
theorem d_jdk_52m16_7 : decode jdk_52_method_16_code 7 = .ok (.iconst 0, 1) := by decide +kernel
theorem d_jdk_52m16_8 : decode jdk_52_method_16_code 8 = .ok (.iload_n 2, 1) := by decide +kernel
theorem d_jdk_52m16_9 : decode jdk_52_method_16_code 9 = .ok (.invokestatic 115, 3) := by decide +kernel
theorem d_jdk_52m16_12 : decode jdk_52_method_16_code 12 = .ok (.istore 4, 2) := by decide +kernel
theorem d_jdk_52m16_14 : decode jdk_52_method_16_code 14 = .ok (.iload 4, 2) := by decide +kernel
theorem d_jdk_52m16_16 : decode jdk_52_method_16_code 16 = .ok (.iload_n 2, 1) := by decide +kernel
theorem d_jdk_52m16_17 : decode jdk_52_method_16_code 17 = .ok (.if_icmp .eq 40, 3) := by decide +kernel
theorem d_jdk_52m16_20 : decode jdk_52_method_16_code 20 = .ok (.aload_n 0, 1) := by decide +kernel
theorem d_jdk_52m16_21 : decode jdk_52_method_16_code 21 = .ok (.iload_n 1, 1) := by decide +kernel
theorem d_jdk_52m16_22 : decode jdk_52_method_16_code 22 = .ok (.iload_n 2, 1) := by decide +kernel
theorem d_jdk_52m16_23 : decode jdk_52_method_16_code 23 = .ok (.invokestatic 119, 3) := by decide +kernel
theorem d_jdk_52m16_26 : decode jdk_52_method_16_code 26 = .ok (.astore 5, 2) := by decide +kernel
theorem d_jdk_52m16_28 : decode jdk_52_method_16_code 28 = .ok (.aload 5, 2) := by decide +kernel
theorem d_jdk_52m16_30 : decode jdk_52_method_16_code 30 = .ok (.iload 4, 2) := by decide +kernel
theorem d_jdk_52m16_32 : decode jdk_52_method_16_code 32 = .ok (.invokestatic 71, 3) := by decide +kernel
theorem d_jdk_52m16_35 : decode jdk_52_method_16_code 35 = .ok (.sipush 255, 3) := by decide +kernel
theorem d_jdk_52m16_38 : decode jdk_52_method_16_code 38 = .ok (.if_icmp .gt 16, 3) := by decide +kernel
theorem d_jdk_52m16_54 : decode jdk_52_method_16_code 54 = .ok (.aload 5, 2) := by decide +kernel
theorem d_jdk_52m16_56 : decode jdk_52_method_16_code 56 = .ok (.areturn, 1) := by decide +kernel
theorem d_jdk_52m15_0 : decode jdk_52_method_15_code 0 = .ok (.iload_n 1, 1) := by decide +kernel
theorem d_jdk_52m15_1 : decode jdk_52_method_15_code 1 = .ok (.aload_n 0, 1) := by decide +kernel
theorem d_jdk_52m15_2 : decode jdk_52_method_15_code 2 = .ok (.arraylength, 1) := by decide +kernel
theorem d_jdk_52m15_3 : decode jdk_52_method_15_code 3 = .ok (.isub, 1) := by decide +kernel
theorem d_jdk_52m15_4 : decode jdk_52_method_15_code 4 = .ok (.bipush 31, 2) := by decide +kernel
theorem d_jdk_52m15_6 : decode jdk_52_method_15_code 6 = .ok (.iushr, 1) := by decide +kernel
theorem d_jdk_52m15_7 : decode jdk_52_method_15_code 7 = .ok (.i2b, 1) := by decide +kernel
theorem d_jdk_52m15_8 : decode jdk_52_method_15_code 8 = .ok (.ireturn, 1) := by decide +kernel
theorem d_jdk_42m149_0 : decode jdk_42_method_149_code 0 = .ok (.aload_n 0, 1) := by decide +kernel
theorem d_jdk_42m149_1 : decode jdk_42_method_149_code 1 = .ok (.invokespecial 1, 3) := by decide +kernel
theorem d_jdk_42m149_4 : decode jdk_42_method_149_code 4 = .ok (.iload_n 3, 1) := by decide +kernel
theorem d_jdk_42m149_5 : decode jdk_42_method_149_code 5 = .ok (.ifCond .ne 22, 3) := by decide +kernel
theorem d_jdk_42m149_27 : decode jdk_42_method_149_code 27 = .ok (.getstatic 38, 3) := by decide +kernel
theorem d_jdk_42m149_30 : decode jdk_42_method_149_code 30 = .ok (.ifCond .eq 28, 3) := by decide +kernel
theorem d_jdk_42m149_33 : decode jdk_42_method_149_code 33 = .ok (.aload_n 1, 1) := by decide +kernel
theorem d_jdk_42m149_34 : decode jdk_42_method_149_code 34 = .ok (.iload_n 2, 1) := by decide +kernel
theorem d_jdk_42m149_35 : decode jdk_42_method_149_code 35 = .ok (.iload_n 3, 1) := by decide +kernel
theorem d_jdk_42m149_36 : decode jdk_42_method_149_code 36 = .ok (.invokestatic 177, 3) := by decide +kernel
theorem d_jdk_42m149_39 : decode jdk_42_method_149_code 39 = .ok (.astore 5, 2) := by decide +kernel
theorem d_jdk_42m149_41 : decode jdk_42_method_149_code 41 = .ok (.aload_n 0, 1) := by decide +kernel
theorem d_jdk_42m149_42 : decode jdk_42_method_149_code 42 = .ok (.aload 5, 2) := by decide +kernel
theorem d_jdk_42m149_44 : decode jdk_42_method_149_code 44 = .ok (.iload_n 3, 1) := by decide +kernel
theorem d_jdk_42m149_45 : decode jdk_42_method_149_code 45 = .ok (.invokestatic 47, 3) := by decide +kernel
theorem d_jdk_42m149_48 : decode jdk_42_method_149_code 48 = .ok (.putfield 15, 3) := by decide +kernel
theorem d_jdk_42m149_51 : decode jdk_42_method_149_code 51 = .ok (.aload_n 0, 1) := by decide +kernel
theorem d_jdk_42m149_52 : decode jdk_42_method_149_code 52 = .ok (.aload 5, 2) := by decide +kernel
theorem d_jdk_42m149_54 : decode jdk_42_method_149_code 54 = .ok (.putfield 9, 3) := by decide +kernel
theorem d_jdk_42m149_57 : decode jdk_42_method_149_code 57 = .ok (.return_, 1) := by decide +kernel
theorem d_jdk_42m3_0 : decode jdk_42_method_3_code 0 = .ok (.aload_n 0, 1) := by decide +kernel
theorem d_jdk_42m3_1 : decode jdk_42_method_3_code 1 = .ok (.aload_n 1, 1) := by decide +kernel
theorem d_jdk_42m3_2 : decode jdk_42_method_3_code 2 = .ok (.iconst 0, 1) := by decide +kernel
theorem d_jdk_42m3_3 : decode jdk_42_method_3_code 3 = .ok (.aload_n 1, 1) := by decide +kernel
theorem d_jdk_42m3_4 : decode jdk_42_method_3_code 4 = .ok (.arraylength, 1) := by decide +kernel
theorem d_jdk_42m3_5 : decode jdk_42_method_3_code 5 = .ok (.aconst_null, 1) := by decide +kernel
theorem d_jdk_42m3_6 : decode jdk_42_method_3_code 6 = .ok (.invokespecial 27, 3) := by decide +kernel
theorem d_jdk_42m3_9 : decode jdk_42_method_3_code 9 = .ok (.return_, 1) := by decide +kernel
theorem d_jdk_42m154_0 : decode jdk_42_method_154_code 0 = .ok (.getstatic 38, 3) := by decide +kernel
theorem d_jdk_42m154_3 : decode jdk_42_method_154_code 3 = .ok (.ifCond .eq 14, 3) := by decide +kernel
theorem d_jdk_42m154_6 : decode jdk_42_method_154_code 6 = .ok (.aload_n 0, 1) := by decide +kernel
theorem d_jdk_42m154_7 : decode jdk_42_method_154_code 7 = .ok (.getfield 15, 3) := by decide +kernel
theorem d_jdk_42m154_10 : decode jdk_42_method_154_code 10 = .ok (.ifCond .ne 7, 3) := by decide +kernel
theorem d_jdk_42m154_13 : decode jdk_42_method_154_code 13 = .ok (.iconst 1, 1) := by decide +kernel
theorem d_jdk_42m154_14 : decode jdk_42_method_154_code 14 = .ok (.goto 4, 3) := by decide +kernel
theorem d_jdk_42m154_18 : decode jdk_42_method_154_code 18 = .ok (.ireturn, 1) := by decide +kernel
theorem d_jdk_42m152_0 : decode jdk_42_method_152_code 0 = .ok (.getstatic 38, 3) := by decide +kernel
theorem d_jdk_42m152_3 : decode jdk_42_method_152_code 3 = .ok (.ifCond .eq 10, 3) := by decide +kernel
theorem d_jdk_42m152_6 : decode jdk_42_method_152_code 6 = .ok (.aload_n 0, 1) := by decide +kernel
theorem d_jdk_42m152_7 : decode jdk_42_method_152_code 7 = .ok (.getfield 15, 3) := by decide +kernel
theorem d_jdk_42m152_10 : decode jdk_42_method_152_code 10 = .ok (.goto 4, 3) := by decide +kernel
theorem d_jdk_42m152_14 : decode jdk_42_method_152_code 14 = .ok (.ireturn, 1) := by decide +kernel
theorem d_jdk_42m54_0 : decode jdk_42_method_54_code 0 = .ok (.aload_n 0, 1) := by decide +kernel
theorem d_jdk_42m54_1 : decode jdk_42_method_54_code 1 = .ok (.getfield 9, 3) := by decide +kernel
theorem d_jdk_42m54_4 : decode jdk_42_method_54_code 4 = .ok (.arraylength, 1) := by decide +kernel
theorem d_jdk_42m54_5 : decode jdk_42_method_54_code 5 = .ok (.aload_n 0, 1) := by decide +kernel
theorem d_jdk_42m54_6 : decode jdk_42_method_54_code 6 = .ok (.invokevirtual 335, 3) := by decide +kernel
theorem d_jdk_42m54_9 : decode jdk_42_method_54_code 9 = .ok (.ishr, 1) := by decide +kernel
theorem d_jdk_42m54_10 : decode jdk_42_method_54_code 10 = .ok (.ireturn, 1) := by decide +kernel
theorem d_jdk_41m11_0 : decode jdk_41_method_11_code 0 = .ok (.iload_n 0, 1) := by decide +kernel
theorem d_jdk_41m11_1 : decode jdk_41_method_11_code 1 = .ok (.ifCond .lt 8, 3) := by decide +kernel
theorem d_jdk_41m11_4 : decode jdk_41_method_11_code 4 = .ok (.iload_n 0, 1) := by decide +kernel
theorem d_jdk_41m11_5 : decode jdk_41_method_11_code 5 = .ok (.iload_n 1, 1) := by decide +kernel
theorem d_jdk_41m11_6 : decode jdk_41_method_11_code 6 = .ok (.if_icmp .lt 10, 3) := by decide +kernel
theorem d_jdk_41m11_16 : decode jdk_41_method_11_code 16 = .ok (.iload_n 0, 1) := by decide +kernel
theorem d_jdk_41m11_17 : decode jdk_41_method_11_code 17 = .ok (.ireturn, 1) := by decide +kernel
theorem d_jdk_42m155_0 : decode jdk_42_method_155_code 0 = .ok (.iload_n 0, 1) := by decide +kernel
theorem d_jdk_42m155_1 : decode jdk_42_method_155_code 1 = .ok (.iload_n 1, 1) := by decide +kernel
theorem d_jdk_42m155_2 : decode jdk_42_method_155_code 2 = .ok (.getstatic 1053, 3) := by decide +kernel
theorem d_jdk_42m155_5 : decode jdk_42_method_155_code 5 = .ok (.invokestatic 1059, 3) := by decide +kernel
theorem d_jdk_42m155_8 : decode jdk_42_method_155_code 8 = .ok (.pop, 1) := by decide +kernel
theorem d_jdk_42m155_9 : decode jdk_42_method_155_code 9 = .ok (.return_, 1) := by decide +kernel
theorem d_jdk_43m2_0 : decode jdk_43_method_2_code 0 = .ok (.iload_n 1, 1) := by decide +kernel
theorem d_jdk_43m2_1 : decode jdk_43_method_2_code 1 = .ok (.aload_n 0, 1) := by decide +kernel
theorem d_jdk_43m2_2 : decode jdk_43_method_2_code 2 = .ok (.arraylength, 1) := by decide +kernel
theorem d_jdk_43m2_3 : decode jdk_43_method_2_code 3 = .ok (.invokestatic 9, 3) := by decide +kernel
theorem d_jdk_43m2_6 : decode jdk_43_method_2_code 6 = .ok (.aload_n 0, 1) := by decide +kernel
theorem d_jdk_43m2_7 : decode jdk_43_method_2_code 7 = .ok (.iload_n 1, 1) := by decide +kernel
theorem d_jdk_43m2_8 : decode jdk_43_method_2_code 8 = .ok (.baload, 1) := by decide +kernel
theorem d_jdk_43m2_9 : decode jdk_43_method_2_code 9 = .ok (.sipush 255, 3) := by decide +kernel
theorem d_jdk_43m2_12 : decode jdk_43_method_2_code 12 = .ok (.iand, 1) := by decide +kernel
theorem d_jdk_43m2_13 : decode jdk_43_method_2_code 13 = .ok (.i2c, 1) := by decide +kernel
theorem d_jdk_43m2_14 : decode jdk_43_method_2_code 14 = .ok (.ireturn, 1) := by decide +kernel
theorem d_jdk_42m56_0 : decode jdk_42_method_56_code 0 = .ok (.aload_n 0, 1) := by decide +kernel
theorem d_jdk_42m56_1 : decode jdk_42_method_56_code 1 = .ok (.invokevirtual 492, 3) := by decide +kernel
theorem d_jdk_42m56_4 : decode jdk_42_method_56_code 4 = .ok (.ifCond .eq 12, 3) := by decide +kernel
theorem d_jdk_42m56_7 : decode jdk_42_method_56_code 7 = .ok (.aload_n 0, 1) := by decide +kernel
theorem d_jdk_42m56_8 : decode jdk_42_method_56_code 8 = .ok (.getfield 9, 3) := by decide +kernel
theorem d_jdk_42m56_11 : decode jdk_42_method_56_code 11 = .ok (.iload_n 1, 1) := by decide +kernel
theorem d_jdk_42m56_12 : decode jdk_42_method_56_code 12 = .ok (.invokestatic 495, 3) := by decide +kernel
theorem d_jdk_42m56_15 : decode jdk_42_method_56_code 15 = .ok (.ireturn, 1) := by decide +kernel
theorem d_jdk_42m154_17 : decode jdk_42_method_154_code 17 = .ok (.iconst 0, 1) := by decide +kernel
theorem d_jdk_52m91_0 : decode jdk_52_method_91_code 0 = .ok (.iload_n 0, 1) := by decide +kernel
theorem d_jdk_52m91_1 : decode jdk_52_method_91_code 1 = .ok (.aload_n 1, 1) := by decide +kernel
theorem d_jdk_52m91_2 : decode jdk_52_method_91_code 2 = .ok (.invokestatic 48, 3) := by decide +kernel
theorem d_jdk_52m91_5 : decode jdk_52_method_91_code 5 = .ok (.invokestatic 414, 3) := by decide +kernel
theorem d_jdk_52m91_8 : decode jdk_52_method_91_code 8 = .ok (.return_, 1) := by decide +kernel
theorem d_jdk_52m83_0 : decode jdk_52_method_83_code 0 = .ok (.iload_n 1, 1) := by decide +kernel
theorem d_jdk_52m83_1 : decode jdk_52_method_83_code 1 = .ok (.aload_n 0, 1) := by decide +kernel
theorem d_jdk_52m83_2 : decode jdk_52_method_83_code 2 = .ok (.invokestatic 67, 3) := by decide +kernel
theorem d_jdk_52m83_5 : decode jdk_52_method_83_code 5 = .ok (.aload_n 0, 1) := by decide +kernel
theorem d_jdk_52m83_6 : decode jdk_52_method_83_code 6 = .ok (.iload_n 1, 1) := by decide +kernel
theorem d_jdk_52m83_7 : decode jdk_52_method_83_code 7 = .ok (.invokestatic 71, 3) := by decide +kernel
theorem d_jdk_52m83_10 : decode jdk_52_method_83_code 10 = .ok (.ireturn, 1) := by decide +kernel
theorem d_jdk_42m56_16 : decode jdk_42_method_56_code 16 = .ok (.aload_n 0, 1) := by decide +kernel
theorem d_jdk_42m56_17 : decode jdk_42_method_56_code 17 = .ok (.getfield 9, 3) := by decide +kernel
theorem d_jdk_42m56_20 : decode jdk_42_method_56_code 20 = .ok (.iload_n 1, 1) := by decide +kernel
theorem d_jdk_42m56_21 : decode jdk_42_method_56_code 21 = .ok (.invokestatic 498, 3) := by decide +kernel
theorem d_jdk_42m56_24 : decode jdk_42_method_56_code 24 = .ok (.ireturn, 1) := by decide +kernel
theorem d_method_4_0 : decode method_4_code 0 = .ok (.iload_n 0, 1) := by decide +kernel
theorem d_method_4_1 : decode method_4_code 1 = .ok (.bipush 48, 2) := by decide +kernel
theorem d_method_4_3 : decode method_4_code 3 = .ok (.isub, 1) := by decide +kernel
theorem d_method_4_4 : decode method_4_code 4 = .ok (.istore_n 1, 1) := by decide +kernel
theorem d_method_4_5 : decode method_4_code 5 = .ok (.iload_n 1, 1) := by decide +kernel
theorem d_method_4_6 : decode method_4_code 6 = .ok (.ifCond .lt 11, 3) := by decide +kernel
theorem d_method_4_17 : decode method_4_code 17 = .ok (.iload_n 0, 1) := by decide +kernel
theorem d_method_4_18 : decode method_4_code 18 = .ok (.bipush 32, 2) := by decide +kernel
theorem d_method_4_20 : decode method_4_code 20 = .ok (.ior, 1) := by decide +kernel
theorem d_method_4_21 : decode method_4_code 21 = .ok (.istore_n 2, 1) := by decide +kernel
theorem d_method_4_22 : decode method_4_code 22 = .ok (.iload_n 2, 1) := by decide +kernel
theorem d_method_4_23 : decode method_4_code 23 = .ok (.bipush 97, 2) := by decide +kernel
theorem d_method_4_25 : decode method_4_code 25 = .ok (.if_icmp .lt 13, 3) := by decide +kernel
theorem d_method_4_38 : decode method_4_code 38 = .ok (.iconst 0, 1) := by decide +kernel
theorem d_method_4_39 : decode method_4_code 39 = .ok (.ireturn, 1) := by decide +kernel
theorem d_method_4_28 : decode method_4_code 28 = .ok (.iload_n 2, 1) := by decide +kernel
theorem d_method_4_29 : decode method_4_code 29 = .ok (.bipush 122, 2) := by decide +kernel
theorem d_method_4_31 : decode method_4_code 31 = .ok (.if_icmp .gt 7, 3) := by decide +kernel
theorem d_method_4_34 : decode method_4_code 34 = .ok (.iconst 1, 1) := by decide +kernel
theorem d_method_4_35 : decode method_4_code 35 = .ok (.goto 4, 3) := by decide +kernel
theorem d_method_4_9 : decode method_4_code 9 = .ok (.iload_n 1, 1) := by decide +kernel
theorem d_method_4_10 : decode method_4_code 10 = .ok (.bipush 10, 2) := by decide +kernel
theorem d_method_4_12 : decode method_4_code 12 = .ok (.if_icmp .ge 5, 3) := by decide +kernel
theorem d_method_4_15 : decode method_4_code 15 = .ok (.iconst 1, 1) := by decide +kernel
theorem d_method_4_16 : decode method_4_code 16 = .ok (.ireturn, 1) := by decide +kernel
theorem d_prog_36m9_0 : decode prog_36_method_9_code 0 = .ok (.aload_n 0, 1) := by decide +kernel
theorem d_prog_36m9_1 : decode prog_36_method_9_code 1 = .ok (.invokevirtual 101, 3) := by decide +kernel
theorem d_prog_36m9_4 : decode prog_36_method_9_code 4 = .ok (.iconst 3, 1) := by decide +kernel
theorem d_prog_36m9_5 : decode prog_36_method_9_code 5 = .ok (.if_icmp .ne 7, 3) := by decide +kernel
theorem d_prog_36m9_12 : decode prog_36_method_9_code 12 = .ok (.iconst 0, 1) := by decide +kernel
theorem d_prog_36m9_13 : decode prog_36_method_9_code 13 = .ok (.istore_n 1, 1) := by decide +kernel
theorem d_prog_36m9_14 : decode prog_36_method_9_code 14 = .ok (.iconst 0, 1) := by decide +kernel
theorem d_prog_36m9_15 : decode prog_36_method_9_code 15 = .ok (.istore_n 2, 1) := by decide +kernel
theorem d_prog_36m9_16 : decode prog_36_method_9_code 16 = .ok (.iload_n 1, 1) := by decide +kernel
theorem d_prog_36m9_17 : decode prog_36_method_9_code 17 = .ok (.ifCond .eq 65, 3) := by decide +kernel
theorem d_prog_36m9_82 : decode prog_36_method_9_code 82 = .ok (.iload_n 1, 1) := by decide +kernel
theorem d_prog_36m9_83 : decode prog_36_method_9_code 83 = .ok (.ireturn, 1) := by decide +kernel
theorem d_prog_36m9_8 : decode prog_36_method_9_code 8 = .ok (.iconst 1, 1) := by decide +kernel
theorem d_prog_36m9_9 : decode prog_36_method_9_code 9 = .ok (.goto 4, 3) := by decide +kernel
theorem d_prog_36m9_20 : decode prog_36_method_9_code 20 = .ok (.iload_n 2, 1) := by decide +kernel
theorem d_prog_36m9_21 : decode prog_36_method_9_code 21 = .ok (.aload_n 0, 1) := by decide +kernel
theorem d_prog_36m9_22 : decode prog_36_method_9_code 22 = .ok (.invokevirtual 101, 3) := by decide +kernel
theorem d_prog_36m9_25 : decode prog_36_method_9_code 25 = .ok (.if_icmp .ge 57, 3) := by decide +kernel
theorem d_prog_36m9_28 : decode prog_36_method_9_code 28 = .ok (.aload_n 0, 1) := by decide +kernel
theorem d_prog_36m9_29 : decode prog_36_method_9_code 29 = .ok (.iload_n 2, 1) := by decide +kernel
theorem d_prog_36m9_30 : decode prog_36_method_9_code 30 = .ok (.invokevirtual 105, 3) := by decide +kernel
theorem d_prog_36m9_33 : decode prog_36_method_9_code 33 = .ok (.istore_n 3, 1) := by decide +kernel
theorem d_prog_36m9_75 : decode prog_36_method_9_code 75 = .ok (.istore_n 1, 1) := by decide +kernel
theorem d_prog_36m9_76 : decode prog_36_method_9_code 76 = .ok (.iinc 2 1, 3) := by decide +kernel
theorem d_prog_36m9_79 : decode prog_36_method_9_code 79 = .ok (.goto (-63), 3) := by decide +kernel
theorem d_prog_36m9_34 : decode prog_36_method_9_code 34 = .ok (.iload_n 3, 1) := by decide +kernel
theorem d_prog_36m9_35 : decode prog_36_method_9_code 35 = .ok (.bipush 48, 2) := by decide +kernel
theorem d_prog_36m9_37 : decode prog_36_method_9_code 37 = .ok (.if_icmp .lt 9, 3) := by decide +kernel
theorem d_prog_36m9_46 : decode prog_36_method_9_code 46 = .ok (.iload_n 3, 1) := by decide +kernel
theorem d_prog_36m9_47 : decode prog_36_method_9_code 47 = .ok (.bipush 65, 2) := by decide +kernel
theorem d_prog_36m9_49 : decode prog_36_method_9_code 49 = .ok (.if_icmp .lt 9, 3) := by decide +kernel
theorem d_prog_36m9_58 : decode prog_36_method_9_code 58 = .ok (.iload_n 3, 1) := by decide +kernel
theorem d_prog_36m9_59 : decode prog_36_method_9_code 59 = .ok (.bipush 97, 2) := by decide +kernel
theorem d_prog_36m9_61 : decode prog_36_method_9_code 61 = .ok (.if_icmp .lt 13, 3) := by decide +kernel
theorem d_prog_36m9_74 : decode prog_36_method_9_code 74 = .ok (.iconst 0, 1) := by decide +kernel
theorem d_prog_36m9_64 : decode prog_36_method_9_code 64 = .ok (.iload_n 3, 1) := by decide +kernel
theorem d_prog_36m9_65 : decode prog_36_method_9_code 65 = .ok (.bipush 122, 2) := by decide +kernel
theorem d_prog_36m9_67 : decode prog_36_method_9_code 67 = .ok (.if_icmp .gt 7, 3) := by decide +kernel
theorem d_prog_36m9_70 : decode prog_36_method_9_code 70 = .ok (.iconst 1, 1) := by decide +kernel
theorem d_prog_36m9_71 : decode prog_36_method_9_code 71 = .ok (.goto 4, 3) := by decide +kernel
theorem d_prog_36m9_52 : decode prog_36_method_9_code 52 = .ok (.iload_n 3, 1) := by decide +kernel
theorem d_prog_36m9_53 : decode prog_36_method_9_code 53 = .ok (.bipush 90, 2) := by decide +kernel
theorem d_prog_36m9_55 : decode prog_36_method_9_code 55 = .ok (.if_icmp .le 15, 3) := by decide +kernel
theorem d_prog_36m9_40 : decode prog_36_method_9_code 40 = .ok (.iload_n 3, 1) := by decide +kernel
theorem d_prog_36m9_41 : decode prog_36_method_9_code 41 = .ok (.bipush 57, 2) := by decide +kernel
theorem d_prog_36m9_43 : decode prog_36_method_9_code 43 = .ok (.if_icmp .le 27, 3) := by decide +kernel
theorem d_jdk_43m3_0 : decode jdk_43_method_3_code 0 = .ok (.iload_n 0, 1) := by decide +kernel
theorem d_jdk_43m3_1 : decode jdk_43_method_3_code 1 = .ok (.sipush 255, 3) := by decide +kernel
theorem d_jdk_43m3_4 : decode jdk_43_method_3_code 4 = .ok (.if_icmp .gt 7, 3) := by decide +kernel
theorem d_jdk_43m3_7 : decode jdk_43_method_3_code 7 = .ok (.iconst 1, 1) := by decide +kernel
theorem d_jdk_43m3_8 : decode jdk_43_method_3_code 8 = .ok (.goto 4, 3) := by decide +kernel
theorem d_jdk_43m3_12 : decode jdk_43_method_3_code 12 = .ok (.ireturn, 1) := by decide +kernel
theorem d_jdk_43m46_0 : decode jdk_43_method_46_code 0 = .ok (.iconst 1, 1) := by decide +kernel
theorem d_jdk_43m46_1 : decode jdk_43_method_46_code 1 = .ok (.newarray .byte, 2) := by decide +kernel
theorem d_jdk_43m46_3 : decode jdk_43_method_46_code 3 = .ok (.dup, 1) := by decide +kernel
theorem d_jdk_43m46_4 : decode jdk_43_method_46_code 4 = .ok (.iconst 0, 1) := by decide +kernel
theorem d_jdk_43m46_5 : decode jdk_43_method_46_code 5 = .ok (.iload_n 0, 1) := by decide +kernel
theorem d_jdk_43m46_6 : decode jdk_43_method_46_code 6 = .ok (.i2b, 1) := by decide +kernel
theorem d_jdk_43m46_7 : decode jdk_43_method_46_code 7 = .ok (.bastore, 1) := by decide +kernel
theorem d_jdk_43m46_8 : decode jdk_43_method_46_code 8 = .ok (.areturn, 1) := by decide +kernel
theorem d_jdk_42m151_0 : decode jdk_42_method_151_code 0 = .ok (.aload_n 0, 1) := by decide +kernel
theorem d_jdk_42m151_1 : decode jdk_42_method_151_code 1 = .ok (.invokespecial 1, 3) := by decide +kernel
theorem d_jdk_42m151_4 : decode jdk_42_method_151_code 4 = .ok (.aload_n 0, 1) := by decide +kernel
theorem d_jdk_42m151_5 : decode jdk_42_method_151_code 5 = .ok (.aload_n 1, 1) := by decide +kernel
theorem d_jdk_42m151_6 : decode jdk_42_method_151_code 6 = .ok (.putfield 9, 3) := by decide +kernel
theorem d_jdk_42m151_9 : decode jdk_42_method_151_code 9 = .ok (.aload_n 0, 1) := by decide +kernel
theorem d_jdk_42m151_10 : decode jdk_42_method_151_code 10 = .ok (.iload_n 2, 1) := by decide +kernel
theorem d_jdk_42m151_11 : decode jdk_42_method_151_code 11 = .ok (.putfield 15, 3) := by decide +kernel
theorem d_jdk_42m151_14 : decode jdk_42_method_151_code 14 = .ok (.return_, 1) := by decide +kernel
theorem d_jdk_42m139_0 : decode jdk_42_method_139_code 0 = .ok (.getstatic 38, 3) := by decide +kernel
theorem d_jdk_42m139_3 : decode jdk_42_method_139_code 3 = .ok (.ifCond .eq 23, 3) := by decide +kernel
theorem d_jdk_42m139_6 : decode jdk_42_method_139_code 6 = .ok (.iload_n 0, 1) := by decide +kernel
theorem d_jdk_42m139_7 : decode jdk_42_method_139_code 7 = .ok (.invokestatic 1015, 3) := by decide +kernel
theorem d_jdk_42m139_10 : decode jdk_42_method_139_code 10 = .ok (.ifCond .eq 16, 3) := by decide +kernel
theorem d_jdk_42m139_13 : decode jdk_42_method_139_code 13 = .ok (.new 10, 3) := by decide +kernel
theorem d_jdk_42m139_16 : decode jdk_42_method_139_code 16 = .ok (.dup, 1) := by decide +kernel
theorem d_jdk_42m139_17 : decode jdk_42_method_139_code 17 = .ok (.iload_n 0, 1) := by decide +kernel
theorem d_jdk_42m139_18 : decode jdk_42_method_139_code 18 = .ok (.invokestatic 1018, 3) := by decide +kernel
theorem d_jdk_42m139_21 : decode jdk_42_method_139_code 21 = .ok (.iconst 0, 1) := by decide +kernel
theorem d_jdk_42m139_22 : decode jdk_42_method_139_code 22 = .ok (.invokespecial 209, 3) := by decide +kernel
theorem d_jdk_42m139_25 : decode jdk_42_method_139_code 25 = .ok (.areturn, 1) := by decide +kernel
theorem d_jdk_43m3_11 : decode jdk_43_method_3_code 11 = .ok (.iconst 0, 1) := by decide +kernel
theorem d_jdk_52m24_0 : decode jdk_52_method_24_code 0 = .ok (.iconst 2, 1) := by decide +kernel
theorem d_jdk_52m24_1 : decode jdk_52_method_24_code 1 = .ok (.newarray .byte, 2) := by decide +kernel
theorem d_jdk_52m24_3 : decode jdk_52_method_24_code 3 = .ok (.astore_n 1, 1) := by decide +kernel
theorem d_jdk_52m24_4 : decode jdk_52_method_24_code 4 = .ok (.aload_n 1, 1) := by decide +kernel
theorem d_jdk_52m24_5 : decode jdk_52_method_24_code 5 = .ok (.iconst 0, 1) := by decide +kernel
theorem d_jdk_52m24_6 : decode jdk_52_method_24_code 6 = .ok (.iload_n 0, 1) := by decide +kernel
theorem d_jdk_52m24_7 : decode jdk_52_method_24_code 7 = .ok (.invokestatic 111, 3) := by decide +kernel
theorem d_jdk_52m24_10 : decode jdk_52_method_24_code 10 = .ok (.aload_n 1, 1) := by decide +kernel
theorem d_jdk_52m24_11 : decode jdk_52_method_24_code 11 = .ok (.areturn, 1) := by decide +kernel
theorem d_jdk_42m139_26 : decode jdk_42_method_139_code 26 = .ok (.new 10, 3) := by decide +kernel
theorem d_jdk_42m139_29 : decode jdk_42_method_139_code 29 = .ok (.dup, 1) := by decide +kernel
theorem d_jdk_42m139_30 : decode jdk_42_method_139_code 30 = .ok (.iload_n 0, 1) := by decide +kernel
theorem d_jdk_42m139_31 : decode jdk_42_method_139_code 31 = .ok (.invokestatic 1021, 3) := by decide +kernel
theorem d_jdk_42m139_34 : decode jdk_42_method_139_code 34 = .ok (.iconst 1, 1) := by decide +kernel
theorem d_jdk_42m139_35 : decode jdk_42_method_139_code 35 = .ok (.invokespecial 209, 3) := by decide +kernel
theorem d_jdk_42m139_38 : decode jdk_42_method_139_code 38 = .ok (.areturn, 1) := by decide +kernel
theorem d_jdk_42m149_8 : decode jdk_42_method_149_code 8 = .ok (.aload_n 0, 1) := by decide +kernel
theorem d_jdk_42m149_9 : decode jdk_42_method_149_code 9 = .ok (.ldc 7, 2) := by decide +kernel
theorem d_jdk_42m149_11 : decode jdk_42_method_149_code 11 = .ok (.getfield 9, 3) := by decide +kernel
theorem d_jdk_42m149_14 : decode jdk_42_method_149_code 14 = .ok (.putfield 9, 3) := by decide +kernel
theorem d_jdk_42m149_17 : decode jdk_42_method_149_code 17 = .ok (.aload_n 0, 1) := by decide +kernel
theorem d_jdk_42m149_18 : decode jdk_42_method_149_code 18 = .ok (.ldc 7, 2) := by decide +kernel
theorem d_jdk_42m149_20 : decode jdk_42_method_149_code 20 = .ok (.getfield 15, 3) := by decide +kernel
theorem d_jdk_42m149_23 : decode jdk_42_method_149_code 23 = .ok (.putfield 15, 3) := by decide +kernel
theorem d_jdk_42m149_26 : decode jdk_42_method_149_code 26 = .ok (.return_, 1) := by decide +kernel
theorem d_method_3_0 : decode method_3_code 0 = .ok (.iload_n 0, 1) := by decide +kernel
theorem d_method_3_1 : decode method_3_code 1 = .ok (.ifCond .ne 14, 3) := by decide +kernel
theorem d_method_3_4 : decode method_3_code 4 = .ok (.new 25, 3) := by decide +kernel
theorem d_method_3_7 : decode method_3_code 7 = .ok (.dup, 1) := by decide +kernel
theorem d_method_3_8 : decode method_3_code 8 = .ok (.iconst 0, 1) := by decide +kernel
theorem d_method_3_9 : decode method_3_code 9 = .ok (.newarray .char, 2) := by decide +kernel
theorem d_method_3_11 : decode method_3_code 11 = .ok (.invokespecial 27, 3) := by decide +kernel
theorem d_method_3_14 : decode method_3_code 14 = .ok (.areturn, 1) := by decide +kernel
theorem d_method_3_15 : decode method_3_code 15 = .ok (.iload_n 0, 1) := by decide +kernel
theorem d_method_3_16 : decode method_3_code 16 = .ok (.iconst 1, 1) := by decide +kernel
theorem d_method_3_17 : decode method_3_code 17 = .ok (.if_icmp .ne 8, 3) := by decide +kernel
theorem d_method_3_20 : decode method_3_code 20 = .ok (.iload_n 1, 1) := by decide +kernel
theorem d_method_3_21 : decode method_3_code 21 = .ok (.invokestatic 30, 3) := by decide +kernel
theorem d_method_3_24 : decode method_3_code 24 = .ok (.areturn, 1) := by decide +kernel
theorem d_method_3_25 : decode method_3_code 25 = .ok (.iload_n 0, 1) := by decide +kernel
theorem d_method_3_26 : decode method_3_code 26 = .ok (.iconst 2, 1) := by decide +kernel
theorem d_method_3_27 : decode method_3_code 27 = .ok (.if_icmp .ne 22, 3) := by decide +kernel
theorem d_method_3_30 : decode method_3_code 30 = .ok (.new 25, 3) := by decide +kernel
theorem d_method_3_33 : decode method_3_code 33 = .ok (.dup, 1) := by decide +kernel
theorem d_method_3_34 : decode method_3_code 34 = .ok (.iconst 2, 1) := by decide +kernel
theorem d_method_3_35 : decode method_3_code 35 = .ok (.newarray .char, 2) := by decide +kernel
theorem d_method_3_37 : decode method_3_code 37 = .ok (.dup, 1) := by decide +kernel
theorem d_method_3_38 : decode method_3_code 38 = .ok (.iconst 0, 1) := by decide +kernel
theorem d_method_3_39 : decode method_3_code 39 = .ok (.iload_n 1, 1) := by decide +kernel
theorem d_method_3_40 : decode method_3_code 40 = .ok (.castore, 1) := by decide +kernel
theorem d_method_3_41 : decode method_3_code 41 = .ok (.dup, 1) := by decide +kernel
theorem d_method_3_42 : decode method_3_code 42 = .ok (.iconst 1, 1) := by decide +kernel
theorem d_method_3_43 : decode method_3_code 43 = .ok (.iload_n 2, 1) := by decide +kernel
theorem d_method_3_44 : decode method_3_code 44 = .ok (.castore, 1) := by decide +kernel
theorem d_method_3_45 : decode method_3_code 45 = .ok (.invokespecial 27, 3) := by decide +kernel
theorem d_method_3_48 : decode method_3_code 48 = .ok (.areturn, 1) := by decide +kernel
theorem d_method_3_49 : decode method_3_code 49 = .ok (.iload_n 0, 1) := by decide +kernel
theorem d_method_3_50 : decode method_3_code 50 = .ok (.iconst 3, 1) := by decide +kernel
theorem d_method_3_51 : decode method_3_code 51 = .ok (.if_icmp .ne 26, 3) := by decide +kernel
theorem d_method_3_54 : decode method_3_code 54 = .ok (.new 25, 3) := by decide +kernel
theorem d_method_3_57 : decode method_3_code 57 = .ok (.dup, 1) := by decide +kernel
theorem d_method_3_58 : decode method_3_code 58 = .ok (.iconst 3, 1) := by decide +kernel
theorem d_method_3_59 : decode method_3_code 59 = .ok (.newarray .char, 2) := by decide +kernel
theorem d_method_3_61 : decode method_3_code 61 = .ok (.dup, 1) := by decide +kernel
theorem d_method_3_62 : decode method_3_code 62 = .ok (.iconst 0, 1) := by decide +kernel
theorem d_method_3_63 : decode method_3_code 63 = .ok (.iload_n 1, 1) := by decide +kernel
theorem d_method_3_64 : decode method_3_code 64 = .ok (.castore, 1) := by decide +kernel
theorem d_method_3_65 : decode method_3_code 65 = .ok (.dup, 1) := by decide +kernel
theorem d_method_3_66 : decode method_3_code 66 = .ok (.iconst 1, 1) := by decide +kernel
theorem d_method_3_67 : decode method_3_code 67 = .ok (.iload_n 2, 1) := by decide +kernel
theorem d_method_3_68 : decode method_3_code 68 = .ok (.castore, 1) := by decide +kernel
theorem d_method_3_69 : decode method_3_code 69 = .ok (.dup, 1) := by decide +kernel
theorem d_method_3_70 : decode method_3_code 70 = .ok (.iconst 2, 1) := by decide +kernel
theorem d_method_3_71 : decode method_3_code 71 = .ok (.iload_n 3, 1) := by decide +kernel
theorem d_method_3_72 : decode method_3_code 72 = .ok (.castore, 1) := by decide +kernel
theorem d_method_3_73 : decode method_3_code 73 = .ok (.invokespecial 27, 3) := by decide +kernel
theorem d_method_3_76 : decode method_3_code 76 = .ok (.areturn, 1) := by decide +kernel
theorem d_method_3_77 : decode method_3_code 77 = .ok (.new 25, 3) := by decide +kernel
theorem d_method_3_80 : decode method_3_code 80 = .ok (.dup, 1) := by decide +kernel
theorem d_method_3_81 : decode method_3_code 81 = .ok (.iconst 4, 1) := by decide +kernel
theorem d_method_3_82 : decode method_3_code 82 = .ok (.newarray .char, 2) := by decide +kernel
theorem d_method_3_84 : decode method_3_code 84 = .ok (.dup, 1) := by decide +kernel
theorem d_method_3_85 : decode method_3_code 85 = .ok (.iconst 0, 1) := by decide +kernel
theorem d_method_3_86 : decode method_3_code 86 = .ok (.iload_n 1, 1) := by decide +kernel
theorem d_method_3_87 : decode method_3_code 87 = .ok (.castore, 1) := by decide +kernel
theorem d_method_3_88 : decode method_3_code 88 = .ok (.dup, 1) := by decide +kernel
theorem d_method_3_89 : decode method_3_code 89 = .ok (.iconst 1, 1) := by decide +kernel
theorem d_method_3_90 : decode method_3_code 90 = .ok (.iload_n 2, 1) := by decide +kernel
theorem d_method_3_91 : decode method_3_code 91 = .ok (.castore, 1) := by decide +kernel
theorem d_method_3_92 : decode method_3_code 92 = .ok (.dup, 1) := by decide +kernel
theorem d_method_3_93 : decode method_3_code 93 = .ok (.iconst 2, 1) := by decide +kernel
theorem d_method_3_94 : decode method_3_code 94 = .ok (.iload_n 3, 1) := by decide +kernel
theorem d_method_3_95 : decode method_3_code 95 = .ok (.castore, 1) := by decide +kernel
theorem d_method_3_96 : decode method_3_code 96 = .ok (.dup, 1) := by decide +kernel
theorem d_method_3_97 : decode method_3_code 97 = .ok (.iconst 3, 1) := by decide +kernel
theorem d_method_3_98 : decode method_3_code 98 = .ok (.iload 4, 2) := by decide +kernel
theorem d_method_3_100 : decode method_3_code 100 = .ok (.castore, 1) := by decide +kernel
theorem d_method_3_101 : decode method_3_code 101 = .ok (.invokespecial 27, 3) := by decide +kernel
theorem d_method_3_104 : decode method_3_code 104 = .ok (.areturn, 1) := by decide +kernel
theorem pd0 : parseMethodDescriptor "(I)I" = some ⟨[.int], some .int⟩ := by decide +kernel
theorem pd1 : parseMethodDescriptor "(I)[B" = some ⟨[.int], some (.array .byte)⟩ := by decide +kernel
theorem pd2 : parseMethodDescriptor "([BII)V" = some ⟨[(.array .byte), .int, .int], none⟩ := by decide +kernel
theorem pd3 : parseMethodDescriptor "([CI[BII)I" = some ⟨[(.array .char), .int, (.array .byte), .int, .int], some .int⟩ := by decide +kernel
theorem pd4 : parseMethodDescriptor "([CII)[B" = some ⟨[(.array .char), .int, .int], some (.array .byte)⟩ := by decide +kernel
theorem pd5 : parseMethodDescriptor "([BI)C" = some ⟨[(.array .byte), .int], some .char⟩ := by decide +kernel
theorem pd6 : parseMethodDescriptor "([BI)B" = some ⟨[(.array .byte), .int], some .byte⟩ := by decide +kernel
theorem pd7 : parseMethodDescriptor "([CIILjava/lang/Void;)V" = some ⟨[(.array .char), .int, .int, (.object "java/lang/Void")], none⟩ := by decide +kernel
theorem pd8 : parseMethodDescriptor "()B" = some ⟨[], some .byte⟩ := by decide +kernel
theorem pd9 : parseMethodDescriptor "(IILjava/util/function/BiFunction;)I" = some ⟨[.int, .int, (.object "java/util/function/BiFunction")], some .int⟩ := by decide +kernel
theorem pd10 : parseMethodDescriptor "(II)V" = some ⟨[.int, .int], none⟩ := by decide +kernel
theorem pd11 : parseMethodDescriptor "()Z" = some ⟨[], some .boolean⟩ := by decide +kernel
theorem pd12 : parseMethodDescriptor "([B)I" = some ⟨[(.array .byte)], some .int⟩ := by decide +kernel
theorem pd13 : parseMethodDescriptor "(I[B)V" = some ⟨[.int, (.array .byte)], none⟩ := by decide +kernel
theorem pd14 : parseMethodDescriptor "()I" = some ⟨[], some .int⟩ := by decide +kernel
theorem pd15 : parseMethodDescriptor "(I)C" = some ⟨[.int], some .char⟩ := by decide +kernel
theorem pd16 : parseMethodDescriptor "(C)Z" = some ⟨[.char], some .boolean⟩ := by decide +kernel
theorem pd17 : parseMethodDescriptor "(C)[B" = some ⟨[.char], some (.array .byte)⟩ := by decide +kernel
theorem pd18 : parseMethodDescriptor "([BB)V" = some ⟨[(.array .byte), .byte], none⟩ := by decide +kernel
theorem pd19 : parseMethodDescriptor "([C)V" = some ⟨[(.array .char)], none⟩ := by decide +kernel
theorem pd20 : parseMethodDescriptor "(C)Ljava/lang/String;" = some ⟨[.char], some (.object "java/lang/String")⟩ := by decide +kernel
theorem pd21 : parseMethodDescriptor "(ICCCC)Ljava/lang/String;" = some ⟨[.int, .char, .char, .char, .char], some (.object "java/lang/String")⟩ := by decide +kernel
theorem pd22 : parseMethodDescriptor "(Ljava/lang/String;)Z" = some ⟨[(.object "java/lang/String")], some .boolean⟩ := by decide +kernel
theorem pn0 : plainName "java/lang/StringUTF16" = true := by first | (simp [plainName, overriddenIn]; done) | decide +kernel
theorem pn1 : plainName "java/lang/String" = true := by first | (simp [plainName, overriddenIn]; done) | decide +kernel
theorem pn2 : plainName "jdk/internal/util/Preconditions" = true := by first | (simp [plainName, overriddenIn]; done) | decide +kernel
theorem pn3 : plainName "java/lang/StringLatin1" = true := by first | (simp [plainName, overriddenIn]; done) | decide +kernel
theorem pn4 : plainName "com/example/shelfmark/shelfmark/model/MarcRecordIsTagPinLaw" = true := by first | (simp [plainName, overriddenIn]; done) | decide +kernel
theorem pn5 : plainName "com/example/shelfmark/shelfmark/model/MarcRecord" = true := by first | (simp [plainName, overriddenIn]; done) | decide +kernel
theorem ef0 (m : MethodId) (x0 : Addr) (x1 : Int32) (x2 : Int32) : entryFrame m #[(.ref x0), (.int x1), (.int x2)] 3 = mkF m 0 #[.val (.ref x0), .val (.int x1), .val (.int x2)] [] := by (first | (simp [entryFrame, mkF, argsToLocals, Value.category]; done) | rfl)
theorem ef1 (m : MethodId) (x0 : Addr) (x1 : Int32) : entryFrame m #[(.ref x0), (.int x1)] 2 = mkF m 0 #[.val (.ref x0), .val (.int x1)] [] := by (first | (simp [entryFrame, mkF, argsToLocals, Value.category]; done) | rfl)
theorem ef2 (m : MethodId) (x0 : Addr) : entryFrame m #[(.ref x0)] 1 = mkF m 0 #[.val (.ref x0)] [] := by (first | (simp [entryFrame, mkF, argsToLocals, Value.category]; done) | rfl)
theorem ef3 (m : MethodId)  : entryFrame m #[(.int (2 : Int32))] 1 = mkF m 0 #[.val (.int (2 : Int32))] [] := by (first | (simp [entryFrame, mkF, argsToLocals, Value.category]; done) | rfl)
theorem ef4 (m : MethodId)  : entryFrame m #[(.int (2 : Int32))] 1 = mkF m 0 #[.val (.int (2 : Int32))] [] := by (first | (simp [entryFrame, mkF, argsToLocals, Value.category]; done) | rfl)
theorem ef5 (m : MethodId) (x0 : Addr) : entryFrame m #[(.ref x0), (.int (0 : Int32)), (.int (2 : Int32))] 5 = mkF m 0 #[.val (.ref x0), .val (.int (0 : Int32)), .val (.int (2 : Int32)), .unset, .unset] [] := by (first | (simp [entryFrame, mkF, argsToLocals, Value.category]; done) | rfl)
theorem ef6 (m : MethodId) (x0 : Addr) (x2 : Addr) : entryFrame m #[(.ref x0), (.int (0 : Int32)), (.ref x2), (.int (0 : Int32)), (.int (2 : Int32))] 7 = mkF m 0 #[.val (.ref x0), .val (.int (0 : Int32)), .val (.ref x2), .val (.int (0 : Int32)), .val (.int (2 : Int32)), .unset, .unset] [] := by (first | (simp [entryFrame, mkF, argsToLocals, Value.category]; done) | rfl)
theorem ef7 (m : MethodId) (x0 : Addr) : entryFrame m #[(.ref x0), (.int (0 : Int32)), (.int (2 : Int32))] 6 = mkF m 0 #[.val (.ref x0), .val (.int (0 : Int32)), .val (.int (2 : Int32)), .unset, .unset, .unset] [] := by (first | (simp [entryFrame, mkF, argsToLocals, Value.category]; done) | rfl)
theorem ef8 (m : MethodId) (x0 : Addr) : entryFrame m #[(.ref x0), (.int (2 : Int32))] 2 = mkF m 0 #[.val (.ref x0), .val (.int (2 : Int32))] [] := by (first | (simp [entryFrame, mkF, argsToLocals, Value.category]; done) | rfl)
theorem ef9 (m : MethodId) (x0 : Addr) (x1 : Addr) : entryFrame m #[(.ref x0), (.ref x1), (.int (0 : Int32)), (.int (2 : Int32)), .null] 6 = mkF m 0 #[.val (.ref x0), .val (.ref x1), .val (.int (0 : Int32)), .val (.int (2 : Int32)), .val .null, .unset] [] := by (first | (simp [entryFrame, mkF, argsToLocals, Value.category]; done) | rfl)
theorem ef10 (m : MethodId) (x0 : Addr) (x1 : Addr) : entryFrame m #[(.ref x0), (.ref x1)] 2 = mkF m 0 #[.val (.ref x0), .val (.ref x1)] [] := by (first | (simp [entryFrame, mkF, argsToLocals, Value.category]; done) | rfl)
theorem ef11 (m : MethodId)  : entryFrame m #[(.int (3 : Int32))] 1 = mkF m 0 #[.val (.int (3 : Int32))] [] := by (first | (simp [entryFrame, mkF, argsToLocals, Value.category]; done) | rfl)
theorem ef12 (m : MethodId)  : entryFrame m #[(.int (3 : Int32))] 1 = mkF m 0 #[.val (.int (3 : Int32))] [] := by (first | (simp [entryFrame, mkF, argsToLocals, Value.category]; done) | rfl)
theorem ef13 (m : MethodId) (x0 : Addr) : entryFrame m #[(.ref x0), (.int (0 : Int32)), (.int (3 : Int32))] 5 = mkF m 0 #[.val (.ref x0), .val (.int (0 : Int32)), .val (.int (3 : Int32)), .unset, .unset] [] := by (first | (simp [entryFrame, mkF, argsToLocals, Value.category]; done) | rfl)
theorem ef14 (m : MethodId) (x0 : Addr) (x2 : Addr) : entryFrame m #[(.ref x0), (.int (0 : Int32)), (.ref x2), (.int (0 : Int32)), (.int (3 : Int32))] 7 = mkF m 0 #[.val (.ref x0), .val (.int (0 : Int32)), .val (.ref x2), .val (.int (0 : Int32)), .val (.int (3 : Int32)), .unset, .unset] [] := by (first | (simp [entryFrame, mkF, argsToLocals, Value.category]; done) | rfl)
theorem ef15 (m : MethodId) (x0 : Addr) : entryFrame m #[(.ref x0), (.int (0 : Int32)), (.int (3 : Int32))] 6 = mkF m 0 #[.val (.ref x0), .val (.int (0 : Int32)), .val (.int (3 : Int32)), .unset, .unset, .unset] [] := by (first | (simp [entryFrame, mkF, argsToLocals, Value.category]; done) | rfl)
theorem ef16 (m : MethodId) (x0 : Addr) : entryFrame m #[(.ref x0), (.int (3 : Int32))] 2 = mkF m 0 #[.val (.ref x0), .val (.int (3 : Int32))] [] := by (first | (simp [entryFrame, mkF, argsToLocals, Value.category]; done) | rfl)
theorem ef17 (m : MethodId) (x0 : Addr) (x1 : Addr) : entryFrame m #[(.ref x0), (.ref x1), (.int (0 : Int32)), (.int (3 : Int32)), .null] 6 = mkF m 0 #[.val (.ref x0), .val (.ref x1), .val (.int (0 : Int32)), .val (.int (3 : Int32)), .val .null, .unset] [] := by (first | (simp [entryFrame, mkF, argsToLocals, Value.category]; done) | rfl)
theorem ef18 (m : MethodId) (x0 : Addr) (x1 : Addr) : entryFrame m #[(.ref x0), (.ref x1)] 2 = mkF m 0 #[.val (.ref x0), .val (.ref x1)] [] := by (first | (simp [entryFrame, mkF, argsToLocals, Value.category]; done) | rfl)
theorem ef19 (m : MethodId)  : entryFrame m #[(.int (4 : Int32))] 1 = mkF m 0 #[.val (.int (4 : Int32))] [] := by (first | (simp [entryFrame, mkF, argsToLocals, Value.category]; done) | rfl)
theorem ef20 (m : MethodId)  : entryFrame m #[(.int (4 : Int32))] 1 = mkF m 0 #[.val (.int (4 : Int32))] [] := by (first | (simp [entryFrame, mkF, argsToLocals, Value.category]; done) | rfl)
theorem ef21 (m : MethodId) (x0 : Addr) : entryFrame m #[(.ref x0), (.int (0 : Int32)), (.int (4 : Int32))] 5 = mkF m 0 #[.val (.ref x0), .val (.int (0 : Int32)), .val (.int (4 : Int32)), .unset, .unset] [] := by (first | (simp [entryFrame, mkF, argsToLocals, Value.category]; done) | rfl)
theorem ef22 (m : MethodId) (x0 : Addr) (x2 : Addr) : entryFrame m #[(.ref x0), (.int (0 : Int32)), (.ref x2), (.int (0 : Int32)), (.int (4 : Int32))] 7 = mkF m 0 #[.val (.ref x0), .val (.int (0 : Int32)), .val (.ref x2), .val (.int (0 : Int32)), .val (.int (4 : Int32)), .unset, .unset] [] := by (first | (simp [entryFrame, mkF, argsToLocals, Value.category]; done) | rfl)
theorem ef23 (m : MethodId) (x0 : Addr) : entryFrame m #[(.ref x0), (.int (0 : Int32)), (.int (4 : Int32))] 6 = mkF m 0 #[.val (.ref x0), .val (.int (0 : Int32)), .val (.int (4 : Int32)), .unset, .unset, .unset] [] := by (first | (simp [entryFrame, mkF, argsToLocals, Value.category]; done) | rfl)
theorem ef24 (m : MethodId) (x0 : Addr) : entryFrame m #[(.ref x0), (.int (4 : Int32))] 2 = mkF m 0 #[.val (.ref x0), .val (.int (4 : Int32))] [] := by (first | (simp [entryFrame, mkF, argsToLocals, Value.category]; done) | rfl)
theorem ef25 (m : MethodId) (x0 : Addr) (x1 : Addr) : entryFrame m #[(.ref x0), (.ref x1), (.int (0 : Int32)), (.int (4 : Int32)), .null] 6 = mkF m 0 #[.val (.ref x0), .val (.ref x1), .val (.int (0 : Int32)), .val (.int (4 : Int32)), .val .null, .unset] [] := by (first | (simp [entryFrame, mkF, argsToLocals, Value.category]; done) | rfl)
theorem ef26 (m : MethodId) (x0 : Addr) (x1 : Addr) : entryFrame m #[(.ref x0), (.ref x1)] 2 = mkF m 0 #[.val (.ref x0), .val (.ref x1)] [] := by (first | (simp [entryFrame, mkF, argsToLocals, Value.category]; done) | rfl)
theorem ef27 (m : MethodId) (x0 : Addr) : entryFrame m #[(.ref x0)] 1 = mkF m 0 #[.val (.ref x0)] [] := by (first | (simp [entryFrame, mkF, argsToLocals, Value.category]; done) | rfl)
theorem ef28 (m : MethodId) (x0 : Addr) : entryFrame m #[(.ref x0)] 1 = mkF m 0 #[.val (.ref x0)] [] := by (first | (simp [entryFrame, mkF, argsToLocals, Value.category]; done) | rfl)
theorem ef29 (m : MethodId) (x0 : Addr) : entryFrame m #[(.ref x0)] 1 = mkF m 0 #[.val (.ref x0)] [] := by (first | (simp [entryFrame, mkF, argsToLocals, Value.category]; done) | rfl)
theorem ef30 (m : MethodId) (x0 : Int32) (x1 : Int32) (x2 : Value) (hx2 : x2.isRef = true) : entryFrame m #[(.int x0), (.int x1), x2] 3 = mkF m 0 #[.val (.int x0), .val (.int x1), .val x2] [] := by rcases ref_cases hx2 with rfl | ⟨_, rfl⟩ <;> (first | (simp [entryFrame, mkF, argsToLocals, Value.category]; done) | rfl)
theorem ef31 (m : MethodId) (x0 : Int32) (x1 : Int32) : entryFrame m #[(.int x0), (.int x1)] 2 = mkF m 0 #[.val (.int x0), .val (.int x1)] [] := by (first | (simp [entryFrame, mkF, argsToLocals, Value.category]; done) | rfl)
theorem ef32 (m : MethodId) (x0 : Addr) (x1 : Int32) : entryFrame m #[(.ref x0), (.int x1)] 2 = mkF m 0 #[.val (.ref x0), .val (.int x1)] [] := by (first | (simp [entryFrame, mkF, argsToLocals, Value.category]; done) | rfl)
theorem ef33 (m : MethodId) (x0 : Addr) (x1 : Int32) : entryFrame m #[(.ref x0), (.int x1)] 2 = mkF m 0 #[.val (.ref x0), .val (.int x1)] [] := by (first | (simp [entryFrame, mkF, argsToLocals, Value.category]; done) | rfl)
theorem ef34 (m : MethodId) (x0 : Addr) : entryFrame m #[(.ref x0)] 1 = mkF m 0 #[.val (.ref x0)] [] := by (first | (simp [entryFrame, mkF, argsToLocals, Value.category]; done) | rfl)
theorem ef35 (m : MethodId) (x0 : Addr) : entryFrame m #[(.ref x0)] 1 = mkF m 0 #[.val (.ref x0)] [] := by (first | (simp [entryFrame, mkF, argsToLocals, Value.category]; done) | rfl)
theorem ef36 (m : MethodId) (x0 : Addr) : entryFrame m #[(.ref x0)] 1 = mkF m 0 #[.val (.ref x0)] [] := by (first | (simp [entryFrame, mkF, argsToLocals, Value.category]; done) | rfl)
theorem ef37 (m : MethodId) (x0 : Int32) (x1 : Addr) : entryFrame m #[(.int x0), (.ref x1)] 2 = mkF m 0 #[.val (.int x0), .val (.ref x1)] [] := by (first | (simp [entryFrame, mkF, argsToLocals, Value.category]; done) | rfl)
theorem ef38 (m : MethodId) (x0 : Addr) (x1 : Int32) : entryFrame m #[(.ref x0), (.int x1)] 2 = mkF m 0 #[.val (.ref x0), .val (.int x1)] [] := by (first | (simp [entryFrame, mkF, argsToLocals, Value.category]; done) | rfl)
theorem ef39 (m : MethodId) (x0 : Addr) (x1 : Int32) : entryFrame m #[(.ref x0), (.int x1)] 2 = mkF m 0 #[.val (.ref x0), .val (.int x1)] [] := by (first | (simp [entryFrame, mkF, argsToLocals, Value.category]; done) | rfl)
theorem ef40 (m : MethodId) (x0 : Int32) : entryFrame m #[(.int x0)] 3 = mkF m 0 #[.val (.int x0), .unset, .unset] [] := by (first | (simp [entryFrame, mkF, argsToLocals, Value.category]; done) | rfl)
theorem ef41 (m : MethodId) (x0 : Addr) : entryFrame m #[(.ref x0)] 4 = mkF m 0 #[.val (.ref x0), .unset, .unset, .unset] [] := by (first | (simp [entryFrame, mkF, argsToLocals, Value.category]; done) | rfl)
theorem ef42 (m : MethodId) (x0 : Addr) : entryFrame m #[(.ref x0)] 4 = mkF m 0 #[.val (.ref x0), .unset, .unset, .unset] [] := by (first | (simp [entryFrame, mkF, argsToLocals, Value.category]; done) | rfl)
theorem ef43 (m : MethodId) (x0 : Int32) : entryFrame m #[(.int x0)] 1 = mkF m 0 #[.val (.int x0)] [] := by (first | (simp [entryFrame, mkF, argsToLocals, Value.category]; done) | rfl)
theorem ef44 (m : MethodId) (x0 : Int32) : entryFrame m #[(.int x0)] 1 = mkF m 0 #[.val (.int x0)] [] := by (first | (simp [entryFrame, mkF, argsToLocals, Value.category]; done) | rfl)
theorem ef45 (m : MethodId) (x0 : Addr) (x1 : Addr) : entryFrame m #[(.ref x0), (.ref x1), (.int (0 : Int32))] 3 = mkF m 0 #[.val (.ref x0), .val (.ref x1), .val (.int (0 : Int32))] [] := by (first | (simp [entryFrame, mkF, argsToLocals, Value.category]; done) | rfl)
theorem ef46 (m : MethodId) (x0 : Int32) : entryFrame m #[(.int x0)] 1 = mkF m 0 #[.val (.int x0)] [] := by (first | (simp [entryFrame, mkF, argsToLocals, Value.category]; done) | rfl)
theorem ef47 (m : MethodId) (x0 : Addr) (x1 : Addr) : entryFrame m #[(.ref x0), (.ref x1), (.int (1 : Int32))] 3 = mkF m 0 #[.val (.ref x0), .val (.ref x1), .val (.int (1 : Int32))] [] := by (first | (simp [entryFrame, mkF, argsToLocals, Value.category]; done) | rfl)
theorem ef48 (m : MethodId) (x0 : Int32) : entryFrame m #[(.int x0)] 1 = mkF m 0 #[.val (.int x0)] [] := by (first | (simp [entryFrame, mkF, argsToLocals, Value.category]; done) | rfl)
theorem ef49 (m : MethodId) (x0 : Int32) : entryFrame m #[(.int x0)] 2 = mkF m 0 #[.val (.int x0), .unset] [] := by (first | (simp [entryFrame, mkF, argsToLocals, Value.category]; done) | rfl)
theorem ef50 (m : MethodId) (x0 : Int32) : entryFrame m #[(.int x0)] 1 = mkF m 0 #[.val (.int x0)] [] := by (first | (simp [entryFrame, mkF, argsToLocals, Value.category]; done) | rfl)
theorem ef51 (m : MethodId) (x0 : Addr) (x1 : Addr) : entryFrame m #[(.ref x0), (.ref x1), (.int (0 : Int32)), (.int (0 : Int32)), .null] 6 = mkF m 0 #[.val (.ref x0), .val (.ref x1), .val (.int (0 : Int32)), .val (.int (0 : Int32)), .val .null, .unset] [] := by (first | (simp [entryFrame, mkF, argsToLocals, Value.category]; done) | rfl)
theorem ef52 (m : MethodId) (x0 : Addr) (x1 : Addr) : entryFrame m #[(.ref x0), (.ref x1)] 2 = mkF m 0 #[.val (.ref x0), .val (.ref x1)] [] := by (first | (simp [entryFrame, mkF, argsToLocals, Value.category]; done) | rfl)
theorem ef53 (m : MethodId) (x1 : Int32) (x2 : Int32) (x3 : Int32) (x4 : Int32) : entryFrame m #[(.int (0 : Int32)), (.int x1), (.int x2), (.int x3), (.int x4)] 5 = mkF m 0 #[.val (.int (0 : Int32)), .val (.int x1), .val (.int x2), .val (.int x3), .val (.int x4)] [] := by (first | (simp [entryFrame, mkF, argsToLocals, Value.category]; done) | rfl)
theorem ef54 (m : MethodId) (x1 : Int32) (x2 : Int32) (x3 : Int32) (x4 : Int32) : entryFrame m #[(.int (1 : Int32)), (.int x1), (.int x2), (.int x3), (.int x4)] 5 = mkF m 0 #[.val (.int (1 : Int32)), .val (.int x1), .val (.int x2), .val (.int x3), .val (.int x4)] [] := by (first | (simp [entryFrame, mkF, argsToLocals, Value.category]; done) | rfl)
theorem ef55 (m : MethodId) (x1 : Int32) (x2 : Int32) (x3 : Int32) (x4 : Int32) : entryFrame m #[(.int (2 : Int32)), (.int x1), (.int x2), (.int x3), (.int x4)] 5 = mkF m 0 #[.val (.int (2 : Int32)), .val (.int x1), .val (.int x2), .val (.int x3), .val (.int x4)] [] := by (first | (simp [entryFrame, mkF, argsToLocals, Value.category]; done) | rfl)
theorem ef56 (m : MethodId) (x1 : Int32) (x2 : Int32) (x3 : Int32) (x4 : Int32) : entryFrame m #[(.int (3 : Int32)), (.int x1), (.int x2), (.int x3), (.int x4)] 5 = mkF m 0 #[.val (.int (3 : Int32)), .val (.int x1), .val (.int x2), .val (.int x3), .val (.int x4)] [] := by (first | (simp [entryFrame, mkF, argsToLocals, Value.category]; done) | rfl)
theorem ef57 (m : MethodId) (x1 : Int32) (x2 : Int32) (x3 : Int32) (x4 : Int32) : entryFrame m #[(.int (4 : Int32)), (.int x1), (.int x2), (.int x3), (.int x4)] 5 = mkF m 0 #[.val (.int (4 : Int32)), .val (.int x1), .val (.int x2), .val (.int x3), .val (.int x4)] [] := by (first | (simp [entryFrame, mkF, argsToLocals, Value.category]; done) | rfl)
theorem ef58 (m : MethodId) (x0 : Int32) (x1 : Int32) (x2 : Int32) : entryFrame m #[(.int x0), (.int x1), (.int x2)] maxLocals = mkF m 0 #[.val (.int x0), .val (.int x1), .val (.int x2), .unset, .unset, .unset, .unset, .unset, .unset, .unset] [] := by (first | (simp [entryFrame, mkF, argsToLocals, Value.category, maxLocals]; done) | rfl)
/-- the String at x spells cs (Latin-1, at most 4,000 signs) -/
def Str (Z : State) (h : Heap) (x : Addr) (cs : List Int32) : Prop := Exa Z h x StN ∧ Fld Z h x StN "coder" "B" (.int 0) ∧ (∃ t, Fld Z h x StN "value" "[B" (.ref t) ∧ Wk.Ary Z h t .byte ((cs.map fun c => c.toInt8.toInt32).map Value.int)) ∧ (∀ c ∈ cs, ¬ c < 0 ∧ ¬ (255 : Int32) < c) ∧ cs.length ≤ 4000
theorem Str.ext {Z : State} {h h' : Heap} {x : Addr} {cs : List Int32} (F : Str Z h x cs) (E : Ext h h') : Str Z h' x cs := by
  obtain ⟨a, b, ⟨t, c, d⟩, r⟩ := F
  exact ⟨a.ext E, b.ext E, ⟨t, c.ext E, d.ext E⟩, r⟩
theorem Str.exa {Z : State} {h : Heap} {x : Addr} {cs : List Int32} (F : Str Z h x cs) : Exa Z h x StN := F.1
theorem Str.lt {Z : State} {h : Heap} {x : Addr} {cs : List Int32} (F : Str Z h x cs) : x < h.size := F.1.lt
theorem strNew {l : Launch} {R : Room} {Z : State} {W : Wk.Wd} {a0 : Array Value} {own nm : String} {code : ByteArray} {maxL : Nat} {ret : Option FieldType} (C : Wk.Cx Z W own nm code maxL ret) (hw : Ws a0 Z) (hs : Sets Z) {h : Heap} (O : Ext Z.heap h) {x b : Addr} {cs : List Int32} {n Wn : Nat} {v0 c0 : Value}
    (hx0 : Z.heap.size ≤ x) (E : Exa Z h x StN) (V : Fld Z h x StN "value" "[B" v0) (Cd : Fld Z h x StN "coder" "B" c0) (K : Wk.Ary Z h b .char (cs.map Value.int)) (hn : cs.length = n) (l0 : 0 < n) (l2 : n ≤ 4000) (hp : ∀ c ∈ cs, ¬ c < 0 ∧ ¬ (255 : Int32) < c) (hfr : 4 ≤ R.frames) (hlo : Wn + 65 ≤ R.locals) :
    Wk.Pays l R W (⟨"java/lang/String", "<init>", "([C)V"⟩ : MethodName) 3 Wn #[.ref x, .ref b] h 1 n (StrChars.Road.QV Z x (Int32.ofNat n) (cs.map fun c => c.toInt8.toInt32) h Z.heap.size) := by
  obtain ⟨z, fm, S1, hz, -, -⟩ := hs
  obtain ⟨kc, A⟩ := K.arv (d := .int 0)
  rw [List.length_map, hn] at A
  have hws : ∀ d ∈ StrChars.Road.words, d.before a0 Z = true := fun d hd => hw d ((by decide +kernel : ∀ d ∈ StrChars.Road.words, d ∈ tables_1) d hd)
  exact StrChars.Road.backV (W := Wn) C.hZ hws (kI := 4) (w7 hw) (cs := cs) hx0 O.1 E V Cd A (S1.ext O) hz hn rfl l0 l2 hp rfl hfr hlo
theorem strNewC {Z : State} {h : Heap} {x : Addr} {cs : List Int32} {n : Nat} (O : Ext Z.heap h) (hx0 : Z.heap.size ≤ x) (hn : cs.length = n) (l2 : n ≤ 4000) (hp : ∀ c ∈ cs, ¬ c < 0 ∧ ¬ (255 : Int32) < c) :
    Wk.Clean Z (fun v h' => v = none ∧ Keep h h' [x] ∧ Str Z h' x cs) (StrChars.Road.QV Z x (Int32.ofNat n) (cs.map fun c => c.toInt8.toInt32) h Z.heap.size) := by
  rintro v h' L ⟨rfl, N, K, E, Cd, t, kb, -, -, -, V, A⟩
  refine ⟨⟨rfl, K, E, Cd, ⟨t, V, Wk.Ary.of_arv A ?_⟩, hp, by omega⟩, Wk.Ext.keep1 (Z := Z) O K hx0, N⟩
  rw [Int32.toNatClampNeg_ofNat_of_lt (by omega)]; simp [hn]
namespace Ww
open Jvm Jvm.ClassFile Sem Op Lib Jvm.Free Jvm.Stand Jvm.LawKit Jvm.RoadKit Wk
def Go (R : Room) (Z : State) (EL : List (String × Nat)) (W : Wd) (Q : Post) (A : State) : Prop :=
  ∃ s₂ o, Steps W.p.tables W.e W.b A s₂ ∧ s₂.status = .running ∧ Ended s₂ W.b o ∧ ∃ v L, o = .returned v ∧ (Q v s₂.heap ∧ Ext Z.heap s₂.heap ∧ Fr Z.heap.size L) ∧ CHr Z EL W.s.vm W.s.heap s₂.vm s₂.heap ∧ ReturnedEndW W.s o s₂ L R.cells R.slots
abbrev At (W : Wd) (vm0 : Vm) : Wd := (W.p, W.e, W.s.setVm vm0, W.m, W.a, W.b, W.t, W.c)
abbrev Std (l : Launch) (R : Room) (W : Wd) (vm0 : Vm) (T : State) (locs : List Loc) (k n : Nat) : Prop := Stand W.p l W.e R (W.s.setVm vm0) W.m W.a W.b W.t W.c T locs k n
def Inv (Z : State) (EL : List (String × Nat)) (W : Wd) (S : List Addr) (vm0 : Vm) (h : Heap) : Prop :=
  (∃ k0, W.s.Since vm0 k0 ∧ k0 ≤ h.size) ∧ Z.Warmed39 vm0 ∧ CHr Z EL W.s.vm W.s.heap vm0 h ∧ ∀ x ∈ S, x < h.size ∧ Safe Z EL vm0 h x
def Run (l : Launch) (R : Room) (Z : State) (EL : List (String × Nat)) (W : Wd) (Q : Post) (S : List Addr) (h : Heap) (k n : Nat) (f : JFrame) : Prop :=
  ∀ vm0 T locs, Std l R W vm0 T locs k n → T.heap = h → Fr Z.heap.size locs → Ext Z.heap h → Inv Z EL W S vm0 h → Go R Z EL W Q (T.setTop f)
section Kit
variable {l : Launch} {R : Room} {Z : State} {EL : List (String × Nat)} {W : Wd} {Q : Post} {S : List Addr} {h : Heap} {k n : Nat} {own nm : String} {code : ByteArray} {maxL : Nat} {ret : Option FieldType} {a0 : Array Value} {pc pc' : Nat} {Ls : Array Slot} {st : List Value}
theorem Inv.hZ {vm0 : Vm} (I : Inv Z EL W S vm0 h) : Z.Warmed39 (W.s.setVm vm0).vm := I.2.1
theorem Inv.ow {vm0 : Vm} (I : Inv Z EL W S vm0 h) (C : Cx Z W own nm code maxL ret) : (W.s.setVm vm0).vm.findClass own = some W.m.cls := by
  obtain ⟨k0, hS, -⟩ := I.1
  show vm0.findClass own = _
  rw [hS.1.alike.findClass]; exact C.ow
theorem Inv.cx {vm0 : Vm} (I : Inv Z EL W S vm0 h) (C : Cx Z W own nm code maxL ret) : Cx Z (At W vm0) own nm code maxL ret :=
  ⟨C.1, C.2.1, C.2.2.1, I.ow C, I.hZ, C.2.2.2.2.2.1, C.2.2.2.2.2.2.1, C.2.2.2.2.2.2.2⟩
theorem Inv.ch {vm0 : Vm} (I : Inv Z EL W S vm0 h) : CHv Z EL vm0 h := I.2.2.1.1
theorem Inv.ext {vm0 : Vm} {h' : Heap} (I : Inv Z EL W S vm0 h) (E : Ext h h') : Inv Z EL W S vm0 h' := by
  obtain ⟨⟨k0, hS, hk⟩, hZ, hr, hs⟩ := I
  exact ⟨⟨k0, hS, Nat.le_trans hk E.1⟩, hZ, hr.trans (CHr.ext E hr.1), fun x hx => ⟨Nat.lt_of_lt_of_le (hs x hx).1 E.1, (hs x hx).2.ext E hr.1⟩⟩
theorem Inv.keep {vm0 : Vm} {h' : Heap} {ws : List Addr} (I : Inv Z EL W S vm0 h) (K : Keep h h' ws) (q : ∀ x ∈ ws, x ∈ S) : Inv Z EL W S vm0 h' := by
  obtain ⟨⟨k0, hS, hk⟩, hZ, hr, hs⟩ := I
  have hq : ∀ x ∈ ws, Safe Z EL vm0 h x := fun x hx => (hs x (q x hx)).2
  exact ⟨⟨k0, hS, Nat.le_trans hk K.1⟩, hZ, hr.trans (CHr.keep K hq hr.1), fun x hx => ⟨Nat.lt_of_lt_of_le (hs x hx).1 K.1, (hs x hx).2.keep K hq hr.1⟩⟩
theorem Inv.add {vm0 : Vm} {x : Addr} (I : Inv Z EL W S vm0 h) (hx : x < h.size) (sf : Safe Z EL vm0 h x) : Inv Z EL W (x :: S) vm0 h :=
  ⟨I.1, I.2.1, I.2.2.1, fun y hy => (List.mem_cons.mp hy).elim (fun e => e ▸ ⟨hx, sf⟩) (I.2.2.2 y)⟩
theorem Inv.fresh {vm0 : Vm} {h' : Heap} (I : Inv Z EL W S vm0 h) (E : Ext h h') (hx : h.size < h'.size) : Inv Z EL W (h.size :: S) vm0 h' :=
  (I.ext E).add hx ((Safe.new (Nat.le_refl _)).ext E I.ch)
theorem Go.step {A B : State} (f : ∀ t, Steps W.p.tables W.e W.b B t → Steps W.p.tables W.e W.b A t) (g : Go R Z EL W Q B) : Go R Z EL W Q A := by
  obtain ⟨t, o, h1, r⟩ := g
  exact ⟨t, o, f t h1, r⟩
theorem Run.one {g g' : JFrame} (f : ∀ vm0 T locs, Std l R W vm0 T locs k n → T.heap = h → Inv Z EL W S vm0 h → ∀ t, Steps W.p.tables W.e W.b (T.setTop g') t → Steps W.p.tables W.e W.b (T.setTop g) t) (r : Run l R Z EL W Q S h k n g') : Run l R Z EL W Q S h k n g :=
  fun vm0 T locs X eT N O I => Go.step (f vm0 T locs X eT I) (r vm0 T locs X eT N O I)
theorem Run.old {f : JFrame} (r : Ext Z.heap h → Run l R Z EL W Q S h k n f) : Run l R Z EL W Q S h k n f := fun vm0 T locs X eT N O I => r O vm0 T locs X eT N O I
/-- what is no constant of EL's, by what it holds -/
def SafeAt (Z : State) (EL : List (String × Nat)) (h : Heap) (x : Addr) : Prop := ∀ vm, Z.vm.Alike vm → CHv Z EL vm h → Safe Z EL vm h x
theorem Run.safe {f : JFrame} {x : Addr} (hx : x < h.size) (sf : SafeAt Z EL h x) (r : Run l R Z EL W Q (x :: S) h k n f) : Run l R Z EL W Q S h k n f :=
  fun vm0 T locs X eT N O I => r vm0 T locs X eT N O (I.add hx (sf vm0 I.2.1.alike I.ch))
theorem SafeAt.exa {x : Addr} {C : String} (E : Exa Z h x C) (h1 : C ≠ "java/lang/String") (h2 : C ≠ "[B") : SafeAt Z EL h x := fun vm al _ => Safe.exa al E h1 h2
theorem SafeAt.str0 {x : Addr} (E : Exa Z h x "java/lang/String") (V : Fld Z h x "java/lang/String" "value" "[B" .null) : SafeAt Z EL h x := fun vm al _ B => by
  obtain ⟨p, -, u, a, -, q, -, F, rfl | rfl⟩ := B
  · obtain ⟨cS, ⟨⟨ha, -, -, ⟨c1, k1, i1, f1, -⟩, -, -, -, v1, -⟩, -⟩, -⟩ := F
    obtain ⟨cell, cf, k, i, f, h1, h2, -, -, -, -, h7⟩ := V
    cases (show h[q.sa]? = some q.sC from ha).symm.trans h1
    obtain ⟨k3, e3, -⟩ := State.fieldFound?_setVm (s := Z) al h2
    have e4 := (show (Wst Z vm h).fieldFound? _ _ _ = _ from e3).symm.trans f1
    simp only [Option.some.injEq, Prod.mk.injEq] at e4
    rw [e4.2.2.2, v1] at h7
    cases h7
  · obtain ⟨cell, k, e1, e2, -⟩ := E
    cases (show h[q.sd]? = some q.SA from F.hd).symm.trans e1
    obtain ⟨cS, -, -, f, -⟩ := F
    have f' : Z.vm.findClass "[B" = some q.SA.cls := by rw [← al.findClass]; exact f
    exact ids_ne f' e2 (by decide) rfl
theorem iloadN (C : Cx Z W own nm code maxL ret) {i : Fin 4} {v : Int32} (hd : decode code pc = .ok (.iload_n i, 1)) (hl : Ls[i.val]? = some (.val (.int v))) (hp : pc + 1 = pc')
    (r : Run l R Z EL W Q S h k n (mkF W.m pc' Ls (.int v :: st))) : Run l R Z EL W Q S h k n (mkF W.m pc Ls (st)) := by
  subst hp
  exact Run.one (fun vm0 T locs X _ I t g => XS.iloadN X.here C.hx rfl (C.hb hd) hl g) r
theorem iload (C : Cx Z W own nm code maxL ret) {i : Nat} {v : Int32} (hd : decode code pc = .ok (.iload i, 2)) (hl : Ls[i]? = some (.val (.int v))) (hp : pc + 2 = pc')
    (r : Run l R Z EL W Q S h k n (mkF W.m pc' Ls (.int v :: st))) : Run l R Z EL W Q S h k n (mkF W.m pc Ls (st)) := by
  subst hp
  exact Run.one (fun vm0 T locs X _ I t g => XS.iload X.here C.hx rfl (C.hb hd) hl g) r
theorem aloadN (C : Cx Z W own nm code maxL ret) {i : Fin 4} {v : Value} (hd : decode code pc = .ok (.aload_n i, 1)) (hl : Ls[i.val]? = some (.val v)) (hv : v.isRef = true) (hp : pc + 1 = pc')
    (r : Run l R Z EL W Q S h k n (mkF W.m pc' Ls (v :: st))) : Run l R Z EL W Q S h k n (mkF W.m pc Ls (st)) := by
  subst hp
  exact Run.one (fun vm0 T locs X _ I t g => XS.aloadN X.here C.hx rfl (C.hb hd) hl hv g) r
theorem aload (C : Cx Z W own nm code maxL ret) {i : Nat} {v : Value} (hd : decode code pc = .ok (.aload i, 2)) (hl : Ls[i]? = some (.val v)) (hv : v.isRef = true) (hp : pc + 2 = pc')
    (r : Run l R Z EL W Q S h k n (mkF W.m pc' Ls (v :: st))) : Run l R Z EL W Q S h k n (mkF W.m pc Ls (st)) := by
  subst hp
  exact Run.one (fun vm0 T locs X _ I t g => XS.aload X.here C.hx rfl (C.hb hd) hl hv g) r
theorem istoreN (C : Cx Z W own nm code maxL ret) {i : Fin 4} {v : Int32} {Ls' : Array Slot} (hd : decode code pc = .ok (.istore_n i, 1)) (hl : storeLocals Ls i.val (.int v) = some Ls') (hp : pc + 1 = pc')
    (r : Run l R Z EL W Q S h k n (mkF W.m pc' Ls' (st))) : Run l R Z EL W Q S h k n (mkF W.m pc Ls (.int v :: st)) := by
  subst hp
  exact Run.one (fun vm0 T locs X _ I t g => XS.istoreN X.here C.hx rfl (C.hb hd) rfl hl g) r
theorem istore (C : Cx Z W own nm code maxL ret) {i : Nat} {v : Int32} {Ls' : Array Slot} (hd : decode code pc = .ok (.istore i, 2)) (hl : storeLocals Ls i (.int v) = some Ls') (hp : pc + 2 = pc')
    (r : Run l R Z EL W Q S h k n (mkF W.m pc' Ls' (st))) : Run l R Z EL W Q S h k n (mkF W.m pc Ls (.int v :: st)) := by
  subst hp
  exact Run.one (fun vm0 T locs X _ I t g => XS.istore X.here C.hx rfl (C.hb hd) rfl hl g) r
theorem astoreN (C : Cx Z W own nm code maxL ret) {i : Fin 4} {v : Value} {Ls' : Array Slot} (hd : decode code pc = .ok (.astore_n i, 1)) (hv : v.isRef = true) (hl : storeLocals Ls i.val v = some Ls') (hp : pc + 1 = pc')
    (r : Run l R Z EL W Q S h k n (mkF W.m pc' Ls' (st))) : Run l R Z EL W Q S h k n (mkF W.m pc Ls (v :: st)) := by
  subst hp
  exact Run.one (fun vm0 T locs X _ I t g => XS.astoreN X.here C.hx rfl (C.hb hd) rfl hv hl g) r
theorem astore (C : Cx Z W own nm code maxL ret) {i : Nat} {v : Value} {Ls' : Array Slot} (hd : decode code pc = .ok (.astore i, 2)) (hv : v.isRef = true) (hl : storeLocals Ls i v = some Ls') (hp : pc + 2 = pc')
    (r : Run l R Z EL W Q S h k n (mkF W.m pc' Ls' (st))) : Run l R Z EL W Q S h k n (mkF W.m pc Ls (v :: st)) := by
  subst hp
  exact Run.one (fun vm0 T locs X _ I t g => XS.astore X.here C.hx rfl (C.hb hd) rfl hv hl g) r
theorem iconst (C : Cx Z W own nm code maxL ret) {i : Int} {v : Int32} (hd : decode code pc = .ok (.iconst i, 1)) (hv : Int32.ofInt i = v) (hp : pc + 1 = pc')
    (r : Run l R Z EL W Q S h k n (mkF W.m pc' Ls (.int v :: st))) : Run l R Z EL W Q S h k n (mkF W.m pc Ls (st)) := by
  subst hp
  exact Run.one (fun vm0 T locs X _ I t g => XS.iconst X.here C.hx rfl (C.hb hd) (hv ▸ g)) r
theorem bipush (C : Cx Z W own nm code maxL ret) {i : Int} {v : Int32} (hd : decode code pc = .ok (.bipush i, 2)) (hv : (Int8.ofInt i).toInt32 = v) (hp : pc + 2 = pc')
    (r : Run l R Z EL W Q S h k n (mkF W.m pc' Ls (.int v :: st))) : Run l R Z EL W Q S h k n (mkF W.m pc Ls (st)) := by
  subst hp
  exact Run.one (fun vm0 T locs X _ I t g => XS.bipush X.here C.hx rfl (C.hb hd) (hv ▸ g)) r
theorem sipush (C : Cx Z W own nm code maxL ret) {i : Int} {v : Int32} (hd : decode code pc = .ok (.sipush i, 3)) (hv : (Int16.ofInt i).toInt32 = v) (hp : pc + 3 = pc')
    (r : Run l R Z EL W Q S h k n (mkF W.m pc' Ls (.int v :: st))) : Run l R Z EL W Q S h k n (mkF W.m pc Ls (st)) := by
  subst hp
  exact Run.one (fun vm0 T locs X _ I t g => XS.sipush X.here C.hx rfl (C.hb hd) (hv ▸ g)) r
theorem aconstNull (C : Cx Z W own nm code maxL ret)  (hd : decode code pc = .ok (.aconst_null, 1)) (hp : pc + 1 = pc')
    (r : Run l R Z EL W Q S h k n (mkF W.m pc' Ls (.null :: st))) : Run l R Z EL W Q S h k n (mkF W.m pc Ls (st)) := by
  subst hp
  exact Run.one (fun vm0 T locs X _ I t g => XS.aconstNull X.here C.hx rfl (C.hb hd) g) r
theorem isub (C : Cx Z W own nm code maxL ret) {x y v : Int32} (hd : decode code pc = .ok (.isub, 1)) (hv : x - y = v) (hp : pc + 1 = pc')
    (r : Run l R Z EL W Q S h k n (mkF W.m pc' Ls (.int v :: st))) : Run l R Z EL W Q S h k n (mkF W.m pc Ls (.int y :: .int x :: st)) := by
  subst hp
  exact Run.one (fun vm0 T locs X _ I t g => XS.isub X.here C.hx rfl (C.hb hd) rfl (hv ▸ g)) r
theorem iand (C : Cx Z W own nm code maxL ret) {x y v : Int32} (hd : decode code pc = .ok (.iand, 1)) (hv : x &&& y = v) (hp : pc + 1 = pc')
    (r : Run l R Z EL W Q S h k n (mkF W.m pc' Ls (.int v :: st))) : Run l R Z EL W Q S h k n (mkF W.m pc Ls (.int y :: .int x :: st)) := by
  subst hp
  exact Run.one (fun vm0 T locs X _ I t g => XS.iand X.here C.hx rfl (C.hb hd) rfl (hv ▸ g)) r
theorem ior (C : Cx Z W own nm code maxL ret) {x y v : Int32} (hd : decode code pc = .ok (.ior, 1)) (hv : x ||| y = v) (hp : pc + 1 = pc')
    (r : Run l R Z EL W Q S h k n (mkF W.m pc' Ls (.int v :: st))) : Run l R Z EL W Q S h k n (mkF W.m pc Ls (.int y :: .int x :: st)) := by
  subst hp
  exact Run.one (fun vm0 T locs X _ I t g => XS.ior X.here C.hx rfl (C.hb hd) rfl (hv ▸ g)) r
theorem irem (C : Cx Z W own nm code maxL ret) {x y v : Int32} (hd : decode code pc = .ok (.irem, 1)) (hy : ¬ y = 0) (hv : x % y = v) (hp : pc + 1 = pc')
    (r : Run l R Z EL W Q S h k n (mkF W.m pc' Ls (.int v :: st))) : Run l R Z EL W Q S h k n (mkF W.m pc Ls (.int y :: .int x :: st)) := by
  subst hp
  exact Run.one (fun vm0 T locs X _ I t g => iremM X C.hx rfl (C.hb hd) rfl hy (hv ▸ g)) r
theorem ishl (C : Cx Z W own nm code maxL ret) {x y v : Int32} (hd : decode code pc = .ok (.ishl, 1)) (hv : x <<< (y &&& 31) = v) (hp : pc + 1 = pc')
    (r : Run l R Z EL W Q S h k n (mkF W.m pc' Ls (.int v :: st))) : Run l R Z EL W Q S h k n (mkF W.m pc Ls (.int y :: .int x :: st)) := by
  subst hp
  exact Run.one (fun vm0 T locs X _ I t g => XS.ishl X.here C.hx rfl (C.hb hd) rfl (hv ▸ g)) r
theorem ishr (C : Cx Z W own nm code maxL ret) {x y v : Int32} (hd : decode code pc = .ok (.ishr, 1)) (hv : x >>> (y &&& 31) = v) (hp : pc + 1 = pc')
    (r : Run l R Z EL W Q S h k n (mkF W.m pc' Ls (.int v :: st))) : Run l R Z EL W Q S h k n (mkF W.m pc Ls (.int y :: .int x :: st)) := by
  subst hp
  exact Run.one (fun vm0 T locs X _ I t g => XS.ishr X.here C.hx rfl (C.hb hd) rfl (hv ▸ g)) r
theorem iushr (C : Cx Z W own nm code maxL ret) {x y v : Int32} (hd : decode code pc = .ok (.iushr, 1)) (hv : (x.toUInt32 >>> (y &&& 31).toUInt32).toInt32 = v) (hp : pc + 1 = pc')
    (r : Run l R Z EL W Q S h k n (mkF W.m pc' Ls (.int v :: st))) : Run l R Z EL W Q S h k n (mkF W.m pc Ls (.int y :: .int x :: st)) := by
  subst hp
  exact Run.one (fun vm0 T locs X _ I t g => XS.iushr X.here C.hx rfl (C.hb hd) rfl (hv ▸ g)) r
theorem i2b (C : Cx Z W own nm code maxL ret) {x : Int32} {v : Int32} (hd : decode code pc = .ok (.i2b, 1)) (hv : x.toInt8.toInt32 = v) (hp : pc + 1 = pc')
    (r : Run l R Z EL W Q S h k n (mkF W.m pc' Ls (.int v :: st))) : Run l R Z EL W Q S h k n (mkF W.m pc Ls (.int x :: st)) := by
  subst hp
  exact Run.one (fun vm0 T locs X _ I t g => XS.i2b X.here C.hx rfl (C.hb hd) rfl (hv ▸ g)) r
theorem i2c (C : Cx Z W own nm code maxL ret) {x : Int32} {v : Int32} (hd : decode code pc = .ok (.i2c, 1)) (hv : x.toUInt32.toUInt16.toUInt32.toInt32 = v) (hp : pc + 1 = pc')
    (r : Run l R Z EL W Q S h k n (mkF W.m pc' Ls (.int v :: st))) : Run l R Z EL W Q S h k n (mkF W.m pc Ls (.int x :: st)) := by
  subst hp
  exact Run.one (fun vm0 T locs X _ I t g => XS.i2c X.here C.hx rfl (C.hb hd) rfl (hv ▸ g)) r
theorem dup (C : Cx Z W own nm code maxL ret) {v : Value} (hd : decode code pc = .ok (.dup, 1)) (hc : v.category = 1) (hp : pc + 1 = pc')
    (r : Run l R Z EL W Q S h k n (mkF W.m pc' Ls (v :: v :: st))) : Run l R Z EL W Q S h k n (mkF W.m pc Ls (v :: st)) := by
  subst hp
  exact Run.one (fun vm0 T locs X _ I t g => XS.dup X.here C.hx rfl (C.hb hd) rfl hc g) r
theorem pop (C : Cx Z W own nm code maxL ret) {v : Value} (hd : decode code pc = .ok (.pop, 1)) (hc : v.category = 1) (hp : pc + 1 = pc')
    (r : Run l R Z EL W Q S h k n (mkF W.m pc' Ls (st))) : Run l R Z EL W Q S h k n (mkF W.m pc Ls (v :: st)) := by
  subst hp
  exact Run.one (fun vm0 T locs X _ I t g => XS.pop X.here C.hx rfl (C.hb hd) rfl hc g) r
theorem iinc (C : Cx Z W own nm code maxL ret) {i : Nat} {d : Int} {x v : Int32} {Ls' : Array Slot} (hd : decode code pc = .ok (.iinc i d, 3)) (hl : Ls[i]? = some (.val (.int x))) (hv : x + Int32.ofInt d = v) (hl' : storeLocals Ls i (.int v) = some Ls') (hp : pc + 3 = pc')
    (r : Run l R Z EL W Q S h k n (mkF W.m pc' Ls' st)) : Run l R Z EL W Q S h k n (mkF W.m pc Ls st) := by
  subst hp hv
  exact Run.one (fun vm0 T locs X _ I t g => XS.iinc X.here C.hx rfl (C.hb hd) hl hl' g) r
theorem goto (C : Cx Z W own nm code maxL ret) {o : Int} (hd : decode code pc = .ok (.goto o, 3)) (ho : 0 ≤ (pc : Int) + o) (hp : ((pc : Int) + o).toNat = pc')
    (r : Run l R Z EL W Q S h k n (mkF W.m pc' Ls st)) : Run l R Z EL W Q S h k n (mkF W.m pc Ls st) :=
  Run.one (fun vm0 T locs X _ I t g => XS.goto X.here C.hx rfl rfl (C.hb hd) ho hp g) r
theorem icmp_eq (C : Cx Z W own nm code maxL ret) {x y : Int32} {o : Int} {pcT : Nat} (hd : decode code pc = .ok (.if_icmp .eq o, 3)) (ho : 0 ≤ (pc : Int) + o) (hp : ((pc : Int) + o).toNat = pcT) (hp' : pc + 3 = pc')
    (rt : x = y → Run l R Z EL W Q S h k n (mkF W.m pcT Ls st)) (rf : ¬ x = y → Run l R Z EL W Q S h k n (mkF W.m pc' Ls st)) : Run l R Z EL W Q S h k n (mkF W.m pc Ls (.int y :: .int x :: st)) := by
  subst hp'
  by_cases q : x = y
  · exact Run.one (fun vm0 T locs X _ I t g => XS.icmpYes X.here C.hx rfl rfl (C.hb hd) rfl (teq q).1 ho hp g) (rt q)
  · exact Run.one (fun vm0 T locs X _ I t g => XS.icmpNo X.here C.hx rfl (C.hb hd) rfl (feq q).1 g) (rf q)
theorem if_eq (C : Cx Z W own nm code maxL ret) {x : Int32} {o : Int} {pcT : Nat} (hd : decode code pc = .ok (.ifCond .eq o, 3)) (ho : 0 ≤ (pc : Int) + o) (hp : ((pc : Int) + o).toNat = pcT) (hp' : pc + 3 = pc')
    (rt : x = (0 : Int32) → Run l R Z EL W Q S h k n (mkF W.m pcT Ls st)) (rf : ¬ x = (0 : Int32) → Run l R Z EL W Q S h k n (mkF W.m pc' Ls st)) : Run l R Z EL W Q S h k n (mkF W.m pc Ls (.int x :: st)) := by
  subst hp'
  by_cases q : x = (0 : Int32)
  · exact Run.one (fun vm0 T locs X _ I t g => XS.ifYes X.here C.hx rfl rfl (C.hb hd) rfl ((if0 _ _).trans (teq q).1) ho hp g) (rt q)
  · exact Run.one (fun vm0 T locs X _ I t g => XS.ifNo X.here C.hx rfl (C.hb hd) rfl ((if0 _ _).trans (feq q).1) g) (rf q)
theorem icmp_ne (C : Cx Z W own nm code maxL ret) {x y : Int32} {o : Int} {pcT : Nat} (hd : decode code pc = .ok (.if_icmp .ne o, 3)) (ho : 0 ≤ (pc : Int) + o) (hp : ((pc : Int) + o).toNat = pcT) (hp' : pc + 3 = pc')
    (rt : ¬ x = y → Run l R Z EL W Q S h k n (mkF W.m pcT Ls st)) (rf : x = y → Run l R Z EL W Q S h k n (mkF W.m pc' Ls st)) : Run l R Z EL W Q S h k n (mkF W.m pc Ls (.int y :: .int x :: st)) := by
  subst hp'
  by_cases q : x = y
  · exact Run.one (fun vm0 T locs X _ I t g => XS.icmpNo X.here C.hx rfl (C.hb hd) rfl (teq q).2 g) (rf q)
  · exact Run.one (fun vm0 T locs X _ I t g => XS.icmpYes X.here C.hx rfl rfl (C.hb hd) rfl (feq q).2 ho hp g) (rt q)
theorem if_ne (C : Cx Z W own nm code maxL ret) {x : Int32} {o : Int} {pcT : Nat} (hd : decode code pc = .ok (.ifCond .ne o, 3)) (ho : 0 ≤ (pc : Int) + o) (hp : ((pc : Int) + o).toNat = pcT) (hp' : pc + 3 = pc')
    (rt : ¬ x = (0 : Int32) → Run l R Z EL W Q S h k n (mkF W.m pcT Ls st)) (rf : x = (0 : Int32) → Run l R Z EL W Q S h k n (mkF W.m pc' Ls st)) : Run l R Z EL W Q S h k n (mkF W.m pc Ls (.int x :: st)) := by
  subst hp'
  by_cases q : x = (0 : Int32)
  · exact Run.one (fun vm0 T locs X _ I t g => XS.ifNo X.here C.hx rfl (C.hb hd) rfl ((if0 _ _).trans (teq q).2) g) (rf q)
  · exact Run.one (fun vm0 T locs X _ I t g => XS.ifYes X.here C.hx rfl rfl (C.hb hd) rfl ((if0 _ _).trans (feq q).2) ho hp g) (rt q)
theorem icmp_lt (C : Cx Z W own nm code maxL ret) {x y : Int32} {o : Int} {pcT : Nat} (hd : decode code pc = .ok (.if_icmp .lt o, 3)) (ho : 0 ≤ (pc : Int) + o) (hp : ((pc : Int) + o).toNat = pcT) (hp' : pc + 3 = pc')
    (rt : x < y → Run l R Z EL W Q S h k n (mkF W.m pcT Ls st)) (rf : ¬ x < y → Run l R Z EL W Q S h k n (mkF W.m pc' Ls st)) : Run l R Z EL W Q S h k n (mkF W.m pc Ls (.int y :: .int x :: st)) := by
  subst hp'
  by_cases q : x < y
  · exact Run.one (fun vm0 T locs X _ I t g => XS.icmpYes X.here C.hx rfl rfl (C.hb hd) rfl (tlt q).1 ho hp g) (rt q)
  · exact Run.one (fun vm0 T locs X _ I t g => XS.icmpNo X.here C.hx rfl (C.hb hd) rfl (flt q).1 g) (rf q)
theorem if_lt (C : Cx Z W own nm code maxL ret) {x : Int32} {o : Int} {pcT : Nat} (hd : decode code pc = .ok (.ifCond .lt o, 3)) (ho : 0 ≤ (pc : Int) + o) (hp : ((pc : Int) + o).toNat = pcT) (hp' : pc + 3 = pc')
    (rt : x < (0 : Int32) → Run l R Z EL W Q S h k n (mkF W.m pcT Ls st)) (rf : ¬ x < (0 : Int32) → Run l R Z EL W Q S h k n (mkF W.m pc' Ls st)) : Run l R Z EL W Q S h k n (mkF W.m pc Ls (.int x :: st)) := by
  subst hp'
  by_cases q : x < (0 : Int32)
  · exact Run.one (fun vm0 T locs X _ I t g => XS.ifYes X.here C.hx rfl rfl (C.hb hd) rfl ((if0 _ _).trans (tlt q).1) ho hp g) (rt q)
  · exact Run.one (fun vm0 T locs X _ I t g => XS.ifNo X.here C.hx rfl (C.hb hd) rfl ((if0 _ _).trans (flt q).1) g) (rf q)
theorem icmp_ge (C : Cx Z W own nm code maxL ret) {x y : Int32} {o : Int} {pcT : Nat} (hd : decode code pc = .ok (.if_icmp .ge o, 3)) (ho : 0 ≤ (pc : Int) + o) (hp : ((pc : Int) + o).toNat = pcT) (hp' : pc + 3 = pc')
    (rt : ¬ x < y → Run l R Z EL W Q S h k n (mkF W.m pcT Ls st)) (rf : x < y → Run l R Z EL W Q S h k n (mkF W.m pc' Ls st)) : Run l R Z EL W Q S h k n (mkF W.m pc Ls (.int y :: .int x :: st)) := by
  subst hp'
  by_cases q : x < y
  · exact Run.one (fun vm0 T locs X _ I t g => XS.icmpNo X.here C.hx rfl (C.hb hd) rfl (tlt q).2.1 g) (rf q)
  · exact Run.one (fun vm0 T locs X _ I t g => XS.icmpYes X.here C.hx rfl rfl (C.hb hd) rfl (flt q).2.1 ho hp g) (rt q)
theorem if_ge (C : Cx Z W own nm code maxL ret) {x : Int32} {o : Int} {pcT : Nat} (hd : decode code pc = .ok (.ifCond .ge o, 3)) (ho : 0 ≤ (pc : Int) + o) (hp : ((pc : Int) + o).toNat = pcT) (hp' : pc + 3 = pc')
    (rt : ¬ x < (0 : Int32) → Run l R Z EL W Q S h k n (mkF W.m pcT Ls st)) (rf : x < (0 : Int32) → Run l R Z EL W Q S h k n (mkF W.m pc' Ls st)) : Run l R Z EL W Q S h k n (mkF W.m pc Ls (.int x :: st)) := by
  subst hp'
  by_cases q : x < (0 : Int32)
  · exact Run.one (fun vm0 T locs X _ I t g => XS.ifNo X.here C.hx rfl (C.hb hd) rfl ((if0 _ _).trans (tlt q).2.1) g) (rf q)
  · exact Run.one (fun vm0 T locs X _ I t g => XS.ifYes X.here C.hx rfl rfl (C.hb hd) rfl ((if0 _ _).trans (flt q).2.1) ho hp g) (rt q)
theorem icmp_gt (C : Cx Z W own nm code maxL ret) {x y : Int32} {o : Int} {pcT : Nat} (hd : decode code pc = .ok (.if_icmp .gt o, 3)) (ho : 0 ≤ (pc : Int) + o) (hp : ((pc : Int) + o).toNat = pcT) (hp' : pc + 3 = pc')
    (rt : y < x → Run l R Z EL W Q S h k n (mkF W.m pcT Ls st)) (rf : ¬ y < x → Run l R Z EL W Q S h k n (mkF W.m pc' Ls st)) : Run l R Z EL W Q S h k n (mkF W.m pc Ls (.int y :: .int x :: st)) := by
  subst hp'
  by_cases q : y < x
  · exact Run.one (fun vm0 T locs X _ I t g => XS.icmpYes X.here C.hx rfl rfl (C.hb hd) rfl (tlt q).2.2.1 ho hp g) (rt q)
  · exact Run.one (fun vm0 T locs X _ I t g => XS.icmpNo X.here C.hx rfl (C.hb hd) rfl (flt q).2.2.1 g) (rf q)
theorem icmp_le (C : Cx Z W own nm code maxL ret) {x y : Int32} {o : Int} {pcT : Nat} (hd : decode code pc = .ok (.if_icmp .le o, 3)) (ho : 0 ≤ (pc : Int) + o) (hp : ((pc : Int) + o).toNat = pcT) (hp' : pc + 3 = pc')
    (rt : ¬ y < x → Run l R Z EL W Q S h k n (mkF W.m pcT Ls st)) (rf : y < x → Run l R Z EL W Q S h k n (mkF W.m pc' Ls st)) : Run l R Z EL W Q S h k n (mkF W.m pc Ls (.int y :: .int x :: st)) := by
  subst hp'
  by_cases q : y < x
  · exact Run.one (fun vm0 T locs X _ I t g => XS.icmpNo X.here C.hx rfl (C.hb hd) rfl (tlt q).2.2.2 g) (rf q)
  · exact Run.one (fun vm0 T locs X _ I t g => XS.icmpYes X.here C.hx rfl rfl (C.hb hd) rfl (flt q).2.2.2 ho hp g) (rt q)
theorem ldcI (C : Cx Z W own nm code maxL ret) {ix : Nat} {v : Int32} (hd : decode code pc = .ok (.ldc ix, 2)) (w : (Cond.constant own ix v).before a0 Z = true) (hp : pc + 2 = pc') (r : Run l R Z EL W Q S h k n (mkF W.m pc' Ls (.int v :: st))) : Run l R Z EL W Q S h k n (mkF W.m pc Ls st) := by
  subst hp
  exact Run.one (fun vm0 T locs X _ I t g => X.ldcInt C.hx (I.ow C) (mvT I.hZ w) (g := mkF W.m pc Ls st) rfl (C.hb hd) t g) r
theorem Run.via {g g' : JFrame} (f : ∀ vm0 T locs, Std l R W vm0 T locs k n → T.heap = h → Inv Z EL W S vm0 h → ∃ T', Std l R W vm0 T' locs k n ∧ T'.heap = h ∧ ∀ t, Steps W.p.tables W.e W.b (T'.setTop g') t → Steps W.p.tables W.e W.b (T.setTop g) t) (r : Run l R Z EL W Q S h k n g') : Run l R Z EL W Q S h k n g :=
  fun vm0 T locs X eT N O I => by
    obtain ⟨T', X', e', s'⟩ := f vm0 T locs X eT I
    exact Go.step s' (r vm0 T' locs X' e' N O I)
theorem getF (C : Cx Z W own nm code maxL ret) {R0 O nmF d : String} {ix : Nat} (hd : decode code pc = .ok (.getfield ix, 3)) (w : (Cond.fieldLink own ix R0 nmF d).before a0 Z = true) (via : Via Z R0 O nmF d) {a : Addr} {v : Value} (F : Fld Z h a O nmF d v) (hp : pc + 3 = pc')
    (r : Run l R Z EL W Q S h k n (mkF W.m pc' Ls (v :: st))) : Run l R Z EL W Q S h k n (mkF W.m pc Ls (.ref a :: st)) := by
  subst hp
  exact Run.via (fun vm0 T locs X eT I => RoadKit.getF X C.hx I.hZ (I.ow C) (host := "") (Or.inl w) via eT F (g := mkF W.m pc Ls (.ref a :: st)) rfl rfl (C.hb hd)) r
theorem getS (C : Cx Z W own nm code maxL ret) {R0 O nmF d : String} {ix : Nat} (hd : decode code pc = .ok (.getstatic ix, 3)) (w : (Cond.fieldLink own ix R0 nmF d).before a0 Z = true) (via : Via Z R0 O nmF d) {v : Value} (F : Sta Z h O nmF d v) (hp : pc + 3 = pc')
    (r : Run l R Z EL W Q S h k n (mkF W.m pc' Ls (v :: st))) : Run l R Z EL W Q S h k n (mkF W.m pc Ls st) := by
  subst hp
  exact Run.via (fun vm0 T locs X eT I => getS2 X C.hx I.hZ (I.ow C) (host := "") (Or.inl w) via eT F (g := mkF W.m pc Ls st) rfl (C.hb hd)) r
theorem alen (C : Cx Z W own nm code maxL ret) (hd : decode code pc = .ok (.arraylength, 1)) {a : Addr} {ty : FieldType} {vs : List Value} {z : Int32} (F : Ary Z h a ty vs) (hz : Int32.ofNat vs.length = z) (hp : pc + 1 = pc')
    (r : Run l R Z EL W Q S h k n (mkF W.m pc' Ls (.int z :: st))) : Run l R Z EL W Q S h k n (mkF W.m pc Ls (.ref a :: st)) := by
  subst hp hz
  obtain ⟨c, A, e, -⟩ := F
  have e2 : c.slots.size.toInt32 = Int32.ofNat vs.length := by rw [e]; simp
  exact Run.one (fun vm0 T locs X eT I t g => X.arraylength C.hx (by rw [eT]; exact A.1) (State.isArrayOf_alike I.hZ.alike A.2.1) (g := mkF W.m pc Ls (.ref a :: st)) rfl rfl (C.hb hd) t (by rw [e2]; exact g)) r
theorem caload (C : Cx Z W own nm code maxL ret) (hd : decode code pc = .ok (.caload, 1)) {a : Addr} {vs : List Value} {j : Int32} {v : Value} (F : Ary Z h a .char vs) (h0 : ¬ j < 0) (hv : vs[j.toNatClampNeg]? = some v) (hp : pc + 1 = pc')
    (r : Run l R Z EL W Q S h k n (mkF W.m pc' Ls (v :: st))) : Run l R Z EL W Q S h k n (mkF W.m pc Ls (.int j :: .ref a :: st)) := by
  subst hp
  obtain ⟨c, A, e, -⟩ := F
  have h1 : j.toNatClampNeg < vs.length := (List.getElem?_eq_some_iff.mp hv).1
  exact Run.one (fun vm0 T locs X eT I t g => X.caload C.hx (by rw [eT]; exact A.1) (State.isArrayOf_alike I.hZ.alike A.2.1) A.2.2 (Ary.inb (a := a) (ty := .char) e h0 h1) (by rw [e]; simpa using hv) (g := mkF W.m pc Ls (.int j :: .ref a :: st)) rfl rfl (C.hb hd) t g) r
theorem baload (C : Cx Z W own nm code maxL ret) (hd : decode code pc = .ok (.baload, 1)) {a : Addr} {vs : List Value} {j : Int32} {v : Value} (F : Ary Z h a .byte vs) (h0 : ¬ j < 0) (hv : vs[j.toNatClampNeg]? = some v) (hp : pc + 1 = pc')
    (r : Run l R Z EL W Q S h k n (mkF W.m pc' Ls (v :: st))) : Run l R Z EL W Q S h k n (mkF W.m pc Ls (.int j :: .ref a :: st)) := by
  subst hp
  obtain ⟨c, A, e, -⟩ := F
  have h1 : j.toNatClampNeg < vs.length := (List.getElem?_eq_some_iff.mp hv).1
  exact Run.one (fun vm0 T locs X eT I t g => X.baloadBytes C.hx (by rw [eT]; exact A.1) (State.isArrayOf_alike I.hZ.alike A.2.1) A.2.2 (Ary.inb (a := a) (ty := .byte) e h0 h1) (by rw [e]; simpa using hv) (g := mkF W.m pc Ls (.int j :: .ref a :: st)) rfl rfl (C.hb hd) t g) r
theorem Run.wrote {a : Addr} {sl : Nat} {v : Value} {g g' : JFrame} (ha : Z.heap.size ≤ a) (hs : a ∈ S) (f : ∀ vm0 T locs, Std l R W vm0 T locs k n → T.heap = h → Inv Z EL W S vm0 h → ∃ T' h', Std l R W vm0 T' (locs ++ [⟨a, sl⟩]) k n ∧ T'.heap = h' ∧ Wr h h' a sl v ∧ ∀ t, Steps W.p.tables W.e W.b (T'.setTop g') t → Steps W.p.tables W.e W.b (T.setTop g) t)
    (r : ∀ h', Wr h h' a sl v → Ext Z.heap h' → Run l R Z EL W Q S h' k n g') : Run l R Z EL W Q S h k n g := fun vm0 T locs X eT N O I => by
  obtain ⟨T', h', X', e', w', s'⟩ := f vm0 T locs X eT I
  have O' : Ext Z.heap h' := ((old_of O).wr w' ha).2
  exact Go.step s' (r h' w' O' vm0 T' _ X' e' (Fr.snoc X' N ha) O' (I.keep (Keep.of_wr w') fun x hx => by cases List.mem_singleton.mp hx; exact hs))
theorem putF (C : Cx Z W own nm code maxL ret) {R0 O nmF d K : String} {ix kk : Nat} {ty : FieldType} (hd : decode code pc = .ok (.putfield ix, 3)) (w : (Cond.fieldLink own ix R0 nmF d).before a0 Z = true) (via : Via Z R0 O nmF d) {a : Addr} {v old : Value} (F : Fld Z h a O nmF d old) (E : Exa Z h a K)
    (L : (Cond.lays K O nmF d).before a0 Z = true ∨ ((Cond.laysFinal K O nmF d).before a0 Z = true ∧ own = O ∧ nm = "<init>")) (wi : (Cond.instantiable K kk).before a0 Z = true) (hty : parseFieldDescriptor d = some ty) (hn : narrow ty v = v) (hf : fits ty v = true) (ha : Z.heap.size ≤ a) (hs' : a ∈ S) (hp : pc + 3 = pc')
    (r : ∀ h', Wr h h' a (RoadKit.slotOf Z O nmF d) v → Ext Z.heap h' → Run l R Z EL W Q S h' k n (mkF W.m pc' Ls st)) : Run l R Z EL W Q S h k n (mkF W.m pc Ls (v :: .ref a :: st)) := by
  subst hp
  exact Run.wrote ha hs' (fun vm0 T locs X eT I => RoadKit.putF X C.hx I.hZ (I.ow C) (host := "") (Or.inl w) via eT F E (L.imp id fun q => ⟨q.1, q.2.1, C.nme.trans q.2.2⟩) wi hty hn hf (g := mkF W.m pc Ls (v :: .ref a :: st)) rfl rfl (C.hb hd)) r
theorem castore (C : Cx Z W own nm code maxL ret) (hd : decode code pc = .ok (.castore, 1)) {a : Addr} {vs vs' : List Value} {j x : Int32} (F : Ary Z h a .char vs) (h0 : ¬ j < 0) (h1 : j.toNatClampNeg < vs.length) (hx : nar .char x = x) (hs : vs.set j.toNatClampNeg (.int x) = vs') (ha : Z.heap.size ≤ a) (hs' : a ∈ S) (hp : pc + 1 = pc')
    (r : ∀ h', Wr h h' a j.toNatClampNeg (.int x) → Ary Z h' a .char vs' → Ext Z.heap h' → Run l R Z EL W Q S h' k n (mkF W.m pc' Ls st)) : Run l R Z EL W Q S h k n (mkF W.m pc Ls (.int x :: .int j :: .ref a :: st)) := by
  subst hp hs
  have F' := F
  obtain ⟨c, A, e, -⟩ := F'
  exact Run.wrote ha hs' (fun vm0 T locs X eT I => by have w0 := RoadKit.stC X C.hx I.hZ eT A (Ary.inb (a := a) (ty := .char) e h0 h1) (g := mkF W.m pc Ls (.int x :: .int j :: .ref a :: st)) rfl rfl (C.hb hd); rw [hx] at w0; exact w0) (fun h' w' O' => r h' w' (F.set w' (hx ▸ fits_nar_char x)) O')
theorem bastore (C : Cx Z W own nm code maxL ret) (hd : decode code pc = .ok (.bastore, 1)) {a : Addr} {vs vs' : List Value} {j x : Int32} (F : Ary Z h a .byte vs) (h0 : ¬ j < 0) (h1 : j.toNatClampNeg < vs.length) (hs : vs.set j.toNatClampNeg (.int (nar .byte x)) = vs') (ha : Z.heap.size ≤ a) (hs' : a ∈ S) (hp : pc + 1 = pc')
    (r : ∀ h', Wr h h' a j.toNatClampNeg (.int (nar .byte x)) → Ary Z h' a .byte vs' → Ext Z.heap h' → Run l R Z EL W Q S h' k n (mkF W.m pc' Ls st)) : Run l R Z EL W Q S h k n (mkF W.m pc Ls (.int x :: .int j :: .ref a :: st)) := by
  subst hp hs
  have F' := F
  obtain ⟨c, A, e, -⟩ := F'
  exact Run.wrote ha hs' (fun vm0 T locs X eT I => by have w0 := RoadKit.stB X C.hx I.hZ eT A (Ary.inb (a := a) (ty := .byte) e h0 h1) (g := mkF W.m pc Ls (.int x :: .int j :: .ref a :: st)) rfl rfl (C.hb hd); exact w0) (fun h' w' O' => r h' w' (F.set w' (fits_nar_byte x)) O')
theorem newO (C : Cx Z W own nm code maxL ret) {K : String} {ix sl k' n' : Nat} (hd : decode code pc = .ok (.new ix, 3)) (w : (Cond.classLink own ix K).before a0 Z = true) (wi : (Cond.instantiable K sl).before a0 Z = true) (wz : (Cond.initialized K).before a0 Z = true) (hc : k + 1 = k') (hl : n + sl = n') (hc' : k' ≤ R.cells) (hl' : n' ≤ R.slots) (hp : pc + 3 = pc')
    (r : ∀ a h', a = h.size → Z.heap.size ≤ a → Ext h h' → Exa Z h' a K → Fresh Z a0 h' a K → Unt h' a → Ext Z.heap h' → Run l R Z EL W Q (a :: S) h' k' n' (mkF W.m pc' Ls (.ref a :: st))) : Run l R Z EL W Q S h k n (mkF W.m pc Ls st) := by
  subst hp hc hl
  intro vm0 T locs X eT N O I
  obtain ⟨T', h', X', e', E', A', D', U', s'⟩ := RoadKit.newO X C.hx I.hZ (I.ow C) w wi wz eT (g := mkF W.m pc Ls st) rfl (C.hb hd) hc' hl'
  have O' : Ext Z.heap h' := ((old_of O).ext E').2
  exact Go.step s' (r h.size h' rfl O.1 E' A' D' U' O' vm0 T' locs X' e' N O' (I.fresh E' A'.lt))
theorem newA (C : Cx Z W own nm code maxL ret) {aty : ArrayType} {ty : FieldType} {z : Int32} {k' n' cap : Nat} (hd : decode code pc = .ok (.newarray aty, 2)) (ht : newarray.typeOf aty = ty) (w : (Cond.arrayClass ty).before a0 Z = true) (hz : ¬ z < 0) (hcap : z.toNatClampNeg ≤ cap) (hb : cap * 8 ≤ 536870912) (hc : k + 1 = k') (hl : n + cap = n') (hc' : k' ≤ R.cells) (hl' : n' ≤ R.slots) (hdf : fits ty (defaultValue ty) = true) (hp : pc + 2 = pc')
    (r : ∀ a h', a = h.size → Z.heap.size ≤ a → Ext h h' → Ary Z h' a ty (List.replicate z.toNatClampNeg (defaultValue ty)) → Ext Z.heap h' → Run l R Z EL W Q (a :: S) h' k' n' (mkF W.m pc' Ls (.ref a :: st))) : Run l R Z EL W Q S h k n (mkF W.m pc Ls (.int z :: st)) := by
  subst hp hc hl ht
  intro vm0 T locs X eT N O I
  obtain ⟨T', h', cA, X', e', E', A', s'⟩ := newP X C.hx I.hZ w eT (g := mkF W.m pc Ls (.int z :: st)) rfl (C.hb hd) rfl hz hcap hb hc' hl'
  have O' : Ext Z.heap h' := ((old_of O).ext E').2
  have hz2 : z.toNatClampNeg < 2 ^ 31 := (back32 hz).2
  refine Go.step s' (r h.size h' rfl O.1 E' ⟨_, A', ?_, by simpa using hz2, fun v hv => ?_⟩ O' vm0 T' locs X' e' N O' (I.fresh E' A'.lt))
  · show Array.replicate _ _ = _
    simp
  · rw [(List.mem_replicate.mp hv).2]; exact hdf
theorem initO (C : Cx Z W own nm code maxL ret) {ix Wn : Nat} (hd : decode code pc = .ok (.invokespecial ix, 3)) (w1 : (Cond.methodLink own ix Lib.objectInit).before a0 Z = true) (w2 : (Cond.instanceMethod Lib.objectInit).before a0 Z = true) (w3 : (Cond.code Lib.objectInit ⟨#[0xb1]⟩ 1 none).before a0 Z = true) {a : Addr} (hsz : Ls.size = maxL) (hf : 1 ≤ R.frames) (hW : (st.map fun v => v.category).sum ≤ Wn) (hl : Wn + 12 ≤ R.locals) (hp : pc + 3 = pc')
    (r : Run l R Z EL W Q S h k n (mkF W.m pc' Ls st)) : Run l R Z EL W Q S h k n (mkF W.m pc Ls (.ref a :: st)) := by
  subst hp
  exact Run.via (fun vm0 T locs X eT I => RoadKit.initO X C.hx I.hZ (I.ow C) w1 w2 w3 eT (g := mkF W.m pc Ls (.ref a :: st)) rfl (hsz.trans C.ml.symm) rfl (C.hb hd) hf (W := Wn) (by show 2 * 0 + _ ≤ _; omega) hl) r
/-- a String constant -/
theorem ldcS (C : Cx Z W own nm code maxL ret) {ix k' n' nb : Nat} {text : String} {vs : List Value} {z : Int32} (hd : decode code pc = .ok (.ldc ix, 2)) (w : (Cond.stringLink own ix text).before a0 Z = true) (wS : ∀ a ∈ Bundle.stringAtoms, a.before a0 Z = true) (hE : EW Z a0 EL) (hm : (own, ix) ∈ EL) (ht : (∀ c ∈ text.toList, c.toNat < 256) ∧ text.toList.map (fun c => Value.int (Jvm.Lit.byteI c.toNat.toUInt16)) = vs) (hz : ¬ z < 0) (hl : z.toNatClampNeg = vs.length)
    (hn : 4 * text.toList.length ≤ nb) (hb : nb ≤ 536870912) (hk : k + 2 = k') (hn' : n + (nb + 4) = n') (hc : k' ≤ R.cells) (hl' : n' ≤ R.slots) (hp : pc + 2 = pc')
    (r : ∀ a b h', Ext h h' → Exa Z h' a "java/lang/String" → Fld Z h' a "java/lang/String" "coder" "B" (.int 0) → Fld Z h' a "java/lang/String" "value" "[B" (.ref b) → Ary Z h' b .byte vs → (∀ x ∈ S, x ≠ a ∧ x ≠ b) → Ext Z.heap h' → Run l R Z EL W Q S h' k' n' (mkF W.m pc' Ls (.ref a :: st))) : Run l R Z EL W Q S h k n (mkF W.m pc Ls st) := by
  subst hp hk hn'
  intro vm0 T locs X eT N O I
  have I0 := I
  obtain ⟨⟨k0, hS, hk0⟩, hZ, hr, hs⟩ := I
  obtain ⟨a, T', h', k1, b, kc, X', e', E', hS', hk1, hZ', -, A', Cd', V', F', -, -, CH', -, ne', s'⟩ := ldcCH X C.hx hZ (I0.ow C) w wS eT hS hk0 hE hm hr.1 ht hz hl (g := mkF W.m pc Ls st) rfl (C.hb hd) hn hb hc hl'
  have O' : Ext Z.heap h' := ((old_of O).ext E').2
  have I' : Inv Z EL W S T'.vm h' := ⟨⟨k1, hS', hk1⟩, hZ', hr.trans CH', fun x hx => ⟨Nat.lt_of_lt_of_le (hs x hx).1 E'.1, CH'.safe (hs x hx).1 (hs x hx).2⟩⟩
  exact Go.step s' (r a b h' E' A' Cd' V' (Ary.of_arv F' hl) (fun x hx => ne' x (I'.2.2.2 x hx).2) O' T'.vm T' locs X' e' N O' I')
/-! ## contracts and calls -/
def Con (l : Launch) (Z : State) (EL : List (String × Nat)) (y : MethodName) (bytes : ByteArray) (maxL : Nat) (ret : Option FieldType) (rm : Room) (as' : Array Value) (h0 : Heap) (Q : Post) : Prop :=
  ∀ ws, MetFree l y (head1 (Jvm.Cond.code y bytes maxL ret :: ws) rm) (fun a U => a = as' ∧ Z.Warmed39 U.vm ∧ U.heap = h0 ∧ CHv Z EL U.vm h0) (fun _ _ _ _ _ => True) (fun _ U o U' => ∃ v L, o = .returned v ∧ (Q v U'.heap ∧ Ext Z.heap U'.heap ∧ Fr Z.heap.size L) ∧ CHr Z EL U.vm U.heap U'.vm U'.heap ∧ ReturnedEndW U o U' L rm.cells rm.slots)
theorem Con.intro {y : MethodName} {bytes : ByteArray} {rm : Room} {as' : Array Value} {Ls0 : Array Slot} (hy : plainFor y = true) (O : Ext Z.heap h) (he : ∀ m, entryFrame m as' maxL = mkF m 0 Ls0 [])
    (body : ∀ W : Wd, Cx Z W y.cls y.name bytes maxL ret → Run l rm Z EL W Q [] h 0 0 (mkF W.m 0 Ls0 [])) : Con l Z EL y bytes maxL ret rm as' h Q := by
  intro ws
  refine MetFree.of_bodySF hy hisR ?_
  intro p e s m args below meth c s₁ Bd hml0 hP hK
  obtain ⟨rfl, hZ, hh, hCH⟩ := hP
  have e0 : s₁.heap = h := by rw [← hh, Bd.state]; rfl
  have X0 : Stand p l e rm s m args below meth c s₁ [] 0 0 := Stand.of_body Bd
  have I0 : Inv Z EL (p, e, s, m, args, below, meth, c) [] s.vm h := ⟨⟨h.size, (State.WarmedH.refl s).since _, Nat.le_refl _⟩, hZ, by rw [← hh] at hCH ⊢; exact CHr.refl hCH, fun _ q => nomatch q⟩
  have r := body (p, e, s, m, args, below, meth, c) ⟨Bd.exec, Bd.bytes, hml0, findClass_of_methodNamed Bd.named, hZ, Bd.returns, (name_of_methodNamed Bd.named Bd.method).1, Bd.notSynchronized⟩ s.vm s₁ [] X0 e0 (Fr.nil _) O I0
  rw [he m]
  exact r
section Calls
variable {y : MethodName} {bytes : ByteArray} {mxL : Nat} {rt : Option FieldType} {rm : Room} {Qc : Post} {argsL : List Value} {as' : Array Value} {ix Wn k' n' kc nc : Nat} {st' : List Value}
/-- how a narrow callee leaves the heap -/
def Car (S : List Addr) (h h' : Heap) : Prop := h' = h ∨ Ext h h' ∨ ∃ ws : List Addr, (∀ x ∈ ws, x ∈ S) ∧ Keep h h' ws
theorem Inv.car {vm0 : Vm} {h' : Heap} (I : Inv Z EL W S vm0 h) (c : Car S h h') : Inv Z EL W S vm0 h' := by
  rcases c with rfl | E | ⟨ws, ha, K⟩
  · exact I
  · exact I.ext E
  · exact I.keep K ha
abbrev PaysS (l : Launch) (R : Room) (Z : State) (EL : List (String × Nat)) (W : Wd) (vm0 : Vm) (y : MethodName) (ln Wn : Nat) (as' : Array Value) (h : Heap) (kc nc : Nat) (Qv : Option Value → Heap → List Loc → Prop) : Prop :=
  BackS l R W.p W.e W.b (W.s.setVm vm0) W.a y ln Wn (fun P a => a = as' ∧ P.U.heap = h ∧ P.cells + kc ≤ R.cells ∧ P.slots + nc ≤ R.slots) (fun P _ v B => ∃ L, Qv v B.U.heap L ∧ B.locs = P.locs ++ L ∧ B.cells = P.cells + kc ∧ B.slots = P.slots + nc ∧ CHr Z EL vm0 h B.U.vm B.U.heap)
theorem Con.pays {ln : Nat} (hE : EW Z a0 EL) (K : Con l Z EL y bytes mxL rt rm as' h Qc) (w4 : (Cond.code y bytes mxL rt).before a0 Z = true) (wz : (Cond.initialized y.cls).before a0 Z = true) (hf : rm.frames + 1 ≤ R.frames) (hl : Wn + (mxL + 11) + rm.locals ≤ R.locals) : ∀ vm0, Inv Z EL W S vm0 h →
    PaysS l R Z EL W vm0 y ln Wn as' h rm.cells rm.slots (fun v h' L => Qc v h' ∧ Ext Z.heap h' ∧ Fr Z.heap.size L) := fun vm0 I => backOfSH (W := Wn) (Q := fun v h' L => Qc v h' ∧ Ext Z.heap h' ∧ Fr Z.heap.size L) (K []) I.2.1 w4 wz hf hl hE I.ch
theorem Inv.back {vm0 vm1 : Vm} {h1 : Heap} (I : Inv Z EL W S vm0 h) (hS : (W.s.setVm vm0).Since vm1 h1.size) (hg : h.size ≤ h1.size) (hr : CHr Z EL vm0 h vm1 h1) : Inv Z EL W S vm1 h1 := by
  obtain ⟨⟨k0, hS0, hk⟩, hZ, hr0, hs⟩ := I
  exact ⟨⟨h1.size, hS0.trans hS (Nat.le_trans hk hg), Nat.le_refl _⟩, State.Warmed39.trans (t := W.s.setVm vm0) hZ hS.1, hr0.trans hr, fun x hx => ⟨Nat.lt_of_lt_of_le (hs x hx).1 hg, hr.safe (hs x hx).1 (hs x hx).2⟩⟩
theorem callS (C : Cx Z W own nm code maxL ret) (hd : decode code pc = .ok (.invokestatic ix, 3)) {Qv : Option Value → Heap → List Loc → Prop} (K : ∀ vm0, Cx Z (At W vm0) own nm code maxL ret → Wk.Pays l R (At W vm0) y 3 Wn as' h kc nc Qv) (hQ : Clean Z Qc Qv) (hcar : ∀ v h', Qc v h' → Car S h h') (w1 : (Cond.methodLink own ix y).before a0 Z = true) (w2 : (Cond.static y).before a0 Z = true) (w3 : (Cond.initialized y.cls).before a0 Z = true) (w4 : (Cond.code y bytes mxL rt).before a0 Z = true) (hy : y.cls ≠ "java/lang/invoke/MethodHandle" ∧ y.cls ≠ "java/lang/invoke/VarHandle")
    (has : argsL.toArray = as') (hst : argsL.reverse ++ st = st') (hlen : ∀ sig, parseMethodDescriptor y.desc = some sig → argsL.length = sig.parameters.length) (hsz : Ls.size = maxL) (hW : (st.map fun v => v.category).sum ≤ Wn) (hk : k + kc = k') (hn : n + nc = n') (hk' : k' ≤ R.cells) (hn' : n' ≤ R.slots) (hp : pc + 3 = pc')
    (r : ∀ v h', Qc v h' → Ext Z.heap h' → Run l R Z EL W Q S h' k' n' (mkF W.m pc' Ls (v.toList ++ st))) : Run l R Z EL W Q S h k n (mkF W.m pc Ls st') := by
  subst hp hk hn has hst
  intro vm0 T locs X eT N O I
  obtain ⟨v, vm₁, ⟨T', L', k', n'⟩, -, X', ⟨L, q0, l1, y1, z1⟩, s'⟩ := Jvm.LawKit.callS X C.hx (y := y) (I.ow C) (mvT I.hZ w1) (mvT I.hZ w2) (mvT I.hZ w3) (mvT I.hZ w4) hy (K vm0 (I.cx C)) (g := mkF W.m pc Ls (argsL.reverse ++ st)) rfl (hsz.trans C.ml.symm) (argsL := argsL) (rest := st) hlen rfl (by show 2 * 0 + _ ≤ _; omega) (C.hb hd) (fun _ _ => ⟨rfl, eT, hk', hn'⟩)
  dsimp only [Pt.U, Pt.locs, Pt.cells, Pt.slots] at X' l1 y1 z1 s' q0
  subst l1 y1 z1
  obtain ⟨q1, q2, q3⟩ := hQ _ _ _ q0
  exact Go.step s' (r v T'.heap q1 q2 vm0 T' _ X' rfl (N.app q3) q2 (I.car (hcar _ _ q1)))
theorem callSS (C : Cx Z W own nm code maxL ret) (hd : decode code pc = .ok (.invokestatic ix, 3)) {Qv : Option Value → Heap → List Loc → Prop} (K : ∀ vm0, Inv Z EL W S vm0 h → PaysS l R Z EL W vm0 y 3 Wn as' h kc nc Qv) (hQ : Clean Z Qc Qv) (w1 : (Cond.methodLink own ix y).before a0 Z = true) (w2 : (Cond.static y).before a0 Z = true) (w3 : (Cond.initialized y.cls).before a0 Z = true) (w4 : (Cond.code y bytes mxL rt).before a0 Z = true) (hy : y.cls ≠ "java/lang/invoke/MethodHandle" ∧ y.cls ≠ "java/lang/invoke/VarHandle")
    (has : argsL.toArray = as') (hst : argsL.reverse ++ st = st') (hlen : ∀ sig, parseMethodDescriptor y.desc = some sig → argsL.length = sig.parameters.length) (hsz : Ls.size = maxL) (hW : (st.map fun v => v.category).sum ≤ Wn) (hk : k + kc = k') (hn : n + nc = n') (hk' : k' ≤ R.cells) (hn' : n' ≤ R.slots) (hp : pc + 3 = pc')
    (r : ∀ v h', Qc v h' → Ext Z.heap h' → Run l R Z EL W Q S h' k' n' (mkF W.m pc' Ls (v.toList ++ st))) : Run l R Z EL W Q S h k n (mkF W.m pc Ls st') := by
  subst hp hk hn has hst
  intro vm0 T locs X eT N O I
  obtain ⟨v, vm₁, ⟨T', L', k', n'⟩, -, X', hS, hg, ⟨L, q0, l1, y1, z1, hr⟩, s'⟩ := callSS X C.hx (y := y) (I.ow C) (mvT I.hZ w1) (mvT I.hZ w2) (mvT I.hZ w3) (mvT I.hZ w4) hy (K vm0 I) (g := mkF W.m pc Ls (argsL.reverse ++ st)) rfl (hsz.trans C.ml.symm) (argsL := argsL) (rest := st) hlen rfl (by show 2 * 0 + _ ≤ _; omega) (C.hb hd) (fun _ _ => ⟨rfl, eT, hk', hn'⟩)
  dsimp only [Pt.U, Pt.locs, Pt.cells, Pt.slots] at X' l1 y1 z1 s' q0 hS hg hr
  subst l1 y1 z1
  obtain ⟨q1, q2, q3⟩ := hQ _ _ _ q0
  exact Go.step (fun t => s'.trans) (r v T'.heap q1 q2 T'.vm T' _ X' rfl (N.app q3) q2 (I.back hS (eT ▸ hg) hr))
theorem callI (C : Cx Z W own nm code maxL ret) (hd : decode code pc = .ok (.invokespecial ix, 3)) {a : Addr} {Qv : Option Value → Heap → List Loc → Prop} (K : ∀ vm0, Cx Z (At W vm0) own nm code maxL ret → Wk.Pays l R (At W vm0) y 3 Wn as' h kc nc Qv) (hQ : Clean Z Qc Qv) (hcar : ∀ v h', Qc v h' → Car S h h') (hi : y.name = "<init>") (w1 : (Cond.methodLink own ix y).before a0 Z = true) (w2 : (Cond.instanceMethod y).before a0 Z = true) (w4 : (Cond.code y bytes mxL none).before a0 Z = true) (hy : y.cls ≠ "java/lang/invoke/MethodHandle" ∧ y.cls ≠ "java/lang/invoke/VarHandle")
    (has : (Value.ref a :: argsL).toArray = as') (hst : argsL.reverse ++ .ref a :: st = st') (hlen : ∀ sig, parseMethodDescriptor y.desc = some sig → argsL.length = sig.parameters.length) (hsz : Ls.size = maxL) (hW : (st.map fun v => v.category).sum ≤ Wn) (hk : k + kc = k') (hn : n + nc = n') (hk' : k' ≤ R.cells) (hn' : n' ≤ R.slots) (hp : pc + 3 = pc')
    (r : ∀ v h', Qc v h' → Ext Z.heap h' → Run l R Z EL W Q S h' k' n' (mkF W.m pc' Ls (v.toList ++ st))) : Run l R Z EL W Q S h k n (mkF W.m pc Ls st') := by
  subst hp hk hn has hst
  intro vm0 T locs X eT N O I
  obtain ⟨v, vm₁, ⟨T', L', k', n'⟩, -, X', ⟨L, q0, l1, y1, z1⟩, s'⟩ := X.specialBack C.hx (y := y) hi (I.ow C) (mvT I.hZ w1) (mvT I.hZ w2) (mvT I.hZ w4) hy (K vm0 (I.cx C)) (g := mkF W.m pc Ls (argsL.reverse ++ .ref a :: st)) rfl (hsz.trans C.ml.symm) (Steps.refl _) (a := a) (argsL := argsL) (rest := st) hlen rfl (by show 2 * 0 + _ ≤ _; omega) (C.hb hd) (fun _ _ => ⟨rfl, eT, hk', hn'⟩)
  dsimp only [Pt.U, Pt.locs, Pt.cells, Pt.slots] at X' l1 y1 z1 s' q0
  subst l1 y1 z1
  obtain ⟨q1, q2, q3⟩ := hQ _ _ _ q0
  exact Go.step (fun t => s'.trans) (r v T'.heap q1 q2 vm0 T' _ X' rfl (N.app q3) q2 (I.car (hcar _ _ q1)))
theorem callIS (C : Cx Z W own nm code maxL ret) (hd : decode code pc = .ok (.invokespecial ix, 3)) {a : Addr} {Qv : Option Value → Heap → List Loc → Prop} (K : ∀ vm0, Inv Z EL W S vm0 h → PaysS l R Z EL W vm0 y 3 Wn as' h kc nc Qv) (hQ : Clean Z Qc Qv) (hi : y.name = "<init>") (w1 : (Cond.methodLink own ix y).before a0 Z = true) (w2 : (Cond.instanceMethod y).before a0 Z = true) (w4 : (Cond.code y bytes mxL none).before a0 Z = true) (hy : y.cls ≠ "java/lang/invoke/MethodHandle" ∧ y.cls ≠ "java/lang/invoke/VarHandle")
    (has : (Value.ref a :: argsL).toArray = as') (hst : argsL.reverse ++ .ref a :: st = st') (hlen : ∀ sig, parseMethodDescriptor y.desc = some sig → argsL.length = sig.parameters.length) (hsz : Ls.size = maxL) (hW : (st.map fun v => v.category).sum ≤ Wn) (hk : k + kc = k') (hn : n + nc = n') (hk' : k' ≤ R.cells) (hn' : n' ≤ R.slots) (hp : pc + 3 = pc')
    (r : ∀ v h', Qc v h' → Ext Z.heap h' → Run l R Z EL W Q S h' k' n' (mkF W.m pc' Ls (v.toList ++ st))) : Run l R Z EL W Q S h k n (mkF W.m pc Ls st') := by
  subst hp hk hn has hst
  intro vm0 T locs X eT N O I
  obtain ⟨v, vm₁, ⟨T', L', k', n'⟩, -, X', hS, hg, ⟨L, q0, l1, y1, z1, hr⟩, s'⟩ := X.specialBackS C.hx (y := y) hi (I.ow C) (mvT I.hZ w1) (mvT I.hZ w2) (mvT I.hZ w4) hy (K vm0 I) (g := mkF W.m pc Ls (argsL.reverse ++ .ref a :: st)) rfl (hsz.trans C.ml.symm) (Steps.refl _) (a := a) (argsL := argsL) (rest := st) hlen rfl (by show 2 * 0 + _ ≤ _; omega) (C.hb hd) (fun _ _ => ⟨rfl, eT, hk', hn'⟩)
  dsimp only [Pt.U, Pt.locs, Pt.cells, Pt.slots] at X' l1 y1 z1 s' q0 hS hg hr
  subst l1 y1 z1
  obtain ⟨q1, q2, q3⟩ := hQ _ _ _ q0
  exact Go.step (fun t => s'.trans) (r v T'.heap q1 q2 T'.vm T' _ X' rfl (N.app q3) q2 (I.back hS (eT ▸ hg) hr))
theorem callV (C : Cx Z W own nm code maxL ret) (hd : decode code pc = .ok (.invokevirtual ix, 3)) {y0 : MethodName} {K0 : String} {a : Addr} {Qv : Option Value → Heap → List Loc → Prop} (K : ∀ vm0, Cx Z (At W vm0) own nm code maxL ret → Wk.Pays l R (At W vm0) y 3 Wn as' h kc nc Qv) (hQ : Clean Z Qc Qv) (hcar : ∀ v h', Qc v h' → Car S h h') (E : Exa Z h a K0) (w1 : (Cond.methodLink own ix y0).before a0 Z = true) (w2 : (Cond.declares y0).before a0 Z = true) (nf : ∀ vm0, Z.Warmed39 vm0 → NotFace (W.s.setVm vm0) y0) (w3 : (Cond.selects K0 y0 y).before a0 Z = true) (w5 : (Cond.instanceMethod y).before a0 Z = true) (hy : y0.cls ≠ "java/lang/invoke/MethodHandle" ∧ y0.cls ≠ "java/lang/invoke/VarHandle")
    (has : (Value.ref a :: argsL).toArray = as') (hst : argsL.reverse ++ .ref a :: st = st') (hlen : ∀ sig, parseMethodDescriptor y0.desc = some sig → argsL.length = sig.parameters.length) (hsz : Ls.size = maxL) (hW : (st.map fun v => v.category).sum ≤ Wn) (hk : k + kc = k') (hn : n + nc = n') (hk' : k' ≤ R.cells) (hn' : n' ≤ R.slots) (hp : pc + 3 = pc')
    (r : ∀ v h', Qc v h' → Ext Z.heap h' → Run l R Z EL W Q S h' k' n' (mkF W.m pc' Ls (v.toList ++ st))) : Run l R Z EL W Q S h k n (mkF W.m pc Ls st') := by
  subst hp hk hn has hst
  intro vm0 T locs X eT N O I
  obtain ⟨cq, kq, qa, qb, qc⟩ := isOf I.hZ eT E
  obtain ⟨v, vm₁, ⟨T', L', k', n'⟩, -, X', ⟨L, q0, l1, y1, z1⟩, s'⟩ := X.virtualBack C.hx (y := y0) (z := y) (I.ow C) (mvT I.hZ w1) (mvT I.hZ w2) (nf vm0 I.2.1) (mvT I.hZ w3) (mvT I.hZ w5) hy (K vm0 (I.cx C)) qa qc (g := mkF W.m pc Ls (argsL.reverse ++ .ref a :: st)) rfl (hsz.trans C.ml.symm) (Steps.refl _) (argsL := argsL) (rest := st) hlen rfl (by show 2 * 0 + _ ≤ _; omega) (C.hb hd) (fun _ _ => ⟨rfl, eT, hk', hn'⟩)
  dsimp only [Pt.U, Pt.locs, Pt.cells, Pt.slots] at X' l1 y1 z1 s' q0
  subst l1 y1 z1
  obtain ⟨q1, q2, q3⟩ := hQ _ _ _ q0
  exact Go.step (fun t => s'.trans) (r v T'.heap q1 q2 vm0 T' _ X' rfl (N.app q3) q2 (I.car (hcar _ _ q1)))
end Calls
/-! ## returns -/
theorem Run.leave (C : Cx Z W own nm code maxL ret) (hE : EW Z a0 EL) {v : Option Value} {f : JFrame} (hv : ret = none → v = none) (q : Q v h) (hk : k ≤ R.cells) (hn : n ≤ R.slots)
    (s' : ∀ vm0 T locs, Std l R W vm0 T locs k n → ∀ fs, (∀ (f : JFrame) (acts : List Action), f.method = W.m → f.locked = none → f.entered = [] → (doReturn W.e (T.setTop f) acts v).1 = T.setFrames fs) → Steps W.p.tables W.e W.b (T.setTop f) (T.setFrames fs)) : Run l R Z EL W Q S h k n f := by
  intro vm0 T locs X eT N O I
  have hlk : W.t.locks = false := C.lk
  obtain ⟨fs, hr, hrun, hended, hW, hsame⟩ := X.leave (v := v) (fun hh => hv (C.rt.symm.trans hh))
  have e2 : (T.setFrames fs).heap = h := eT
  obtain ⟨⟨k0, hS, hk0⟩, hZ, hr0, -⟩ := I
  have hc := CHv.at X hZ hE hr0.1
  obtain ⟨e4, e5, e6⟩ := hS.ended (U := T.setFrames fs) hW (by rw [e2]; exact hk0) hsame
  exact ⟨_, _, s' vm0 T locs X fs hr, hrun, hended, _, _, rfl, ⟨by rw [e2]; exact q, by rw [e2]; exact O, N⟩, by rw [e2]; exact hr0.trans hc, ⟨_, rfl⟩, e4, e5, e6.mono hk hn⟩
theorem retV (C : Cx Z W own nm code maxL none) (hE : EW Z a0 EL) (hd : decode code pc = .ok (.return_, 1)) (hk : k ≤ R.cells) (hn : n ≤ R.slots) (q : Q none h) : Run l R Z EL W Q S h k n (mkF W.m pc Ls []) :=
  Run.leave C hE (fun _ => rfl) q hk hn (fun vm0 T locs X fs hr => X.returnOut C.hx C.rt (C.hb hd) hr)
theorem retI (C : Cx Z W own nm code maxL (some .int)) (hE : EW Z a0 EL) (hd : decode code pc = .ok (.ireturn, 1)) {z : Int32} (hk : k ≤ R.cells) (hn : n ≤ R.slots) (q : Q (some (.int z)) h) : Run l R Z EL W Q S h k n (mkF W.m pc Ls (.int z :: st)) :=
  Run.leave C hE (fun hh => nomatch hh) q hk hn (fun vm0 T locs X fs hr => retOut X C.hx C.rt rfl (Or.inl ⟨rfl, Or.inl rfl, z, rfl⟩) (C.hb hd) hr)
theorem retNar {ty : FieldType} (C : Cx Z W own nm code maxL (some ty)) (hE : EW Z a0 EL) (ht : ty = .boolean ∨ ty = .byte ∨ ty = .char ∨ ty = .short) (hd : decode code pc = .ok (.ireturn, 1)) {z z' : Int32} (hz : nar ty z = z') (hk : k ≤ R.cells) (hn : n ≤ R.slots) (q : Q (some (.int z')) h) : Run l R Z EL W Q S h k n (mkF W.m pc Ls (.int z :: st)) := by
  subst hz
  exact Run.leave C hE (fun hh => nomatch hh) q hk hn (fun vm0 T locs X fs hr => retN X C.hx C.rt ht (C.hb hd) hr)
theorem retA {ty : FieldType} {v : Value} (C : Cx Z W own nm code maxL (some ty)) (hE : EW Z a0 EL) (ht : ty.isReference = true) (hv : v.isRef = true) (hd : decode code pc = .ok (.areturn, 1)) (hk : k ≤ R.cells) (hn : n ≤ R.slots) (q : Q (some v) h) : Run l R Z EL W Q S h k n (mkF W.m pc Ls (v :: st)) :=
  Run.leave C hE (fun hh => nomatch hh) q hk hn (fun vm0 T locs X fs hr => retOut X C.hx C.rt (by rcases ref_cases hv with rfl | ⟨a, rfl⟩ <;> cases ty <;> simp [FieldType.isReference] at ht <;> rfl) (Or.inr (Or.inr (Or.inr (Or.inr ⟨rfl, ht, hv⟩)))) (C.hb hd) hr)
end Kit
end Ww
abbrev EL : List (String × Nat) := consts_1
theorem own_EW {a0 : Array Value} {Z : State} (hw : Ws a0 Z) : EW Z a0 EL := (EW.cons (w20 hw) (by decide) EW.nil)
theorem wS {a0 : Array Value} {Z : State} (hw : Ws a0 Z) : ∀ a ∈ Bundle.stringAtoms, a.before a0 Z = true := by
  intro a ha
  simp only [Bundle.stringAtoms, List.mem_cons, List.not_mem_nil, or_false] at ha
  rcases ha with rfl | rfl | rfl | rfl | rfl | rfl | rfl
  · exact (w8 hw)
  · exact (w7 hw)
  · exact (w21 hw)
  · exact (w22 hw)
  · exact (w23 hw)
  · exact (w24 hw)
  · exact (w25 hw)
theorem rc_or {a b : Nat} (ha : a < 256) (hb : b < 256) {x y : Int32} (hx : x.toInt = a) (hy : y.toInt = 256 * b) : (x ||| y).toInt = 256 * b + a := by
  have e1 : x = Int32.ofNat a := Int32.toInt_inj.mp (by rw [hx, Int32.toInt_ofNat_of_lt (by omega)])
  have e2 : y = Int32.ofNat (b <<< 8) := Int32.toInt_inj.mp (by rw [hy, Int32.toInt_ofNat_of_lt (by rw [Nat.shiftLeft_eq]; omega), Nat.shiftLeft_eq]; omega)
  have e3 : x ||| y = Int32.ofNat (b <<< 8 + a) := by
    rw [Nat.shiftLeft_add_eq_or_of_lt ha, e1, e2]
    apply Int32.toBitVec_inj.mp
    rw [Int32.toBitVec_or]
    apply BitVec.eq_of_toNat_eq
    rw [BitVec.toNat_or]
    show (BitVec.ofNat 32 a).toNat ||| (BitVec.ofNat 32 (b <<< 8)).toNat = (BitVec.ofNat 32 (b <<< 8 ||| a)).toNat
    rw [BitVec.toNat_ofNat, BitVec.toNat_ofNat, BitVec.toNat_ofNat, Nat.mod_eq_of_lt (by omega), Nat.mod_eq_of_lt (by rw [Nat.shiftLeft_eq]; omega), Nat.or_comm, Nat.mod_eq_of_lt]
    rw [← Nat.shiftLeft_add_eq_or_of_lt ha, Nat.shiftLeft_eq]; omega
  rw [e3, Int32.toInt_ofNat_of_lt (by rw [Nat.shiftLeft_eq]; omega), Nat.shiftLeft_eq]; omega
theorem own_rc {c x y u w v z : Int32} (r : ¬ c < 0 ∧ ¬ (65535 : Int32) < c) (h1 : (c >>> ((0 : Int32) &&& 31)).toInt8.toInt32 &&& 255 = x) (h2 : x <<< ((0 : Int32) &&& 31) = u) (h3 : (c >>> ((8 : Int32) &&& 31)).toInt8.toInt32 &&& 255 = y) (h4 : y <<< ((8 : Int32) &&& 31) = w) (h5 : u ||| w = v) (h6 : v.toUInt32.toUInt16.toUInt32.toInt32 = z) : z = c := by
  obtain ⟨r1, r2⟩ := r
  rw [Int32.lt_iff_toInt_lt] at r1 r2
  have e0 : (0 : Int32).toInt = 0 := by decide
  have e1 : (65535 : Int32).toInt = 65535 := by decide
  have a1 := c_mask (c >>> ((0 : Int32) &&& 31)).toInt8.toInt32 255 8 (by decide) (by decide)
  have a2 := c_i2b (c >>> ((0 : Int32) &&& 31))
  have a3 := c_ishr c 0 0 (by decide)
  have b1 := c_mask (c >>> ((8 : Int32) &&& 31)).toInt8.toInt32 255 8 (by decide) (by decide)
  have b2 := c_i2b (c >>> ((8 : Int32) &&& 31))
  have b3 := c_ishr c 8 8 (by decide)
  rw [h1] at a1
  rw [h3] at b1
  have s1 := c_ishl x 0 0 (by decide)
  have s2 := c_ishl y 8 8 (by decide)
  rw [h2] at s1
  rw [h4] at s2
  have ru := rng32 u
  have rw' := rng32 w
  have hx : x.toInt = c.toInt % 256 := by omega
  have hy : y.toInt = c.toInt / 256 := by omega
  have hu : u.toInt = ((c.toInt % 256).toNat : Nat) := by omega
  have hw : w.toInt = 256 * ((c.toInt / 256).toNat : Nat) := by omega
  have q := rc_or (a := (c.toInt % 256).toNat) (b := (c.toInt / 256).toNat) (by omega) (by omega) hu hw
  rw [h5] at q
  have g := c_i2c v
  rw [h6] at g
  exact Int32.toInt_inj.mp (by omega)

theorem Wk.nar_r16 {c : Int32} (h : ¬ c < 0 ∧ ¬ (65535 : Int32) < c) : nar .char c = c := by
  show c.toUInt32.toUInt16.toUInt32.toInt32 = c
  have h1 := c_i2c c
  obtain ⟨h2, h3⟩ := h
  rw [Int32.lt_iff_toInt_lt] at h2 h3
  have e0 : (0 : Int32).toInt = 0 := by decide
  have e1 : (65535 : Int32).toInt = 65535 := by decide
  exact Int32.toInt_inj.mp (by omega)
def u16B : List Int32 → List Value
  | [] => []
  | c :: r => .int ((c >>> ((0 : Int32) &&& 31)).toInt8.toInt32) :: .int ((c >>> ((8 : Int32) &&& 31)).toInt8.toInt32) :: u16B r
theorem u16B_len : ∀ cs : List Int32, (u16B cs).length = 2 * cs.length
  | [] => rfl
  | c :: r => by have := u16B_len r; simp [u16B]; omega
theorem u16B_get : ∀ (cs : List Int32) (i : Nat), i < cs.length → (u16B cs)[2 * i]? = some (.int (((cs.getD i 0) >>> ((0 : Int32) &&& 31)).toInt8.toInt32)) ∧ (u16B cs)[2 * i + 1]? = some (.int (((cs.getD i 0) >>> ((8 : Int32) &&& 31)).toInt8.toInt32))
  | [], i, h => absurd h (by simp)
  | c :: r, 0, h => ⟨rfl, rfl⟩
  | c :: r, i + 1, h => by
    have q := u16B_get r i (by simpa using h)
    have e : 2 * (i + 1) = 2 * i + 1 + 1 := by omega
    rw [e]
    exact q
/-- the String at x spells cs, two bytes a sign -/
def S16 (Z : State) (h : Heap) (x : Addr) (cs : List Int32) : Prop := Exa Z h x StN ∧ Fld Z h x StN "coder" "B" (.int 1) ∧ (∃ t, Fld Z h x StN "value" "[B" (.ref t) ∧ Wk.Ary Z h t .byte (u16B cs)) ∧ (∀ c ∈ cs, ¬ c < 0 ∧ ¬ (65535 : Int32) < c) ∧ cs.length ≤ 4
theorem S16.ext {Z : State} {h h' : Heap} {x : Addr} {cs : List Int32} (F : S16 Z h x cs) (E : Ext h h') : S16 Z h' x cs := by
  obtain ⟨a, b, ⟨t, c, d⟩, r⟩ := F
  exact ⟨a.ext E, b.ext E, ⟨t, c.ext E, d.ext E⟩, r⟩
theorem S16.exa {Z : State} {h : Heap} {x : Addr} {cs : List Int32} (F : S16 Z h x cs) : Exa Z h x StN := F.1
def U16s (Z : State) : Prop := Sta Z Z.heap "java/lang/StringUTF16" "$assertionsDisabled" "Z" (.int 1) ∧ Sta Z Z.heap "java/lang/StringUTF16" "HI_BYTE_SHIFT" "I" (.int 0) ∧ Sta Z Z.heap "java/lang/StringUTF16" "LO_BYTE_SHIFT" "I" (.int 8)
theorem own_shl1 {i : Nat} {v : Int32} (h : i ≤ 1000) (hv : Int32.ofNat i <<< ((1 : Int32) &&& 31) = v) : v = Int32.ofNat (2 * i) := by
  have q := c_ishl (Int32.ofNat i) 1 1 (by decide)
  have r := rng32 v
  rw [hv, (Wk.nat32 (n := i) (by omega)).1] at q
  exact Wk.eqI (by rw [(Wk.nat32 (n := 2 * i) (by omega)).1]; omega)
theorem own_half {n : Nat} {v : Int32} (h : n ≤ 1000) (hv : Int32.ofNat (2 * n) >>> ((1 : Int32) &&& 31) = v) : v = Int32.ofNat n := by
  have q := c_ishr (Int32.ofNat (2 * n)) 1 1 (by decide)
  rw [hv, (Wk.nat32 (n := 2 * n) (by omega)).1] at q
  exact Wk.eqI (by rw [(Wk.nat32 (n := n) (by omega)).1]; omega)

set_option maxRecDepth 65536 in
set_option maxHeartbeats 40000000 in
theorem own_put16 (l : Launch) {Z : State} {a0 : Array Value} (hw : Ws a0 Z) {h0 : Heap} (O0 : Ext Z.heap h0) (us : U16s Z) (b : Addr) (vs : List Value) (i : Nat) (c : Int32) (gb : Z.heap.size ≤ b) (V : Wk.Ary Z h0 b .byte vs) (hN : vs.length ≤ 8) (hi : 2 * i + 1 < vs.length) :
    Wk.Con l Z (⟨"java/lang/StringUTF16", "putChar", "([BII)V"⟩ : MethodName) jdk_52_method_4_code 3 none ({ frames := 0, cells := 0, slots := 0, locals := 0 } : Room) #[(.ref b), (.int (Int32.ofNat i)), (.int c)] h0 (fun v h' => v = none ∧ Keep h0 h' [b] ∧ Wk.Ary Z h' b .byte ((vs.set (2 * i) (.int (c >>> ((0 : Int32) &&& 31)).toInt8.toInt32)).set (2 * i + 1) (.int (c >>> ((8 : Int32) &&& 31)).toInt8.toInt32))) := by
  refine Wk.Con.intro (plainFor_of_name pn0) O0 (fun m => ef0 m b (Int32.ofNat i) c) ?_
  intro W C
  replace C : Wk.Cx Z W "java/lang/StringUTF16" "putChar" jdk_52_method_4_code 3 none := C
  obtain ⟨SA, SH, SL⟩ := us
  refine Wk.getS (pc' := 3) C d_jdk_52m4_0 (w80 hw) Via.refl (SA.ext O0) rfl ?_
  refine Wk.if_ne C d_jdk_52m4_3 (by decide) (pcT := 28) (by decide) (pc' := 6) rfl (fun q11 => ?_) (fun q => absurd q (by decide))
  refine Wk.iloadN (pc' := 29) C d_jdk_52m4_28 rfl rfl ?_
  refine Wk.iconst (pc' := 30) C d_jdk_52m4_29 (v := (1 : Int32)) rfl rfl ?_
  obtain ⟨v12, hv12⟩ : ∃ z : Int32, (Int32.ofNat i) <<< ((1 : Int32) &&& 31) = z := ⟨_, rfl⟩
  refine Wk.ishl (pc' := 31) C d_jdk_52m4_30 hv12 rfl ?_
  have f13 : v12 = (Int32.ofNat (2 * i)) := own_shl1 (by omega) hv12
  rw [f13]
  refine Wk.istoreN (pc' := 32) C d_jdk_52m4_31 (Ls' := #[.val (.ref b), .val (.int (Int32.ofNat (2 * i))), .val (.int c)]) rfl rfl ?_
  refine Wk.aloadN (pc' := 33) C d_jdk_52m4_32 rfl rfl rfl ?_
  refine Wk.iloadN (pc' := 34) C d_jdk_52m4_33 rfl rfl ?_
  obtain ⟨v14, hv14⟩ : ∃ z : Int32, (Int32.ofNat (2 * i)) + Int32.ofInt 1 = z := ⟨_, rfl⟩
  refine Wk.iinc (pc' := 37) C d_jdk_52m4_34 rfl hv14 (Ls' := #[.val (.ref b), .val (.int v14), .val (.int c)]) rfl rfl ?_
  have f15 : v14 = (Int32.ofNat (2 * i + 1)) := (by rw [← hv14]; exact Wk.succ32 (by omega))
  rw [f15]
  refine Wk.iloadN (pc' := 38) C d_jdk_52m4_37 rfl rfl ?_
  refine Wk.getS (pc' := 41) C d_jdk_52m4_38 (w81 hw) Via.refl (SH.ext O0) rfl ?_
  obtain ⟨v16, hv16⟩ : ∃ z : Int32, c >>> ((0 : Int32) &&& 31) = z := ⟨_, rfl⟩
  refine Wk.ishr (pc' := 42) C d_jdk_52m4_41 hv16 rfl ?_
  obtain ⟨v17, hv17⟩ : ∃ z : Int32, v16.toInt8.toInt32 = z := ⟨_, rfl⟩
  refine Wk.i2b (pc' := 43) C d_jdk_52m4_42 hv17 rfl ?_
  refine Wk.bastore (pc' := 44) C d_jdk_52m4_43 V (Wk.nn32 (by omega)) (by rw [(Wk.nat32 (n := 2 * i) (by omega)).2]; omega) (vs' := (vs.set (2 * i) (.int v17))) (by rw [Wk.nar_i2b hv17, (Wk.nat32 (n := 2 * i) (by omega)).2]) gb rfl ?_
  intro h18 W18 V18 O18
  refine Wk.aloadN (pc' := 45) C d_jdk_52m4_44 rfl rfl rfl ?_
  refine Wk.iloadN (pc' := 46) C d_jdk_52m4_45 rfl rfl ?_
  refine Wk.iloadN (pc' := 47) C d_jdk_52m4_46 rfl rfl ?_
  refine Wk.getS (pc' := 50) C d_jdk_52m4_47 (w82 hw) Via.refl (SL.ext O18) rfl ?_
  obtain ⟨v19, hv19⟩ : ∃ z : Int32, c >>> ((8 : Int32) &&& 31) = z := ⟨_, rfl⟩
  refine Wk.ishr (pc' := 51) C d_jdk_52m4_50 hv19 rfl ?_
  obtain ⟨v20, hv20⟩ : ∃ z : Int32, v19.toInt8.toInt32 = z := ⟨_, rfl⟩
  refine Wk.i2b (pc' := 52) C d_jdk_52m4_51 hv20 rfl ?_
  refine Wk.bastore (pc' := 53) C d_jdk_52m4_52 V18 (Wk.nn32 (by omega)) (by rw [(Wk.nat32 (n := 2 * i + 1) (by omega)).2]; rw [List.length_set]; omega) (vs' := ((vs.set (2 * i) (.int v17)).set (2 * i + 1) (.int v20))) (by rw [Wk.nar_i2b hv20, (Wk.nat32 (n := 2 * i + 1) (by omega)).2]) gb rfl ?_
  intro h21 W21 V21 O21
  exact Wk.retV C d_jdk_52m4_53 (by decide) (by decide) ⟨rfl, (((Keep.refl _ _).wr W18 (Or.inl (List.mem_singleton.mpr rfl))).wr W21 (Or.inl (List.mem_singleton.mpr rfl))), by rw [hv16, hv17, hv19, hv20]; exact V21⟩
set_option maxRecDepth 65536 in
set_option maxHeartbeats 40000000 in
theorem own_get16 (l : Launch) {Z : State} {a0 : Array Value} (hw : Ws a0 Z) {h0 : Heap} (O0 : Ext Z.heap h0) (us : U16s Z) (b : Addr) (vs : List Value) (i : Nat) (c : Int32) (V : Wk.Ary Z h0 b .byte vs) (hN : vs.length ≤ 8) (hi : 2 * i + 1 < vs.length) (h1 : vs[2 * i]? = some (.int ((c >>> ((0 : Int32) &&& 31)).toInt8.toInt32))) (h2 : vs[2 * i + 1]? = some (.int ((c >>> ((8 : Int32) &&& 31)).toInt8.toInt32))) (r : ¬ c < 0 ∧ ¬ (65535 : Int32) < c) :
    Wk.Con l Z (⟨"java/lang/StringUTF16", "getChar", "([BI)C"⟩ : MethodName) jdk_52_method_5_code 2 (some .char) ({ frames := 0, cells := 0, slots := 0, locals := 0 } : Room) #[(.ref b), (.int (Int32.ofNat i))] h0 (fun v h' => v = some (.int c) ∧ h' = h0) := by
  refine Wk.Con.intro (plainFor_of_name pn0) O0 (fun m => ef1 m b (Int32.ofNat i)) ?_
  intro W C
  replace C : Wk.Cx Z W "java/lang/StringUTF16" "getChar" jdk_52_method_5_code 2 (some .char) := C
  obtain ⟨SA, SH, SL⟩ := us
  refine Wk.getS (pc' := 3) C d_jdk_52m5_0 (w80 hw) Via.refl (SA.ext O0) rfl ?_
  refine Wk.if_ne C d_jdk_52m5_3 (by decide) (pcT := 28) (by decide) (pc' := 6) rfl (fun q11 => ?_) (fun q => absurd q (by decide))
  refine Wk.iloadN (pc' := 29) C d_jdk_52m5_28 rfl rfl ?_
  refine Wk.iconst (pc' := 30) C d_jdk_52m5_29 (v := (1 : Int32)) rfl rfl ?_
  obtain ⟨v12, hv12⟩ : ∃ z : Int32, (Int32.ofNat i) <<< ((1 : Int32) &&& 31) = z := ⟨_, rfl⟩
  refine Wk.ishl (pc' := 31) C d_jdk_52m5_30 hv12 rfl ?_
  have f13 : v12 = (Int32.ofNat (2 * i)) := own_shl1 (by omega) hv12
  rw [f13]
  refine Wk.istoreN (pc' := 32) C d_jdk_52m5_31 (Ls' := #[.val (.ref b), .val (.int (Int32.ofNat (2 * i)))]) rfl rfl ?_
  refine Wk.aloadN (pc' := 33) C d_jdk_52m5_32 rfl rfl rfl ?_
  refine Wk.iloadN (pc' := 34) C d_jdk_52m5_33 rfl rfl ?_
  obtain ⟨v14, hv14⟩ : ∃ z : Int32, (Int32.ofNat (2 * i)) + Int32.ofInt 1 = z := ⟨_, rfl⟩
  refine Wk.iinc (pc' := 37) C d_jdk_52m5_34 rfl hv14 (Ls' := #[.val (.ref b), .val (.int v14)]) rfl rfl ?_
  have f15 : v14 = (Int32.ofNat (2 * i + 1)) := (by rw [← hv14]; exact Wk.succ32 (by omega))
  rw [f15]
  refine Wk.baload (pc' := 38) C d_jdk_52m5_37 V (Wk.nn32 (by omega)) (v := (.int ((c >>> ((0 : Int32) &&& 31)).toInt8.toInt32))) (by rw [(Wk.nat32 (n := 2 * i) (by omega)).2]; exact h1) rfl ?_
  refine Wk.sipush (pc' := 41) C d_jdk_52m5_38 (v := (255 : Int32)) rfl rfl ?_
  obtain ⟨v16, hv16⟩ : ∃ z : Int32, ((c >>> ((0 : Int32) &&& 31)).toInt8.toInt32) &&& (255 : Int32) = z := ⟨_, rfl⟩
  refine Wk.iand (pc' := 42) C d_jdk_52m5_41 hv16 rfl ?_
  refine Wk.getS (pc' := 45) C d_jdk_52m5_42 (w81 hw) Via.refl (SH.ext O0) rfl ?_
  obtain ⟨v17, hv17⟩ : ∃ z : Int32, v16 <<< ((0 : Int32) &&& 31) = z := ⟨_, rfl⟩
  refine Wk.ishl (pc' := 46) C d_jdk_52m5_45 hv17 rfl ?_
  refine Wk.aloadN (pc' := 47) C d_jdk_52m5_46 rfl rfl rfl ?_
  refine Wk.iloadN (pc' := 48) C d_jdk_52m5_47 rfl rfl ?_
  refine Wk.baload (pc' := 49) C d_jdk_52m5_48 V (Wk.nn32 (by omega)) (v := (.int ((c >>> ((8 : Int32) &&& 31)).toInt8.toInt32))) (by rw [(Wk.nat32 (n := 2 * i + 1) (by omega)).2]; exact h2) rfl ?_
  refine Wk.sipush (pc' := 52) C d_jdk_52m5_49 (v := (255 : Int32)) rfl rfl ?_
  obtain ⟨v18, hv18⟩ : ∃ z : Int32, ((c >>> ((8 : Int32) &&& 31)).toInt8.toInt32) &&& (255 : Int32) = z := ⟨_, rfl⟩
  refine Wk.iand (pc' := 53) C d_jdk_52m5_52 hv18 rfl ?_
  refine Wk.getS (pc' := 56) C d_jdk_52m5_53 (w82 hw) Via.refl (SL.ext O0) rfl ?_
  obtain ⟨v19, hv19⟩ : ∃ z : Int32, v18 <<< ((8 : Int32) &&& 31) = z := ⟨_, rfl⟩
  refine Wk.ishl (pc' := 57) C d_jdk_52m5_56 hv19 rfl ?_
  obtain ⟨v20, hv20⟩ : ∃ z : Int32, v17 ||| v19 = z := ⟨_, rfl⟩
  refine Wk.ior (pc' := 58) C d_jdk_52m5_57 hv20 rfl ?_
  obtain ⟨v21, hv21⟩ : ∃ z : Int32, v20.toUInt32.toUInt16.toUInt32.toInt32 = z := ⟨_, rfl⟩
  refine Wk.i2c (pc' := 59) C d_jdk_52m5_58 hv21 rfl ?_
  have hz : v21 = c := own_rc r hv16 hv17 hv18 hv19 hv20 hv21
  exact Wk.retNar (ty := .char) C (by simp) d_jdk_52m5_59 ((congrArg (nar .char) hz).trans (Wk.nar_r16 r)) (by decide) (by decide) ⟨rfl, rfl⟩
set_option maxRecDepth 65536 in
set_option maxHeartbeats 40000000 in
theorem own_l16 (l : Launch) {Z : State} {a0 : Array Value} (hw : Ws a0 Z) {h0 : Heap} (O0 : Ext Z.heap h0) (b : Addr) (vs : List Value) (n : Nat) (V : Wk.Ary Z h0 b .byte vs) (hN : n ≤ 4) (hn : vs.length = 2 * n) :
    Wk.Con l Z (⟨"java/lang/StringUTF16", "length", "([B)I"⟩ : MethodName) jdk_52_method_6_code 1 (some .int) ({ frames := 0, cells := 0, slots := 0, locals := 0 } : Room) #[(.ref b)] h0 (fun v h' => v = some (.int (Int32.ofNat n)) ∧ h' = h0) := by
  refine Wk.Con.intro (plainFor_of_name pn0) O0 (fun m => ef2 m b) ?_
  intro W C
  replace C : Wk.Cx Z W "java/lang/StringUTF16" "length" jdk_52_method_6_code 1 (some .int) := C
  refine Wk.aloadN (pc' := 1) C d_jdk_52m6_0 rfl rfl rfl ?_
  refine Wk.alen (pc' := 2) C d_jdk_52m6_1 V (z := (Int32.ofNat (2 * n))) (by rw [hn]) rfl ?_
  refine Wk.iconst (pc' := 3) C d_jdk_52m6_2 (v := (1 : Int32)) rfl rfl ?_
  obtain ⟨v11, hv11⟩ : ∃ z : Int32, (Int32.ofNat (2 * n)) >>> ((1 : Int32) &&& 31) = z := ⟨_, rfl⟩
  refine Wk.ishr (pc' := 4) C d_jdk_52m6_3 hv11 rfl ?_
  have f12 : v11 = (Int32.ofNat n) := own_half (by omega) hv11
  rw [f12]
  exact Wk.retI C d_jdk_52m6_4 (by decide) (by decide) ⟨rfl, rfl⟩
set_option maxRecDepth 65536 in
set_option maxHeartbeats 40000000 in
theorem own_nbl2 (l : Launch) {Z : State} {a0 : Array Value} (hw : Ws a0 Z) {h0 : Heap} (O0 : Ext Z.heap h0)   :
    Wk.Con l Z (⟨"java/lang/StringUTF16", "newBytesLength", "(I)I"⟩ : MethodName) jdk_52_method_3_code 1 (some .int) ({ frames := 0, cells := 0, slots := 0, locals := 0 } : Room) #[(.int (2 : Int32))] h0 (fun v h' => v = some (.int 4) ∧ h' = h0) := by
  refine Wk.Con.intro (plainFor_of_name pn0) O0 (fun m => ef3 m) ?_
  intro W C
  replace C : Wk.Cx Z W "java/lang/StringUTF16" "newBytesLength" jdk_52_method_3_code 1 (some .int) := C
  refine Wk.iloadN (pc' := 1) C d_jdk_52m3_0 rfl rfl ?_
  refine Wk.if_ge C d_jdk_52m3_1 (by decide) (pcT := 12) (by decide) (pc' := 4) rfl (fun q11 => ?_) (fun q => absurd q (by decide))
  refine Wk.iloadN (pc' := 13) C d_jdk_52m3_12 rfl rfl ?_
  refine Wk.ldcI (pc' := 15) C d_jdk_52m3_13 (w76 hw) rfl ?_
  refine Wk.icmp_lt C d_jdk_52m3_15 (by decide) (pcT := 55) (by decide) (pc' := 18) rfl (fun q12 => ?_) (fun q => absurd q (by decide))
  refine Wk.iloadN (pc' := 56) C d_jdk_52m3_55 rfl rfl ?_
  refine Wk.iconst (pc' := 57) C d_jdk_52m3_56 (v := (1 : Int32)) rfl rfl ?_
  refine Wk.ishl (pc' := 58) C d_jdk_52m3_57 (v := (4 : Int32)) (by decide) rfl ?_
  exact Wk.retI C d_jdk_52m3_58 (by decide) (by decide) ⟨rfl, rfl⟩
set_option maxRecDepth 65536 in
set_option maxHeartbeats 40000000 in
theorem own_nbf2 (l : Launch) {Z : State} {a0 : Array Value} (hw : Ws a0 Z) {h0 : Heap} (O0 : Ext Z.heap h0)   :
    Wk.Con l Z (⟨"java/lang/StringUTF16", "newBytesFor", "(I)[B"⟩ : MethodName) jdk_52_method_2_code 1 (some (.array .byte)) ({ frames := 1, cells := 1, slots := 4, locals := 12 } : Room) #[(.int (2 : Int32))] h0 (fun v h' => ∃ b : Addr, v = some (.ref b) ∧ b = h0.size ∧ Z.heap.size ≤ b ∧ Ext h0 h' ∧ Wk.Ary Z h' b .byte [(.int (0 : Int32)), (.int (0 : Int32)), (.int (0 : Int32)), (.int (0 : Int32))]) := by
  refine Wk.Con.intro (plainFor_of_name pn0) O0 (fun m => ef4 m) ?_
  intro W C
  replace C : Wk.Cx Z W "java/lang/StringUTF16" "newBytesFor" jdk_52_method_2_code 1 (some (.array .byte)) := C
  refine Wk.iloadN (pc' := 1) C d_jdk_52m2_0 rfl rfl ?_
  refine Wk.callS (pc' := 4) C d_jdk_52m2_1 (Wk.Con.pays C (Wn := 0) (own_nbl2 l hw O0) (w75 hw) (w59 hw) (by decide) (by decide)) Wk.cleanC (w73 hw) (w74 hw) (w59 hw) (w75 hw) (by decide) (argsL := [(.int (2 : Int32))]) (st := []) rfl rfl (lenOf pd0 rfl) rfl (Nat.le_of_eq rfl) (k' := 0) rfl (n' := 0) rfl (by decide) (by decide) rfl ?_
  intro r11 h12 Q12 O12
  obtain ⟨rfl, e13⟩ := Q12
  obtain rfl := e13.symm
  refine Wk.newA (pc' := 6) C d_jdk_52m2_4 (ty := .byte) rfl (w21 hw) (by decide) (cap := 4) (by decide) (by decide) (k' := 1) rfl (n' := 4) rfl (by decide) (by decide) rfl rfl ?_
  intro a14 h15 ga14 za14 E15 Va14 O15
  have V16 : Wk.Ary Z h15 a14 .byte [(.int (0 : Int32)), (.int (0 : Int32)), (.int (0 : Int32)), (.int (0 : Int32))] := Va14
  exact Wk.retA C rfl rfl d_jdk_52m2_6 (by decide) (by decide) ⟨_, rfl, ga14, za14, E15, V16⟩
set_option maxRecDepth 65536 in
set_option maxHeartbeats 40000000 in
theorem own_tb2 (l : Launch) {Z : State} {a0 : Array Value} (hw : Ws a0 Z) {h0 : Heap} (O0 : Ext Z.heap h0) (us : U16s Z) (a : Addr) (c0 c1 : Int32) (VA : Wk.Ary Z h0 a .char [(.int c0), (.int c1)]) :
    Wk.Con l Z (⟨"java/lang/StringUTF16", "toBytes", "([CII)[B"⟩ : MethodName) jdk_52_method_14_code 5 (some (.array .byte)) ({ frames := 2, cells := 1, slots := 4, locals := 26 } : Room) #[(.ref a), (.int (0 : Int32)), (.int (2 : Int32))] h0 (fun v h' => ∃ b : Addr, v = some (.ref b) ∧ b = h0.size ∧ Z.heap.size ≤ b ∧ Ext h0 h' ∧ Wk.Ary Z h' b .byte [(.int ((c0 >>> ((0 : Int32) &&& 31)).toInt8.toInt32)), (.int ((c0 >>> ((8 : Int32) &&& 31)).toInt8.toInt32)), (.int ((c1 >>> ((0 : Int32) &&& 31)).toInt8.toInt32)), (.int ((c1 >>> ((8 : Int32) &&& 31)).toInt8.toInt32))]) := by
  refine Wk.Con.intro (plainFor_of_name pn0) O0 (fun m => ef5 m a) ?_
  intro W C
  replace C : Wk.Cx Z W "java/lang/StringUTF16" "toBytes" jdk_52_method_14_code 5 (some (.array .byte)) := C
  refine Wk.iloadN (pc' := 1) C d_jdk_52m14_0 rfl rfl ?_
  refine Wk.callS (pc' := 4) C d_jdk_52m14_1 (Wk.Con.pays C (Wn := 0) (own_nbf2 l hw O0) (w72 hw) (w59 hw) (by decide) (by decide)) Wk.cleanC (w70 hw) (w71 hw) (w59 hw) (w72 hw) (by decide) (argsL := [(.int (2 : Int32))]) (st := []) rfl rfl (lenOf pd1 rfl) rfl (Nat.le_of_eq rfl) (k' := 1) rfl (n' := 4) rfl (by decide) (by decide) rfl ?_
  intro r11 h12 Q12 O12
  obtain ⟨b13, rfl, gb13, zb13, E12, V12⟩ := Q12
  refine Wk.astoreN (pc' := 5) C d_jdk_52m14_4 rfl (Ls' := #[.val (.ref a), .val (.int (0 : Int32)), .val (.int (2 : Int32)), .val (.ref b13), .unset]) rfl rfl ?_
  refine Wk.iconst (pc' := 6) C d_jdk_52m14_5 (v := (0 : Int32)) rfl rfl ?_
  refine Wk.istore (pc' := 8) C d_jdk_52m14_6 (Ls' := #[.val (.ref a), .val (.int (0 : Int32)), .val (.int (2 : Int32)), .val (.ref b13), .val (.int (0 : Int32))]) rfl rfl ?_
  refine Wk.iload (pc' := 10) C d_jdk_52m14_8 rfl rfl ?_
  refine Wk.iloadN (pc' := 11) C d_jdk_52m14_10 rfl rfl ?_
  refine Wk.icmp_ge C d_jdk_52m14_11 (by decide) (pcT := 32) (by decide) (pc' := 14) rfl (fun q => absurd q (by decide)) (fun q14 => ?_)
  refine Wk.aloadN (pc' := 15) C d_jdk_52m14_14 rfl rfl rfl ?_
  refine Wk.iload (pc' := 17) C d_jdk_52m14_15 rfl rfl ?_
  refine Wk.aloadN (pc' := 18) C d_jdk_52m14_17 rfl rfl rfl ?_
  refine Wk.iloadN (pc' := 19) C d_jdk_52m14_18 rfl rfl ?_
  refine Wk.caload (pc' := 20) C d_jdk_52m14_19 (VA.ext E12) (by decide) (v := (.int c0)) rfl rfl ?_
  refine Wk.callS (pc' := 23) C d_jdk_52m14_20 (Wk.Con.pays C (Wn := 0) (own_put16 l hw O12 us b13 [(.int (0 : Int32)), (.int (0 : Int32)), (.int (0 : Int32)), (.int (0 : Int32))] 0 c0 zb13 V12 (Nat.le_of_ble_eq_true rfl) (show _ < _ from Nat.le_of_ble_eq_true rfl)) (w79 hw) (w59 hw) (by decide) (by decide)) Wk.cleanC (w77 hw) (w78 hw) (w59 hw) (w79 hw) (by decide) (argsL := [(.ref b13), (.int (0 : Int32)), (.int c0)]) (st := []) rfl rfl (lenOf pd2 rfl) rfl (Nat.le_of_eq rfl) (k' := 1) rfl (n' := 4) rfl (by decide) (by decide) rfl ?_
  intro r15 h16 Q16 O16
  obtain ⟨rfl, K16, V16⟩ := Q16
  replace V16 : Wk.Ary Z h16 b13 .byte [(.int ((c0 >>> ((0 : Int32) &&& 31)).toInt8.toInt32)), (.int ((c0 >>> ((8 : Int32) &&& 31)).toInt8.toInt32)), (.int (0 : Int32)), (.int (0 : Int32))] := V16
  refine Wk.iinc (pc' := 26) C d_jdk_52m14_23 rfl (v := (1 : Int32)) (by decide) (Ls' := #[.val (.ref a), .val (.int (1 : Int32)), .val (.int (2 : Int32)), .val (.ref b13), .val (.int (0 : Int32))]) rfl rfl ?_
  refine Wk.iinc (pc' := 29) C d_jdk_52m14_26 rfl (v := (1 : Int32)) (by decide) (Ls' := #[.val (.ref a), .val (.int (1 : Int32)), .val (.int (2 : Int32)), .val (.ref b13), .val (.int (1 : Int32))]) rfl rfl ?_
  refine Wk.goto C d_jdk_52m14_29 (by decide) (pc' := 8) (by decide) ?_
  refine Wk.iload (pc' := 10) C d_jdk_52m14_8 rfl rfl ?_
  refine Wk.iloadN (pc' := 11) C d_jdk_52m14_10 rfl rfl ?_
  refine Wk.icmp_ge C d_jdk_52m14_11 (by decide) (pcT := 32) (by decide) (pc' := 14) rfl (fun q => absurd q (by decide)) (fun q17 => ?_)
  refine Wk.aloadN (pc' := 15) C d_jdk_52m14_14 rfl rfl rfl ?_
  refine Wk.iload (pc' := 17) C d_jdk_52m14_15 rfl rfl ?_
  refine Wk.aloadN (pc' := 18) C d_jdk_52m14_17 rfl rfl rfl ?_
  refine Wk.iloadN (pc' := 19) C d_jdk_52m14_18 rfl rfl ?_
  have X18 : Ext h0 h16 := Wk.Ext.keep1 (Z := Z) E12 K16 (Nat.le_of_eq gb13.symm)
  refine Wk.caload (pc' := 20) C d_jdk_52m14_19 (VA.ext X18) (by decide) (v := (.int c1)) rfl rfl ?_
  refine Wk.callS (pc' := 23) C d_jdk_52m14_20 (Wk.Con.pays C (Wn := 0) (own_put16 l hw O16 us b13 [(.int ((c0 >>> ((0 : Int32) &&& 31)).toInt8.toInt32)), (.int ((c0 >>> ((8 : Int32) &&& 31)).toInt8.toInt32)), (.int (0 : Int32)), (.int (0 : Int32))] 1 c1 zb13 V16 (Nat.le_of_ble_eq_true rfl) (show _ < _ from Nat.le_of_ble_eq_true rfl)) (w79 hw) (w59 hw) (by decide) (by decide)) Wk.cleanC (w77 hw) (w78 hw) (w59 hw) (w79 hw) (by decide) (argsL := [(.ref b13), (.int (1 : Int32)), (.int c1)]) (st := []) rfl rfl (lenOf pd2 rfl) rfl (Nat.le_of_eq rfl) (k' := 1) rfl (n' := 4) rfl (by decide) (by decide) rfl ?_
  intro r19 h20 Q20 O20
  obtain ⟨rfl, K20, V20⟩ := Q20
  replace V20 : Wk.Ary Z h20 b13 .byte [(.int ((c0 >>> ((0 : Int32) &&& 31)).toInt8.toInt32)), (.int ((c0 >>> ((8 : Int32) &&& 31)).toInt8.toInt32)), (.int ((c1 >>> ((0 : Int32) &&& 31)).toInt8.toInt32)), (.int ((c1 >>> ((8 : Int32) &&& 31)).toInt8.toInt32))] := V20
  refine Wk.iinc (pc' := 26) C d_jdk_52m14_23 rfl (v := (2 : Int32)) (by decide) (Ls' := #[.val (.ref a), .val (.int (2 : Int32)), .val (.int (2 : Int32)), .val (.ref b13), .val (.int (1 : Int32))]) rfl rfl ?_
  refine Wk.iinc (pc' := 29) C d_jdk_52m14_26 rfl (v := (2 : Int32)) (by decide) (Ls' := #[.val (.ref a), .val (.int (2 : Int32)), .val (.int (2 : Int32)), .val (.ref b13), .val (.int (2 : Int32))]) rfl rfl ?_
  refine Wk.goto C d_jdk_52m14_29 (by decide) (pc' := 8) (by decide) ?_
  refine Wk.iload (pc' := 10) C d_jdk_52m14_8 rfl rfl ?_
  refine Wk.iloadN (pc' := 11) C d_jdk_52m14_10 rfl rfl ?_
  refine Wk.icmp_ge C d_jdk_52m14_11 (by decide) (pcT := 32) (by decide) (pc' := 14) rfl (fun q21 => ?_) (fun q => absurd q (by decide))
  refine Wk.aloadN (pc' := 33) C d_jdk_52m14_32 rfl rfl rfl ?_
  have X22 : Ext h0 h20 := Wk.Ext.keep1 (Z := Z) X18 K20 (Nat.le_of_eq gb13.symm)
  exact Wk.retA C rfl rfl d_jdk_52m14_33 (by decide) (by decide) ⟨_, rfl, gb13, zb13, X22, V20⟩
set_option maxRecDepth 65536 in
set_option maxHeartbeats 40000000 in
theorem own_c5u2 (l : Launch) {Z : State} {a0 : Array Value} (hw : Ws a0 Z) {h0 : Heap} (O0 : Ext Z.heap h0) (a b : Addr) (c0 c1 : Int32) (VA : Wk.Ary Z h0 a .char [(.int c0), (.int c1)]) (gb : Z.heap.size ≤ b) (VB : Wk.Ary Z h0 b .byte [(.int (0 : Int32)), (.int (0 : Int32))]) (nab : a ≠ b) (hU : ¬ (¬ (255 : Int32) < c0 ∧ ¬ (255 : Int32) < c1)) :
    Wk.Con l Z (⟨"java/lang/StringUTF16", "compress", "([CI[BII)I"⟩ : MethodName) jdk_52_method_21_code 7 (some .int) ({ frames := 0, cells := 0, slots := 0, locals := 0 } : Room) #[(.ref a), (.int (0 : Int32)), (.ref b), (.int (0 : Int32)), (.int (2 : Int32))] h0 (fun v h' => ∃ k : Int32, v = some (.int k) ∧ ((k = 0 ∧ (255 : Int32) < c0) ∨ (k = 1 ∧ (255 : Int32) < c1)) ∧ Keep h0 h' [b]) := by
  refine Wk.Con.intro (plainFor_of_name pn0) O0 (fun m => ef6 m a b) ?_
  intro W C
  replace C : Wk.Cx Z W "java/lang/StringUTF16" "compress" jdk_52_method_21_code 7 (some .int) := C
  refine Wk.iconst (pc' := 1) C d_jdk_52m21_0 (v := (0 : Int32)) rfl rfl ?_
  refine Wk.istore (pc' := 3) C d_jdk_52m21_1 (Ls' := #[.val (.ref a), .val (.int (0 : Int32)), .val (.ref b), .val (.int (0 : Int32)), .val (.int (2 : Int32)), .val (.int (0 : Int32)), .unset]) rfl rfl ?_
  refine Wk.iload (pc' := 5) C d_jdk_52m21_3 rfl rfl ?_
  refine Wk.iload (pc' := 7) C d_jdk_52m21_5 rfl rfl ?_
  refine Wk.icmp_ge C d_jdk_52m21_7 (by decide) (pcT := 44) (by decide) (pc' := 10) rfl (fun q => absurd q (by decide)) (fun q11 => ?_)
  refine Wk.aloadN (pc' := 11) C d_jdk_52m21_10 rfl rfl rfl ?_
  refine Wk.iloadN (pc' := 12) C d_jdk_52m21_11 rfl rfl ?_
  refine Wk.caload (pc' := 13) C d_jdk_52m21_12 VA (by decide) (v := (.int c0)) rfl rfl ?_
  refine Wk.istore (pc' := 15) C d_jdk_52m21_13 (Ls' := #[.val (.ref a), .val (.int (0 : Int32)), .val (.ref b), .val (.int (0 : Int32)), .val (.int (2 : Int32)), .val (.int (0 : Int32)), .val (.int c0)]) rfl rfl ?_
  refine Wk.iload (pc' := 17) C d_jdk_52m21_15 rfl rfl ?_
  refine Wk.sipush (pc' := 20) C d_jdk_52m21_17 (v := (255 : Int32)) rfl rfl ?_
  refine Wk.icmp_le C d_jdk_52m21_20 (by decide) (pcT := 26) (by decide) (pc' := 23) rfl (fun q12 => ?_) (fun q12 => ?_)
  · -- pc 20: taken
    refine Wk.aloadN (pc' := 27) C d_jdk_52m21_26 rfl rfl rfl ?_
    refine Wk.iloadN (pc' := 28) C d_jdk_52m21_27 rfl rfl ?_
    refine Wk.iload (pc' := 30) C d_jdk_52m21_28 rfl rfl ?_
    obtain ⟨v13, hv13⟩ : ∃ z : Int32, c0.toInt8.toInt32 = z := ⟨_, rfl⟩
    refine Wk.i2b (pc' := 31) C d_jdk_52m21_30 hv13 rfl ?_
    refine Wk.bastore (pc' := 32) C d_jdk_52m21_31 VB (by decide) (show _ < _ from Nat.le_of_ble_eq_true rfl) (vs' := [(.int v13), (.int (0 : Int32))]) (by rw [Wk.nar_i2b hv13]; rfl) gb rfl ?_
    intro h14 W14 V14 O14
    refine Wk.iinc (pc' := 35) C d_jdk_52m21_32 rfl (v := (1 : Int32)) (by decide) (Ls' := #[.val (.ref a), .val (.int (1 : Int32)), .val (.ref b), .val (.int (0 : Int32)), .val (.int (2 : Int32)), .val (.int (0 : Int32)), .val (.int c0)]) rfl rfl ?_
    refine Wk.iinc (pc' := 38) C d_jdk_52m21_35 rfl (v := (1 : Int32)) (by decide) (Ls' := #[.val (.ref a), .val (.int (1 : Int32)), .val (.ref b), .val (.int (1 : Int32)), .val (.int (2 : Int32)), .val (.int (0 : Int32)), .val (.int c0)]) rfl rfl ?_
    refine Wk.iinc (pc' := 41) C d_jdk_52m21_38 rfl (v := (1 : Int32)) (by decide) (Ls' := #[.val (.ref a), .val (.int (1 : Int32)), .val (.ref b), .val (.int (1 : Int32)), .val (.int (2 : Int32)), .val (.int (1 : Int32)), .val (.int c0)]) rfl rfl ?_
    refine Wk.goto C d_jdk_52m21_41 (by decide) (pc' := 3) (by decide) ?_
    refine Wk.iload (pc' := 5) C d_jdk_52m21_3 rfl rfl ?_
    refine Wk.iload (pc' := 7) C d_jdk_52m21_5 rfl rfl ?_
    refine Wk.icmp_ge C d_jdk_52m21_7 (by decide) (pcT := 44) (by decide) (pc' := 10) rfl (fun q => absurd q (by decide)) (fun q15 => ?_)
    refine Wk.aloadN (pc' := 11) C d_jdk_52m21_10 rfl rfl rfl ?_
    refine Wk.iloadN (pc' := 12) C d_jdk_52m21_11 rfl rfl ?_
    refine Wk.caload (pc' := 13) C d_jdk_52m21_12 (VA.other W14 nab) (by decide) (v := (.int c1)) rfl rfl ?_
    refine Wk.istore (pc' := 15) C d_jdk_52m21_13 (Ls' := #[.val (.ref a), .val (.int (1 : Int32)), .val (.ref b), .val (.int (1 : Int32)), .val (.int (2 : Int32)), .val (.int (1 : Int32)), .val (.int c1)]) rfl rfl ?_
    refine Wk.iload (pc' := 17) C d_jdk_52m21_15 rfl rfl ?_
    refine Wk.sipush (pc' := 20) C d_jdk_52m21_17 (v := (255 : Int32)) rfl rfl ?_
    refine Wk.icmp_le C d_jdk_52m21_20 (by decide) (pcT := 26) (by decide) (pc' := 23) rfl (fun q16 => ?_) (fun q16 => ?_)
    · -- pc 20: taken
      refine Wk.aloadN (pc' := 27) C d_jdk_52m21_26 rfl rfl rfl ?_
      refine Wk.iloadN (pc' := 28) C d_jdk_52m21_27 rfl rfl ?_
      refine Wk.iload (pc' := 30) C d_jdk_52m21_28 rfl rfl ?_
      obtain ⟨v17, hv17⟩ : ∃ z : Int32, c1.toInt8.toInt32 = z := ⟨_, rfl⟩
      refine Wk.i2b (pc' := 31) C d_jdk_52m21_30 hv17 rfl ?_
      refine Wk.bastore (pc' := 32) C d_jdk_52m21_31 V14 (by decide) (show _ < _ from Nat.le_of_ble_eq_true rfl) (vs' := [(.int v13), (.int v17)]) (by rw [Wk.nar_i2b hv17]; rfl) gb rfl ?_
      intro h18 W18 V18 O18
      refine Wk.iinc (pc' := 35) C d_jdk_52m21_32 rfl (v := (2 : Int32)) (by decide) (Ls' := #[.val (.ref a), .val (.int (2 : Int32)), .val (.ref b), .val (.int (1 : Int32)), .val (.int (2 : Int32)), .val (.int (1 : Int32)), .val (.int c1)]) rfl rfl ?_
      refine Wk.iinc (pc' := 38) C d_jdk_52m21_35 rfl (v := (2 : Int32)) (by decide) (Ls' := #[.val (.ref a), .val (.int (2 : Int32)), .val (.ref b), .val (.int (2 : Int32)), .val (.int (2 : Int32)), .val (.int (1 : Int32)), .val (.int c1)]) rfl rfl ?_
      refine Wk.iinc (pc' := 41) C d_jdk_52m21_38 rfl (v := (2 : Int32)) (by decide) (Ls' := #[.val (.ref a), .val (.int (2 : Int32)), .val (.ref b), .val (.int (2 : Int32)), .val (.int (2 : Int32)), .val (.int (2 : Int32)), .val (.int c1)]) rfl rfl ?_
      refine Wk.goto C d_jdk_52m21_41 (by decide) (pc' := 3) (by decide) ?_
      refine Wk.iload (pc' := 5) C d_jdk_52m21_3 rfl rfl ?_
      refine Wk.iload (pc' := 7) C d_jdk_52m21_5 rfl rfl ?_
      refine Wk.icmp_ge C d_jdk_52m21_7 (by decide) (pcT := 44) (by decide) (pc' := 10) rfl (fun q19 => ?_) (fun q => absurd q (by decide))
      refine Wk.iload (pc' := 46) C d_jdk_52m21_44 rfl rfl ?_
      exact absurd ⟨q12, q16⟩ hU
    · -- pc 20: not taken
      refine Wk.iload (pc' := 25) C d_jdk_52m21_23 rfl rfl ?_
      exact Wk.retI C d_jdk_52m21_25 (by decide) (by decide) ⟨_, rfl, Or.inr (⟨rfl, q16⟩), ((Keep.refl _ _).wr W14 (Or.inl (List.mem_singleton.mpr rfl)))⟩
  · -- pc 20: not taken
    refine Wk.iload (pc' := 25) C d_jdk_52m21_23 rfl rfl ?_
    exact Wk.retI C d_jdk_52m21_25 (by decide) (by decide) ⟨_, rfl, Or.inl ⟨rfl, q12⟩, (Keep.refl _ _)⟩
set_option maxRecDepth 65536 in
set_option maxHeartbeats 40000000 in
theorem own_c2u2 (l : Launch) {Z : State} {a0 : Array Value} (hw : Ws a0 Z) {h0 : Heap} (O0 : Ext Z.heap h0) (us : U16s Z) (a : Addr) (c0 c1 : Int32) (VA : Wk.Ary Z h0 a .char [(.int c0), (.int c1)]) (r0 : ¬ c0 < 0 ∧ ¬ (65535 : Int32) < c0) (r1 : ¬ c1 < 0 ∧ ¬ (65535 : Int32) < c1) (hU : ¬ (¬ (255 : Int32) < c0 ∧ ¬ (255 : Int32) < c1)) :
    Wk.Con l Z (⟨"java/lang/StringUTF16", "compress", "([CII)[B"⟩ : MethodName) jdk_52_method_16_code 6 (some (.array .byte)) ({ frames := 3, cells := 2, slots := 6, locals := 46 } : Room) #[(.ref a), (.int (0 : Int32)), (.int (2 : Int32))] h0 (fun v h' => ∃ b : Addr, v = some (.ref b) ∧ h0.size ≤ b ∧ Z.heap.size ≤ b ∧ Ext h0 h' ∧ Wk.Ary Z h' b .byte [(.int ((c0 >>> ((0 : Int32) &&& 31)).toInt8.toInt32)), (.int ((c0 >>> ((8 : Int32) &&& 31)).toInt8.toInt32)), (.int ((c1 >>> ((0 : Int32) &&& 31)).toInt8.toInt32)), (.int ((c1 >>> ((8 : Int32) &&& 31)).toInt8.toInt32))]) := by
  refine Wk.Con.intro (plainFor_of_name pn0) O0 (fun m => ef7 m a) ?_
  intro W C
  replace C : Wk.Cx Z W "java/lang/StringUTF16" "compress" jdk_52_method_16_code 6 (some (.array .byte)) := C
  refine Wk.iloadN (pc' := 1) C d_jdk_52m16_0 rfl rfl ?_
  refine Wk.newA (pc' := 3) C d_jdk_52m16_1 (ty := .byte) rfl (w21 hw) (by decide) (cap := 2) (by decide) (by decide) (k' := 1) rfl (n' := 2) rfl (by decide) (by decide) rfl rfl ?_
  intro a11 h12 ga11 za11 E12 Va11 O12
  have V13 : Wk.Ary Z h12 a11 .byte [(.int (0 : Int32)), (.int (0 : Int32))] := Va11
  refine Wk.astoreN (pc' := 4) C d_jdk_52m16_3 rfl (Ls' := #[.val (.ref a), .val (.int (0 : Int32)), .val (.int (2 : Int32)), .val (.ref a11), .unset, .unset]) rfl rfl ?_
  refine Wk.aloadN (pc' := 5) C d_jdk_52m16_4 rfl rfl rfl ?_
  refine Wk.iloadN (pc' := 6) C d_jdk_52m16_5 rfl rfl ?_
  refine Wk.aloadN (pc' := 7) C d_jdk_52m16_6 rfl rfl rfl ?_
  refine Wk.iconst (pc' := 8) C d_jdk_52m16_7 (v := (0 : Int32)) rfl rfl ?_
  refine Wk.iloadN (pc' := 9) C d_jdk_52m16_8 rfl rfl ?_
  refine Wk.callS (pc' := 12) C d_jdk_52m16_9 (Wk.Con.pays C (Wn := 0) (own_c5u2 l hw O12 a a11 c0 c1 (VA.ext E12) za11 V13 (Nat.ne_of_lt (Nat.lt_of_lt_of_le VA.lt (Nat.le_of_eq ga11.symm))) hU) (w63 hw) (w59 hw) (by decide) (by decide)) Wk.cleanC (w61 hw) (w62 hw) (w59 hw) (w63 hw) (by decide) (argsL := [(.ref a), (.int (0 : Int32)), (.ref a11), (.int (0 : Int32)), (.int (2 : Int32))]) (st := []) rfl rfl (lenOf pd3 rfl) rfl (Nat.le_of_eq rfl) (k' := 1) rfl (n' := 2) rfl (by decide) (by decide) rfl ?_
  intro r14 h15 Q15 O15
  obtain ⟨k16, rfl, dk16, K15⟩ := Q15
  rcases dk16 with ⟨rfl, hk⟩ | ⟨rfl, hk⟩
  · -- stops at 0
    refine Wk.istore (pc' := 14) C d_jdk_52m16_12 (Ls' := #[.val (.ref a), .val (.int (0 : Int32)), .val (.int (2 : Int32)), .val (.ref a11), .val (.int (0 : Int32)), .unset]) rfl rfl ?_
    refine Wk.iload (pc' := 16) C d_jdk_52m16_14 rfl rfl ?_
    refine Wk.iloadN (pc' := 17) C d_jdk_52m16_16 rfl rfl ?_
    refine Wk.icmp_eq C d_jdk_52m16_17 (by decide) (pcT := 57) (by decide) (pc' := 20) rfl (fun q => absurd q (by decide)) (fun q17 => ?_)
    refine Wk.aloadN (pc' := 21) C d_jdk_52m16_20 rfl rfl rfl ?_
    refine Wk.iloadN (pc' := 22) C d_jdk_52m16_21 rfl rfl ?_
    refine Wk.iloadN (pc' := 23) C d_jdk_52m16_22 rfl rfl ?_
    have X18 : Ext h0 h15 := Wk.Ext.keep1 (Z := Z) E12 K15 (Nat.le_of_eq ga11.symm)
    refine Wk.callS (pc' := 26) C d_jdk_52m16_23 (Wk.Con.pays C (Wn := 0) (own_tb2 l hw O15 us a c0 c1 (VA.ext X18)) (w69 hw) (w59 hw) (by decide) (by decide)) Wk.cleanC (w67 hw) (w68 hw) (w59 hw) (w69 hw) (by decide) (argsL := [(.ref a), (.int (0 : Int32)), (.int (2 : Int32))]) (st := []) rfl rfl (lenOf pd4 rfl) rfl (Nat.le_of_eq rfl) (k' := 2) rfl (n' := 6) rfl (by decide) (by decide) rfl ?_
    intro r19 h20 Q20 O20
    obtain ⟨b21, rfl, gb21, zb21, E20, V20⟩ := Q20
    refine Wk.astore (pc' := 28) C d_jdk_52m16_26 rfl (Ls' := #[.val (.ref a), .val (.int (0 : Int32)), .val (.int (2 : Int32)), .val (.ref a11), .val (.int (0 : Int32)), .val (.ref b21)]) rfl rfl ?_
    refine Wk.aload (pc' := 30) C d_jdk_52m16_28 rfl rfl rfl ?_
    refine Wk.iload (pc' := 32) C d_jdk_52m16_30 rfl rfl ?_
    refine Wk.callS (pc' := 35) C d_jdk_52m16_32 (Wk.Con.pays C (Wn := 0) (own_get16 l hw O20 us b21 [(.int ((c0 >>> ((0 : Int32) &&& 31)).toInt8.toInt32)), (.int ((c0 >>> ((8 : Int32) &&& 31)).toInt8.toInt32)), (.int ((c1 >>> ((0 : Int32) &&& 31)).toInt8.toInt32)), (.int ((c1 >>> ((8 : Int32) &&& 31)).toInt8.toInt32))] 0 c0 V20 (Nat.le_of_ble_eq_true rfl) (show _ < _ from Nat.le_of_ble_eq_true rfl) rfl rfl r0) (w85 hw) (w59 hw) (by decide) (by decide)) Wk.cleanC (w83 hw) (w84 hw) (w59 hw) (w85 hw) (by decide) (argsL := [(.ref b21), (.int (0 : Int32))]) (st := []) rfl rfl (lenOf pd5 rfl) rfl (Nat.le_of_eq rfl) (k' := 2) rfl (n' := 6) rfl (by decide) (by decide) rfl ?_
    intro r22 h23 Q23 O23
    obtain ⟨rfl, e24⟩ := Q23
    obtain rfl := e24.symm
    refine Wk.sipush (pc' := 38) C d_jdk_52m16_35 (v := (255 : Int32)) rfl rfl ?_
    refine Wk.icmp_gt C d_jdk_52m16_38 (by decide) (pcT := 54) (by decide) (pc' := 41) rfl (fun q25 => ?_) (fun q => absurd hk q)
    refine Wk.aload (pc' := 56) C d_jdk_52m16_54 rfl rfl rfl ?_
    have X26 : Ext h0 h20 := Wk.Ext.trans X18 E20
    exact Wk.retA C rfl rfl d_jdk_52m16_56 (by decide) (by decide) ⟨_, rfl, (Nat.le_trans X18.1 (Nat.le_of_eq gb21.symm)), zb21, X26, V20⟩
  · -- stops at 1
    refine Wk.istore (pc' := 14) C d_jdk_52m16_12 (Ls' := #[.val (.ref a), .val (.int (0 : Int32)), .val (.int (2 : Int32)), .val (.ref a11), .val (.int (1 : Int32)), .unset]) rfl rfl ?_
    refine Wk.iload (pc' := 16) C d_jdk_52m16_14 rfl rfl ?_
    refine Wk.iloadN (pc' := 17) C d_jdk_52m16_16 rfl rfl ?_
    refine Wk.icmp_eq C d_jdk_52m16_17 (by decide) (pcT := 57) (by decide) (pc' := 20) rfl (fun q => absurd q (by decide)) (fun q27 => ?_)
    refine Wk.aloadN (pc' := 21) C d_jdk_52m16_20 rfl rfl rfl ?_
    refine Wk.iloadN (pc' := 22) C d_jdk_52m16_21 rfl rfl ?_
    refine Wk.iloadN (pc' := 23) C d_jdk_52m16_22 rfl rfl ?_
    have X28 : Ext h0 h15 := Wk.Ext.keep1 (Z := Z) E12 K15 (Nat.le_of_eq ga11.symm)
    refine Wk.callS (pc' := 26) C d_jdk_52m16_23 (Wk.Con.pays C (Wn := 0) (own_tb2 l hw O15 us a c0 c1 (VA.ext X28)) (w69 hw) (w59 hw) (by decide) (by decide)) Wk.cleanC (w67 hw) (w68 hw) (w59 hw) (w69 hw) (by decide) (argsL := [(.ref a), (.int (0 : Int32)), (.int (2 : Int32))]) (st := []) rfl rfl (lenOf pd4 rfl) rfl (Nat.le_of_eq rfl) (k' := 2) rfl (n' := 6) rfl (by decide) (by decide) rfl ?_
    intro r29 h30 Q30 O30
    obtain ⟨b31, rfl, gb31, zb31, E30, V30⟩ := Q30
    refine Wk.astore (pc' := 28) C d_jdk_52m16_26 rfl (Ls' := #[.val (.ref a), .val (.int (0 : Int32)), .val (.int (2 : Int32)), .val (.ref a11), .val (.int (1 : Int32)), .val (.ref b31)]) rfl rfl ?_
    refine Wk.aload (pc' := 30) C d_jdk_52m16_28 rfl rfl rfl ?_
    refine Wk.iload (pc' := 32) C d_jdk_52m16_30 rfl rfl ?_
    refine Wk.callS (pc' := 35) C d_jdk_52m16_32 (Wk.Con.pays C (Wn := 0) (own_get16 l hw O30 us b31 [(.int ((c0 >>> ((0 : Int32) &&& 31)).toInt8.toInt32)), (.int ((c0 >>> ((8 : Int32) &&& 31)).toInt8.toInt32)), (.int ((c1 >>> ((0 : Int32) &&& 31)).toInt8.toInt32)), (.int ((c1 >>> ((8 : Int32) &&& 31)).toInt8.toInt32))] 1 c1 V30 (Nat.le_of_ble_eq_true rfl) (show _ < _ from Nat.le_of_ble_eq_true rfl) rfl rfl r1) (w85 hw) (w59 hw) (by decide) (by decide)) Wk.cleanC (w83 hw) (w84 hw) (w59 hw) (w85 hw) (by decide) (argsL := [(.ref b31), (.int (1 : Int32))]) (st := []) rfl rfl (lenOf pd5 rfl) rfl (Nat.le_of_eq rfl) (k' := 2) rfl (n' := 6) rfl (by decide) (by decide) rfl ?_
    intro r32 h33 Q33 O33
    obtain ⟨rfl, e34⟩ := Q33
    obtain rfl := e34.symm
    refine Wk.sipush (pc' := 38) C d_jdk_52m16_35 (v := (255 : Int32)) rfl rfl ?_
    refine Wk.icmp_gt C d_jdk_52m16_38 (by decide) (pcT := 54) (by decide) (pc' := 41) rfl (fun q35 => ?_) (fun q => absurd hk q)
    refine Wk.aload (pc' := 56) C d_jdk_52m16_54 rfl rfl rfl ?_
    have X36 : Ext h0 h30 := Wk.Ext.trans X28 E30
    exact Wk.retA C rfl rfl d_jdk_52m16_56 (by decide) (by decide) ⟨_, rfl, (Nat.le_trans X28.1 (Nat.le_of_eq gb31.symm)), zb31, X36, V30⟩
set_option maxRecDepth 65536 in
set_option maxHeartbeats 40000000 in
theorem own_cfa2 (l : Launch) {Z : State} {a0 : Array Value} (hw : Ws a0 Z) {h0 : Heap} (O0 : Ext Z.heap h0) (b : Addr) (c0 c1 : Int32) (VB : Wk.Ary Z h0 b .byte [(.int ((c0 >>> ((0 : Int32) &&& 31)).toInt8.toInt32)), (.int ((c0 >>> ((8 : Int32) &&& 31)).toInt8.toInt32)), (.int ((c1 >>> ((0 : Int32) &&& 31)).toInt8.toInt32)), (.int ((c1 >>> ((8 : Int32) &&& 31)).toInt8.toInt32))]) :
    Wk.Con l Z (⟨"java/lang/StringUTF16", "coderFromArrayLen", "([BI)B"⟩ : MethodName) jdk_52_method_15_code 2 (some .byte) ({ frames := 0, cells := 0, slots := 0, locals := 0 } : Room) #[(.ref b), (.int (2 : Int32))] h0 (fun v h' => v = some (.int 1) ∧ h' = h0) := by
  refine Wk.Con.intro (plainFor_of_name pn0) O0 (fun m => ef8 m b) ?_
  intro W C
  replace C : Wk.Cx Z W "java/lang/StringUTF16" "coderFromArrayLen" jdk_52_method_15_code 2 (some .byte) := C
  refine Wk.iloadN (pc' := 1) C d_jdk_52m15_0 rfl rfl ?_
  refine Wk.aloadN (pc' := 2) C d_jdk_52m15_1 rfl rfl rfl ?_
  refine Wk.alen (pc' := 3) C d_jdk_52m15_2 VB (z := (4 : Int32)) rfl rfl ?_
  refine Wk.isub (pc' := 4) C d_jdk_52m15_3 (v := (-2 : Int32)) (by decide) rfl ?_
  refine Wk.bipush (pc' := 6) C d_jdk_52m15_4 (v := (31 : Int32)) rfl rfl ?_
  refine Wk.iushr (pc' := 7) C d_jdk_52m15_6 (v := (1 : Int32)) (by decide) rfl ?_
  refine Wk.i2b (pc' := 8) C d_jdk_52m15_7 (v := (1 : Int32)) (by decide) rfl ?_
  exact Wk.retNar (ty := .byte) C (by simp) d_jdk_52m15_8 rfl (by decide) (by decide) ⟨rfl, rfl⟩
set_option maxRecDepth 65536 in
set_option maxHeartbeats 40000000 in
theorem own_i4u2 (l : Launch) {Z : State} {a0 : Array Value} (hw : Ws a0 Z) {h0 : Heap} (O0 : Ext Z.heap h0) (hs : Sets Z) (us : U16s Z) (x a : Addr) (c0 c1 : Int32) (gx : Z.heap.size ≤ x) (EX : Exa Z h0 x "java/lang/String") (F1 : Fld Z h0 x "java/lang/String" "value" "[B" .null) (F2 : Fld Z h0 x "java/lang/String" "coder" "B" (.int (0 : Int32))) (nax : a ≠ x) (VA : Wk.Ary Z h0 a .char [(.int c0), (.int c1)]) (r0 : ¬ c0 < 0 ∧ ¬ (65535 : Int32) < c0) (r1 : ¬ c1 < 0 ∧ ¬ (65535 : Int32) < c1) (hU : ¬ (¬ (255 : Int32) < c0 ∧ ¬ (255 : Int32) < c1)) :
    Wk.Con l Z (⟨"java/lang/String", "<init>", "([CIILjava/lang/Void;)V"⟩ : MethodName) jdk_42_method_149_code 6 none ({ frames := 4, cells := 2, slots := 6, locals := 64 } : Room) #[(.ref x), (.ref a), (.int (0 : Int32)), (.int (2 : Int32)), .null] h0 (fun v h' => v = none ∧ Keep h0 h' [x] ∧ S16 Z h' x [c0, c1]) := by
  refine Wk.Con.intro (plainFor_of_name pn1) O0 (fun m => ef9 m x a) ?_
  intro W C
  replace C : Wk.Cx Z W "java/lang/String" "<init>" jdk_42_method_149_code 6 none := C
  obtain ⟨zc, fm, SC, hzc, -, -⟩ := hs
  refine Wk.aloadN (pc' := 1) C d_jdk_42m149_0 rfl rfl rfl ?_
  refine Wk.initO (pc' := 4) C d_jdk_42m149_1 (Wn := 0) (w17 hw) (w18 hw) (w19 hw) rfl (by decide) (Nat.le_of_eq rfl) (by decide) rfl ?_
  refine Wk.iloadN (pc' := 5) C d_jdk_42m149_4 rfl rfl ?_
  refine Wk.if_ne C d_jdk_42m149_5 (by decide) (pcT := 27) (by decide) (pc' := 8) rfl (fun q11 => ?_) (fun q => absurd q (by decide))
  refine Wk.getS (pc' := 30) C d_jdk_42m149_27 (w42 hw) Via.refl (SC.ext O0) rfl ?_
  refine Wk.if_eq C d_jdk_42m149_30 (by decide) (pcT := 58) (by decide) (pc' := 33) rfl (fun q => absurd q hzc) (fun q12 => ?_)
  refine Wk.aloadN (pc' := 34) C d_jdk_42m149_33 rfl rfl rfl ?_
  refine Wk.iloadN (pc' := 35) C d_jdk_42m149_34 rfl rfl ?_
  refine Wk.iloadN (pc' := 36) C d_jdk_42m149_35 rfl rfl ?_
  refine Wk.callS (pc' := 39) C d_jdk_42m149_36 (Wk.Con.pays C (Wn := 0) (own_c2u2 l hw O0 us a c0 c1 VA r0 r1 hU) (w60 hw) (w59 hw) (by decide) (by decide)) Wk.cleanC (w57 hw) (w58 hw) (w59 hw) (w60 hw) (by decide) (argsL := [(.ref a), (.int (0 : Int32)), (.int (2 : Int32))]) (st := []) rfl rfl (lenOf pd4 rfl) rfl (Nat.le_of_eq rfl) (k' := 2) rfl (n' := 6) rfl (by decide) (by decide) rfl ?_
  intro r13 h14 Q14 O14
  obtain ⟨b15, rfl, gb15, zb15, E14, V14⟩ := Q14
  refine Wk.astore (pc' := 41) C d_jdk_42m149_39 rfl (Ls' := #[.val (.ref x), .val (.ref a), .val (.int (0 : Int32)), .val (.int (2 : Int32)), .val .null, .val (.ref b15)]) rfl rfl ?_
  refine Wk.aloadN (pc' := 42) C d_jdk_42m149_41 rfl rfl rfl ?_
  refine Wk.aload (pc' := 44) C d_jdk_42m149_42 rfl rfl rfl ?_
  refine Wk.iloadN (pc' := 45) C d_jdk_42m149_44 rfl rfl ?_
  refine Wk.callS (pc' := 48) C d_jdk_42m149_45 (Wk.Con.pays C (Wn := 1) (own_cfa2 l hw O14 b15 c0 c1 V14) (w66 hw) (w59 hw) (by decide) (by decide)) Wk.cleanC (w64 hw) (w65 hw) (w59 hw) (w66 hw) (by decide) (argsL := [(.ref b15), (.int (2 : Int32))]) (st := [(.ref x)]) rfl rfl (lenOf pd6 rfl) rfl (Nat.le_of_eq rfl) (k' := 2) rfl (n' := 6) rfl (by decide) (by decide) rfl ?_
  intro r16 h17 Q17 O17
  obtain ⟨rfl, e18⟩ := Q17
  obtain rfl := e18.symm
  refine Wk.putF (pc' := 51) C d_jdk_42m149_48 (w27 hw) Via.refl (F2.ext E14) (EX.ext E14) (Or.inr ⟨(w23 hw), rfl, rfl⟩) (w7 hw) (ty := .byte) (by decide) (by decide) (by decide) gx rfl ?_
  intro h19 W19 O19
  have F20 := (F2.ext E14).same W19
  refine Wk.aloadN (pc' := 52) C d_jdk_42m149_51 rfl rfl rfl ?_
  refine Wk.aload (pc' := 54) C d_jdk_42m149_52 rfl rfl rfl ?_
  refine Wk.putF (pc' := 57) C d_jdk_42m149_54 (w26 hw) Via.refl ((F1.ext E14).other W19 (Or.inr (slot_ne (Or.inr (w22 hw)) (Or.inr (w23 hw)) (by decide) (t := (.array .byte)) (t' := .byte) (by decide) (by decide)))) ((EX.ext E14).wr W19) (Or.inr ⟨(w22 hw), rfl, rfl⟩) (w7 hw) (ty := (.array .byte)) (by decide) rfl rfl gx rfl ?_
  intro h21 W21 O21
  have F22 := ((F1.ext E14).other W19 (Or.inr (slot_ne (Or.inr (w22 hw)) (Or.inr (w23 hw)) (by decide) (t := (.array .byte)) (t' := .byte) (by decide) (by decide)))).same W21
  exact Wk.retV C d_jdk_42m149_57 (by decide) (by decide) ⟨rfl, ((((Keep.refl _ _).ext E14).wr W19 (Or.inl (List.mem_singleton.mpr rfl))).wr W21 (Or.inl (List.mem_singleton.mpr rfl))), (((EX.ext E14).wr W19).wr W21), (F20.other W21 (Or.inr (slot_ne (Or.inr (w23 hw)) (Or.inr (w22 hw)) (by decide) (t := .byte) (t' := (.array .byte)) (by decide) (by decide)))), ⟨_, F22, ((V14.other W19 (Ne.symm (Nat.ne_of_lt (Nat.lt_of_lt_of_le EX.lt gb15)))).other W21 (Ne.symm (Nat.ne_of_lt (Nat.lt_of_lt_of_le EX.lt gb15))))⟩, (List.forall_mem_cons.mpr ⟨r0, (List.forall_mem_cons.mpr ⟨r1, (fun _ h => nomatch h)⟩)⟩), Nat.le_of_ble_eq_true rfl⟩
set_option maxRecDepth 65536 in
set_option maxHeartbeats 40000000 in
theorem own_i1u2 (l : Launch) {Z : State} {a0 : Array Value} (hw : Ws a0 Z) {h0 : Heap} (O0 : Ext Z.heap h0) (hs : Sets Z) (us : U16s Z) (x a : Addr) (c0 c1 : Int32) (gx : Z.heap.size ≤ x) (EX : Exa Z h0 x "java/lang/String") (F1 : Fld Z h0 x "java/lang/String" "value" "[B" .null) (F2 : Fld Z h0 x "java/lang/String" "coder" "B" (.int (0 : Int32))) (nax : a ≠ x) (VA : Wk.Ary Z h0 a .char [(.int c0), (.int c1)]) (r0 : ¬ c0 < 0 ∧ ¬ (65535 : Int32) < c0) (r1 : ¬ c1 < 0 ∧ ¬ (65535 : Int32) < c1) (hU : ¬ (¬ (255 : Int32) < c0 ∧ ¬ (255 : Int32) < c1)) :
    Wk.Con l Z (⟨"java/lang/String", "<init>", "([C)V"⟩ : MethodName) jdk_42_method_3_code 2 none ({ frames := 5, cells := 2, slots := 6, locals := 84 } : Room) #[(.ref x), (.ref a)] h0 (fun v h' => v = none ∧ Keep h0 h' [x] ∧ S16 Z h' x [c0, c1]) := by
  refine Wk.Con.intro (plainFor_of_name pn1) O0 (fun m => ef10 m x a) ?_
  intro W C
  replace C : Wk.Cx Z W "java/lang/String" "<init>" jdk_42_method_3_code 2 none := C
  refine Wk.aloadN (pc' := 1) C d_jdk_42m3_0 rfl rfl rfl ?_
  refine Wk.aloadN (pc' := 2) C d_jdk_42m3_1 rfl rfl rfl ?_
  refine Wk.iconst (pc' := 3) C d_jdk_42m3_2 (v := (0 : Int32)) rfl rfl ?_
  refine Wk.aloadN (pc' := 4) C d_jdk_42m3_3 rfl rfl rfl ?_
  refine Wk.alen (pc' := 5) C d_jdk_42m3_4 VA (z := (2 : Int32)) rfl rfl ?_
  refine Wk.aconstNull (pc' := 6) C d_jdk_42m3_5 rfl ?_
  refine Wk.callI (pc' := 9) C d_jdk_42m3_6 (a := x) (Wk.Con.pays C (Wn := 0) (own_i4u2 l hw O0 hs us x a c0 c1 gx EX F1 F2 nax VA r0 r1 hU) (w16 hw) (w8 hw) (by decide) (by decide)) Wk.cleanC rfl (w13 hw) (w14 hw) (w16 hw) (by decide) (argsL := [(.ref a), (.int (0 : Int32)), (.int (2 : Int32)), .null]) (st := []) rfl rfl (lenOf pd7 rfl) rfl (Nat.le_of_eq rfl) (k' := 2) rfl (n' := 6) rfl (by decide) (by decide) rfl ?_
  intro r11 h12 Q12 O12
  obtain ⟨rfl, K12, S12⟩ := Q12
  exact Wk.retV C d_jdk_42m3_9 (by decide) (by decide) ⟨rfl, ((Keep.refl _ _).trans K12 (allS (Or.inl (List.mem_singleton.mpr rfl)) all0)), S12⟩
set_option maxRecDepth 65536 in
set_option maxHeartbeats 40000000 in
theorem own_nbl3 (l : Launch) {Z : State} {a0 : Array Value} (hw : Ws a0 Z) {h0 : Heap} (O0 : Ext Z.heap h0)   :
    Wk.Con l Z (⟨"java/lang/StringUTF16", "newBytesLength", "(I)I"⟩ : MethodName) jdk_52_method_3_code 1 (some .int) ({ frames := 0, cells := 0, slots := 0, locals := 0 } : Room) #[(.int (3 : Int32))] h0 (fun v h' => v = some (.int 6) ∧ h' = h0) := by
  refine Wk.Con.intro (plainFor_of_name pn0) O0 (fun m => ef11 m) ?_
  intro W C
  replace C : Wk.Cx Z W "java/lang/StringUTF16" "newBytesLength" jdk_52_method_3_code 1 (some .int) := C
  refine Wk.iloadN (pc' := 1) C d_jdk_52m3_0 rfl rfl ?_
  refine Wk.if_ge C d_jdk_52m3_1 (by decide) (pcT := 12) (by decide) (pc' := 4) rfl (fun q11 => ?_) (fun q => absurd q (by decide))
  refine Wk.iloadN (pc' := 13) C d_jdk_52m3_12 rfl rfl ?_
  refine Wk.ldcI (pc' := 15) C d_jdk_52m3_13 (w76 hw) rfl ?_
  refine Wk.icmp_lt C d_jdk_52m3_15 (by decide) (pcT := 55) (by decide) (pc' := 18) rfl (fun q12 => ?_) (fun q => absurd q (by decide))
  refine Wk.iloadN (pc' := 56) C d_jdk_52m3_55 rfl rfl ?_
  refine Wk.iconst (pc' := 57) C d_jdk_52m3_56 (v := (1 : Int32)) rfl rfl ?_
  refine Wk.ishl (pc' := 58) C d_jdk_52m3_57 (v := (6 : Int32)) (by decide) rfl ?_
  exact Wk.retI C d_jdk_52m3_58 (by decide) (by decide) ⟨rfl, rfl⟩
set_option maxRecDepth 65536 in
set_option maxHeartbeats 40000000 in
theorem own_nbf3 (l : Launch) {Z : State} {a0 : Array Value} (hw : Ws a0 Z) {h0 : Heap} (O0 : Ext Z.heap h0)   :
    Wk.Con l Z (⟨"java/lang/StringUTF16", "newBytesFor", "(I)[B"⟩ : MethodName) jdk_52_method_2_code 1 (some (.array .byte)) ({ frames := 1, cells := 1, slots := 6, locals := 12 } : Room) #[(.int (3 : Int32))] h0 (fun v h' => ∃ b : Addr, v = some (.ref b) ∧ b = h0.size ∧ Z.heap.size ≤ b ∧ Ext h0 h' ∧ Wk.Ary Z h' b .byte [(.int (0 : Int32)), (.int (0 : Int32)), (.int (0 : Int32)), (.int (0 : Int32)), (.int (0 : Int32)), (.int (0 : Int32))]) := by
  refine Wk.Con.intro (plainFor_of_name pn0) O0 (fun m => ef12 m) ?_
  intro W C
  replace C : Wk.Cx Z W "java/lang/StringUTF16" "newBytesFor" jdk_52_method_2_code 1 (some (.array .byte)) := C
  refine Wk.iloadN (pc' := 1) C d_jdk_52m2_0 rfl rfl ?_
  refine Wk.callS (pc' := 4) C d_jdk_52m2_1 (Wk.Con.pays C (Wn := 0) (own_nbl3 l hw O0) (w75 hw) (w59 hw) (by decide) (by decide)) Wk.cleanC (w73 hw) (w74 hw) (w59 hw) (w75 hw) (by decide) (argsL := [(.int (3 : Int32))]) (st := []) rfl rfl (lenOf pd0 rfl) rfl (Nat.le_of_eq rfl) (k' := 0) rfl (n' := 0) rfl (by decide) (by decide) rfl ?_
  intro r11 h12 Q12 O12
  obtain ⟨rfl, e13⟩ := Q12
  obtain rfl := e13.symm
  refine Wk.newA (pc' := 6) C d_jdk_52m2_4 (ty := .byte) rfl (w21 hw) (by decide) (cap := 6) (by decide) (by decide) (k' := 1) rfl (n' := 6) rfl (by decide) (by decide) rfl rfl ?_
  intro a14 h15 ga14 za14 E15 Va14 O15
  have V16 : Wk.Ary Z h15 a14 .byte [(.int (0 : Int32)), (.int (0 : Int32)), (.int (0 : Int32)), (.int (0 : Int32)), (.int (0 : Int32)), (.int (0 : Int32))] := Va14
  exact Wk.retA C rfl rfl d_jdk_52m2_6 (by decide) (by decide) ⟨_, rfl, ga14, za14, E15, V16⟩
set_option maxRecDepth 65536 in
set_option maxHeartbeats 40000000 in
theorem own_tb3 (l : Launch) {Z : State} {a0 : Array Value} (hw : Ws a0 Z) {h0 : Heap} (O0 : Ext Z.heap h0) (us : U16s Z) (a : Addr) (c0 c1 c2 : Int32) (VA : Wk.Ary Z h0 a .char [(.int c0), (.int c1), (.int c2)]) :
    Wk.Con l Z (⟨"java/lang/StringUTF16", "toBytes", "([CII)[B"⟩ : MethodName) jdk_52_method_14_code 5 (some (.array .byte)) ({ frames := 2, cells := 1, slots := 6, locals := 26 } : Room) #[(.ref a), (.int (0 : Int32)), (.int (3 : Int32))] h0 (fun v h' => ∃ b : Addr, v = some (.ref b) ∧ b = h0.size ∧ Z.heap.size ≤ b ∧ Ext h0 h' ∧ Wk.Ary Z h' b .byte [(.int ((c0 >>> ((0 : Int32) &&& 31)).toInt8.toInt32)), (.int ((c0 >>> ((8 : Int32) &&& 31)).toInt8.toInt32)), (.int ((c1 >>> ((0 : Int32) &&& 31)).toInt8.toInt32)), (.int ((c1 >>> ((8 : Int32) &&& 31)).toInt8.toInt32)), (.int ((c2 >>> ((0 : Int32) &&& 31)).toInt8.toInt32)), (.int ((c2 >>> ((8 : Int32) &&& 31)).toInt8.toInt32))]) := by
  refine Wk.Con.intro (plainFor_of_name pn0) O0 (fun m => ef13 m a) ?_
  intro W C
  replace C : Wk.Cx Z W "java/lang/StringUTF16" "toBytes" jdk_52_method_14_code 5 (some (.array .byte)) := C
  refine Wk.iloadN (pc' := 1) C d_jdk_52m14_0 rfl rfl ?_
  refine Wk.callS (pc' := 4) C d_jdk_52m14_1 (Wk.Con.pays C (Wn := 0) (own_nbf3 l hw O0) (w72 hw) (w59 hw) (by decide) (by decide)) Wk.cleanC (w70 hw) (w71 hw) (w59 hw) (w72 hw) (by decide) (argsL := [(.int (3 : Int32))]) (st := []) rfl rfl (lenOf pd1 rfl) rfl (Nat.le_of_eq rfl) (k' := 1) rfl (n' := 6) rfl (by decide) (by decide) rfl ?_
  intro r11 h12 Q12 O12
  obtain ⟨b13, rfl, gb13, zb13, E12, V12⟩ := Q12
  refine Wk.astoreN (pc' := 5) C d_jdk_52m14_4 rfl (Ls' := #[.val (.ref a), .val (.int (0 : Int32)), .val (.int (3 : Int32)), .val (.ref b13), .unset]) rfl rfl ?_
  refine Wk.iconst (pc' := 6) C d_jdk_52m14_5 (v := (0 : Int32)) rfl rfl ?_
  refine Wk.istore (pc' := 8) C d_jdk_52m14_6 (Ls' := #[.val (.ref a), .val (.int (0 : Int32)), .val (.int (3 : Int32)), .val (.ref b13), .val (.int (0 : Int32))]) rfl rfl ?_
  refine Wk.iload (pc' := 10) C d_jdk_52m14_8 rfl rfl ?_
  refine Wk.iloadN (pc' := 11) C d_jdk_52m14_10 rfl rfl ?_
  refine Wk.icmp_ge C d_jdk_52m14_11 (by decide) (pcT := 32) (by decide) (pc' := 14) rfl (fun q => absurd q (by decide)) (fun q14 => ?_)
  refine Wk.aloadN (pc' := 15) C d_jdk_52m14_14 rfl rfl rfl ?_
  refine Wk.iload (pc' := 17) C d_jdk_52m14_15 rfl rfl ?_
  refine Wk.aloadN (pc' := 18) C d_jdk_52m14_17 rfl rfl rfl ?_
  refine Wk.iloadN (pc' := 19) C d_jdk_52m14_18 rfl rfl ?_
  refine Wk.caload (pc' := 20) C d_jdk_52m14_19 (VA.ext E12) (by decide) (v := (.int c0)) rfl rfl ?_
  refine Wk.callS (pc' := 23) C d_jdk_52m14_20 (Wk.Con.pays C (Wn := 0) (own_put16 l hw O12 us b13 [(.int (0 : Int32)), (.int (0 : Int32)), (.int (0 : Int32)), (.int (0 : Int32)), (.int (0 : Int32)), (.int (0 : Int32))] 0 c0 zb13 V12 (Nat.le_of_ble_eq_true rfl) (show _ < _ from Nat.le_of_ble_eq_true rfl)) (w79 hw) (w59 hw) (by decide) (by decide)) Wk.cleanC (w77 hw) (w78 hw) (w59 hw) (w79 hw) (by decide) (argsL := [(.ref b13), (.int (0 : Int32)), (.int c0)]) (st := []) rfl rfl (lenOf pd2 rfl) rfl (Nat.le_of_eq rfl) (k' := 1) rfl (n' := 6) rfl (by decide) (by decide) rfl ?_
  intro r15 h16 Q16 O16
  obtain ⟨rfl, K16, V16⟩ := Q16
  replace V16 : Wk.Ary Z h16 b13 .byte [(.int ((c0 >>> ((0 : Int32) &&& 31)).toInt8.toInt32)), (.int ((c0 >>> ((8 : Int32) &&& 31)).toInt8.toInt32)), (.int (0 : Int32)), (.int (0 : Int32)), (.int (0 : Int32)), (.int (0 : Int32))] := V16
  refine Wk.iinc (pc' := 26) C d_jdk_52m14_23 rfl (v := (1 : Int32)) (by decide) (Ls' := #[.val (.ref a), .val (.int (1 : Int32)), .val (.int (3 : Int32)), .val (.ref b13), .val (.int (0 : Int32))]) rfl rfl ?_
  refine Wk.iinc (pc' := 29) C d_jdk_52m14_26 rfl (v := (1 : Int32)) (by decide) (Ls' := #[.val (.ref a), .val (.int (1 : Int32)), .val (.int (3 : Int32)), .val (.ref b13), .val (.int (1 : Int32))]) rfl rfl ?_
  refine Wk.goto C d_jdk_52m14_29 (by decide) (pc' := 8) (by decide) ?_
  refine Wk.iload (pc' := 10) C d_jdk_52m14_8 rfl rfl ?_
  refine Wk.iloadN (pc' := 11) C d_jdk_52m14_10 rfl rfl ?_
  refine Wk.icmp_ge C d_jdk_52m14_11 (by decide) (pcT := 32) (by decide) (pc' := 14) rfl (fun q => absurd q (by decide)) (fun q17 => ?_)
  refine Wk.aloadN (pc' := 15) C d_jdk_52m14_14 rfl rfl rfl ?_
  refine Wk.iload (pc' := 17) C d_jdk_52m14_15 rfl rfl ?_
  refine Wk.aloadN (pc' := 18) C d_jdk_52m14_17 rfl rfl rfl ?_
  refine Wk.iloadN (pc' := 19) C d_jdk_52m14_18 rfl rfl ?_
  have X18 : Ext h0 h16 := Wk.Ext.keep1 (Z := Z) E12 K16 (Nat.le_of_eq gb13.symm)
  refine Wk.caload (pc' := 20) C d_jdk_52m14_19 (VA.ext X18) (by decide) (v := (.int c1)) rfl rfl ?_
  refine Wk.callS (pc' := 23) C d_jdk_52m14_20 (Wk.Con.pays C (Wn := 0) (own_put16 l hw O16 us b13 [(.int ((c0 >>> ((0 : Int32) &&& 31)).toInt8.toInt32)), (.int ((c0 >>> ((8 : Int32) &&& 31)).toInt8.toInt32)), (.int (0 : Int32)), (.int (0 : Int32)), (.int (0 : Int32)), (.int (0 : Int32))] 1 c1 zb13 V16 (Nat.le_of_ble_eq_true rfl) (show _ < _ from Nat.le_of_ble_eq_true rfl)) (w79 hw) (w59 hw) (by decide) (by decide)) Wk.cleanC (w77 hw) (w78 hw) (w59 hw) (w79 hw) (by decide) (argsL := [(.ref b13), (.int (1 : Int32)), (.int c1)]) (st := []) rfl rfl (lenOf pd2 rfl) rfl (Nat.le_of_eq rfl) (k' := 1) rfl (n' := 6) rfl (by decide) (by decide) rfl ?_
  intro r19 h20 Q20 O20
  obtain ⟨rfl, K20, V20⟩ := Q20
  replace V20 : Wk.Ary Z h20 b13 .byte [(.int ((c0 >>> ((0 : Int32) &&& 31)).toInt8.toInt32)), (.int ((c0 >>> ((8 : Int32) &&& 31)).toInt8.toInt32)), (.int ((c1 >>> ((0 : Int32) &&& 31)).toInt8.toInt32)), (.int ((c1 >>> ((8 : Int32) &&& 31)).toInt8.toInt32)), (.int (0 : Int32)), (.int (0 : Int32))] := V20
  refine Wk.iinc (pc' := 26) C d_jdk_52m14_23 rfl (v := (2 : Int32)) (by decide) (Ls' := #[.val (.ref a), .val (.int (2 : Int32)), .val (.int (3 : Int32)), .val (.ref b13), .val (.int (1 : Int32))]) rfl rfl ?_
  refine Wk.iinc (pc' := 29) C d_jdk_52m14_26 rfl (v := (2 : Int32)) (by decide) (Ls' := #[.val (.ref a), .val (.int (2 : Int32)), .val (.int (3 : Int32)), .val (.ref b13), .val (.int (2 : Int32))]) rfl rfl ?_
  refine Wk.goto C d_jdk_52m14_29 (by decide) (pc' := 8) (by decide) ?_
  refine Wk.iload (pc' := 10) C d_jdk_52m14_8 rfl rfl ?_
  refine Wk.iloadN (pc' := 11) C d_jdk_52m14_10 rfl rfl ?_
  refine Wk.icmp_ge C d_jdk_52m14_11 (by decide) (pcT := 32) (by decide) (pc' := 14) rfl (fun q => absurd q (by decide)) (fun q21 => ?_)
  refine Wk.aloadN (pc' := 15) C d_jdk_52m14_14 rfl rfl rfl ?_
  refine Wk.iload (pc' := 17) C d_jdk_52m14_15 rfl rfl ?_
  refine Wk.aloadN (pc' := 18) C d_jdk_52m14_17 rfl rfl rfl ?_
  refine Wk.iloadN (pc' := 19) C d_jdk_52m14_18 rfl rfl ?_
  have X22 : Ext h0 h20 := Wk.Ext.keep1 (Z := Z) X18 K20 (Nat.le_of_eq gb13.symm)
  refine Wk.caload (pc' := 20) C d_jdk_52m14_19 (VA.ext X22) (by decide) (v := (.int c2)) rfl rfl ?_
  refine Wk.callS (pc' := 23) C d_jdk_52m14_20 (Wk.Con.pays C (Wn := 0) (own_put16 l hw O20 us b13 [(.int ((c0 >>> ((0 : Int32) &&& 31)).toInt8.toInt32)), (.int ((c0 >>> ((8 : Int32) &&& 31)).toInt8.toInt32)), (.int ((c1 >>> ((0 : Int32) &&& 31)).toInt8.toInt32)), (.int ((c1 >>> ((8 : Int32) &&& 31)).toInt8.toInt32)), (.int (0 : Int32)), (.int (0 : Int32))] 2 c2 zb13 V20 (Nat.le_of_ble_eq_true rfl) (show _ < _ from Nat.le_of_ble_eq_true rfl)) (w79 hw) (w59 hw) (by decide) (by decide)) Wk.cleanC (w77 hw) (w78 hw) (w59 hw) (w79 hw) (by decide) (argsL := [(.ref b13), (.int (2 : Int32)), (.int c2)]) (st := []) rfl rfl (lenOf pd2 rfl) rfl (Nat.le_of_eq rfl) (k' := 1) rfl (n' := 6) rfl (by decide) (by decide) rfl ?_
  intro r23 h24 Q24 O24
  obtain ⟨rfl, K24, V24⟩ := Q24
  replace V24 : Wk.Ary Z h24 b13 .byte [(.int ((c0 >>> ((0 : Int32) &&& 31)).toInt8.toInt32)), (.int ((c0 >>> ((8 : Int32) &&& 31)).toInt8.toInt32)), (.int ((c1 >>> ((0 : Int32) &&& 31)).toInt8.toInt32)), (.int ((c1 >>> ((8 : Int32) &&& 31)).toInt8.toInt32)), (.int ((c2 >>> ((0 : Int32) &&& 31)).toInt8.toInt32)), (.int ((c2 >>> ((8 : Int32) &&& 31)).toInt8.toInt32))] := V24
  refine Wk.iinc (pc' := 26) C d_jdk_52m14_23 rfl (v := (3 : Int32)) (by decide) (Ls' := #[.val (.ref a), .val (.int (3 : Int32)), .val (.int (3 : Int32)), .val (.ref b13), .val (.int (2 : Int32))]) rfl rfl ?_
  refine Wk.iinc (pc' := 29) C d_jdk_52m14_26 rfl (v := (3 : Int32)) (by decide) (Ls' := #[.val (.ref a), .val (.int (3 : Int32)), .val (.int (3 : Int32)), .val (.ref b13), .val (.int (3 : Int32))]) rfl rfl ?_
  refine Wk.goto C d_jdk_52m14_29 (by decide) (pc' := 8) (by decide) ?_
  refine Wk.iload (pc' := 10) C d_jdk_52m14_8 rfl rfl ?_
  refine Wk.iloadN (pc' := 11) C d_jdk_52m14_10 rfl rfl ?_
  refine Wk.icmp_ge C d_jdk_52m14_11 (by decide) (pcT := 32) (by decide) (pc' := 14) rfl (fun q25 => ?_) (fun q => absurd q (by decide))
  refine Wk.aloadN (pc' := 33) C d_jdk_52m14_32 rfl rfl rfl ?_
  have X26 : Ext h0 h24 := Wk.Ext.keep1 (Z := Z) X22 K24 (Nat.le_of_eq gb13.symm)
  exact Wk.retA C rfl rfl d_jdk_52m14_33 (by decide) (by decide) ⟨_, rfl, gb13, zb13, X26, V24⟩
set_option maxRecDepth 65536 in
set_option maxHeartbeats 40000000 in
theorem own_c5u3 (l : Launch) {Z : State} {a0 : Array Value} (hw : Ws a0 Z) {h0 : Heap} (O0 : Ext Z.heap h0) (a b : Addr) (c0 c1 c2 : Int32) (VA : Wk.Ary Z h0 a .char [(.int c0), (.int c1), (.int c2)]) (gb : Z.heap.size ≤ b) (VB : Wk.Ary Z h0 b .byte [(.int (0 : Int32)), (.int (0 : Int32)), (.int (0 : Int32))]) (nab : a ≠ b) (hU : ¬ (¬ (255 : Int32) < c0 ∧ ¬ (255 : Int32) < c1 ∧ ¬ (255 : Int32) < c2)) :
    Wk.Con l Z (⟨"java/lang/StringUTF16", "compress", "([CI[BII)I"⟩ : MethodName) jdk_52_method_21_code 7 (some .int) ({ frames := 0, cells := 0, slots := 0, locals := 0 } : Room) #[(.ref a), (.int (0 : Int32)), (.ref b), (.int (0 : Int32)), (.int (3 : Int32))] h0 (fun v h' => ∃ k : Int32, v = some (.int k) ∧ ((k = 0 ∧ (255 : Int32) < c0) ∨ (k = 1 ∧ (255 : Int32) < c1) ∨ (k = 2 ∧ (255 : Int32) < c2)) ∧ Keep h0 h' [b]) := by
  refine Wk.Con.intro (plainFor_of_name pn0) O0 (fun m => ef14 m a b) ?_
  intro W C
  replace C : Wk.Cx Z W "java/lang/StringUTF16" "compress" jdk_52_method_21_code 7 (some .int) := C
  refine Wk.iconst (pc' := 1) C d_jdk_52m21_0 (v := (0 : Int32)) rfl rfl ?_
  refine Wk.istore (pc' := 3) C d_jdk_52m21_1 (Ls' := #[.val (.ref a), .val (.int (0 : Int32)), .val (.ref b), .val (.int (0 : Int32)), .val (.int (3 : Int32)), .val (.int (0 : Int32)), .unset]) rfl rfl ?_
  refine Wk.iload (pc' := 5) C d_jdk_52m21_3 rfl rfl ?_
  refine Wk.iload (pc' := 7) C d_jdk_52m21_5 rfl rfl ?_
  refine Wk.icmp_ge C d_jdk_52m21_7 (by decide) (pcT := 44) (by decide) (pc' := 10) rfl (fun q => absurd q (by decide)) (fun q11 => ?_)
  refine Wk.aloadN (pc' := 11) C d_jdk_52m21_10 rfl rfl rfl ?_
  refine Wk.iloadN (pc' := 12) C d_jdk_52m21_11 rfl rfl ?_
  refine Wk.caload (pc' := 13) C d_jdk_52m21_12 VA (by decide) (v := (.int c0)) rfl rfl ?_
  refine Wk.istore (pc' := 15) C d_jdk_52m21_13 (Ls' := #[.val (.ref a), .val (.int (0 : Int32)), .val (.ref b), .val (.int (0 : Int32)), .val (.int (3 : Int32)), .val (.int (0 : Int32)), .val (.int c0)]) rfl rfl ?_
  refine Wk.iload (pc' := 17) C d_jdk_52m21_15 rfl rfl ?_
  refine Wk.sipush (pc' := 20) C d_jdk_52m21_17 (v := (255 : Int32)) rfl rfl ?_
  refine Wk.icmp_le C d_jdk_52m21_20 (by decide) (pcT := 26) (by decide) (pc' := 23) rfl (fun q12 => ?_) (fun q12 => ?_)
  · -- pc 20: taken
    refine Wk.aloadN (pc' := 27) C d_jdk_52m21_26 rfl rfl rfl ?_
    refine Wk.iloadN (pc' := 28) C d_jdk_52m21_27 rfl rfl ?_
    refine Wk.iload (pc' := 30) C d_jdk_52m21_28 rfl rfl ?_
    obtain ⟨v13, hv13⟩ : ∃ z : Int32, c0.toInt8.toInt32 = z := ⟨_, rfl⟩
    refine Wk.i2b (pc' := 31) C d_jdk_52m21_30 hv13 rfl ?_
    refine Wk.bastore (pc' := 32) C d_jdk_52m21_31 VB (by decide) (show _ < _ from Nat.le_of_ble_eq_true rfl) (vs' := [(.int v13), (.int (0 : Int32)), (.int (0 : Int32))]) (by rw [Wk.nar_i2b hv13]; rfl) gb rfl ?_
    intro h14 W14 V14 O14
    refine Wk.iinc (pc' := 35) C d_jdk_52m21_32 rfl (v := (1 : Int32)) (by decide) (Ls' := #[.val (.ref a), .val (.int (1 : Int32)), .val (.ref b), .val (.int (0 : Int32)), .val (.int (3 : Int32)), .val (.int (0 : Int32)), .val (.int c0)]) rfl rfl ?_
    refine Wk.iinc (pc' := 38) C d_jdk_52m21_35 rfl (v := (1 : Int32)) (by decide) (Ls' := #[.val (.ref a), .val (.int (1 : Int32)), .val (.ref b), .val (.int (1 : Int32)), .val (.int (3 : Int32)), .val (.int (0 : Int32)), .val (.int c0)]) rfl rfl ?_
    refine Wk.iinc (pc' := 41) C d_jdk_52m21_38 rfl (v := (1 : Int32)) (by decide) (Ls' := #[.val (.ref a), .val (.int (1 : Int32)), .val (.ref b), .val (.int (1 : Int32)), .val (.int (3 : Int32)), .val (.int (1 : Int32)), .val (.int c0)]) rfl rfl ?_
    refine Wk.goto C d_jdk_52m21_41 (by decide) (pc' := 3) (by decide) ?_
    refine Wk.iload (pc' := 5) C d_jdk_52m21_3 rfl rfl ?_
    refine Wk.iload (pc' := 7) C d_jdk_52m21_5 rfl rfl ?_
    refine Wk.icmp_ge C d_jdk_52m21_7 (by decide) (pcT := 44) (by decide) (pc' := 10) rfl (fun q => absurd q (by decide)) (fun q15 => ?_)
    refine Wk.aloadN (pc' := 11) C d_jdk_52m21_10 rfl rfl rfl ?_
    refine Wk.iloadN (pc' := 12) C d_jdk_52m21_11 rfl rfl ?_
    refine Wk.caload (pc' := 13) C d_jdk_52m21_12 (VA.other W14 nab) (by decide) (v := (.int c1)) rfl rfl ?_
    refine Wk.istore (pc' := 15) C d_jdk_52m21_13 (Ls' := #[.val (.ref a), .val (.int (1 : Int32)), .val (.ref b), .val (.int (1 : Int32)), .val (.int (3 : Int32)), .val (.int (1 : Int32)), .val (.int c1)]) rfl rfl ?_
    refine Wk.iload (pc' := 17) C d_jdk_52m21_15 rfl rfl ?_
    refine Wk.sipush (pc' := 20) C d_jdk_52m21_17 (v := (255 : Int32)) rfl rfl ?_
    refine Wk.icmp_le C d_jdk_52m21_20 (by decide) (pcT := 26) (by decide) (pc' := 23) rfl (fun q16 => ?_) (fun q16 => ?_)
    · -- pc 20: taken
      refine Wk.aloadN (pc' := 27) C d_jdk_52m21_26 rfl rfl rfl ?_
      refine Wk.iloadN (pc' := 28) C d_jdk_52m21_27 rfl rfl ?_
      refine Wk.iload (pc' := 30) C d_jdk_52m21_28 rfl rfl ?_
      obtain ⟨v17, hv17⟩ : ∃ z : Int32, c1.toInt8.toInt32 = z := ⟨_, rfl⟩
      refine Wk.i2b (pc' := 31) C d_jdk_52m21_30 hv17 rfl ?_
      refine Wk.bastore (pc' := 32) C d_jdk_52m21_31 V14 (by decide) (show _ < _ from Nat.le_of_ble_eq_true rfl) (vs' := [(.int v13), (.int v17), (.int (0 : Int32))]) (by rw [Wk.nar_i2b hv17]; rfl) gb rfl ?_
      intro h18 W18 V18 O18
      refine Wk.iinc (pc' := 35) C d_jdk_52m21_32 rfl (v := (2 : Int32)) (by decide) (Ls' := #[.val (.ref a), .val (.int (2 : Int32)), .val (.ref b), .val (.int (1 : Int32)), .val (.int (3 : Int32)), .val (.int (1 : Int32)), .val (.int c1)]) rfl rfl ?_
      refine Wk.iinc (pc' := 38) C d_jdk_52m21_35 rfl (v := (2 : Int32)) (by decide) (Ls' := #[.val (.ref a), .val (.int (2 : Int32)), .val (.ref b), .val (.int (2 : Int32)), .val (.int (3 : Int32)), .val (.int (1 : Int32)), .val (.int c1)]) rfl rfl ?_
      refine Wk.iinc (pc' := 41) C d_jdk_52m21_38 rfl (v := (2 : Int32)) (by decide) (Ls' := #[.val (.ref a), .val (.int (2 : Int32)), .val (.ref b), .val (.int (2 : Int32)), .val (.int (3 : Int32)), .val (.int (2 : Int32)), .val (.int c1)]) rfl rfl ?_
      refine Wk.goto C d_jdk_52m21_41 (by decide) (pc' := 3) (by decide) ?_
      refine Wk.iload (pc' := 5) C d_jdk_52m21_3 rfl rfl ?_
      refine Wk.iload (pc' := 7) C d_jdk_52m21_5 rfl rfl ?_
      refine Wk.icmp_ge C d_jdk_52m21_7 (by decide) (pcT := 44) (by decide) (pc' := 10) rfl (fun q => absurd q (by decide)) (fun q19 => ?_)
      refine Wk.aloadN (pc' := 11) C d_jdk_52m21_10 rfl rfl rfl ?_
      refine Wk.iloadN (pc' := 12) C d_jdk_52m21_11 rfl rfl ?_
      refine Wk.caload (pc' := 13) C d_jdk_52m21_12 ((VA.other W14 nab).other W18 nab) (by decide) (v := (.int c2)) rfl rfl ?_
      refine Wk.istore (pc' := 15) C d_jdk_52m21_13 (Ls' := #[.val (.ref a), .val (.int (2 : Int32)), .val (.ref b), .val (.int (2 : Int32)), .val (.int (3 : Int32)), .val (.int (2 : Int32)), .val (.int c2)]) rfl rfl ?_
      refine Wk.iload (pc' := 17) C d_jdk_52m21_15 rfl rfl ?_
      refine Wk.sipush (pc' := 20) C d_jdk_52m21_17 (v := (255 : Int32)) rfl rfl ?_
      refine Wk.icmp_le C d_jdk_52m21_20 (by decide) (pcT := 26) (by decide) (pc' := 23) rfl (fun q20 => ?_) (fun q20 => ?_)
      · -- pc 20: taken
        refine Wk.aloadN (pc' := 27) C d_jdk_52m21_26 rfl rfl rfl ?_
        refine Wk.iloadN (pc' := 28) C d_jdk_52m21_27 rfl rfl ?_
        refine Wk.iload (pc' := 30) C d_jdk_52m21_28 rfl rfl ?_
        obtain ⟨v21, hv21⟩ : ∃ z : Int32, c2.toInt8.toInt32 = z := ⟨_, rfl⟩
        refine Wk.i2b (pc' := 31) C d_jdk_52m21_30 hv21 rfl ?_
        refine Wk.bastore (pc' := 32) C d_jdk_52m21_31 V18 (by decide) (show _ < _ from Nat.le_of_ble_eq_true rfl) (vs' := [(.int v13), (.int v17), (.int v21)]) (by rw [Wk.nar_i2b hv21]; rfl) gb rfl ?_
        intro h22 W22 V22 O22
        refine Wk.iinc (pc' := 35) C d_jdk_52m21_32 rfl (v := (3 : Int32)) (by decide) (Ls' := #[.val (.ref a), .val (.int (3 : Int32)), .val (.ref b), .val (.int (2 : Int32)), .val (.int (3 : Int32)), .val (.int (2 : Int32)), .val (.int c2)]) rfl rfl ?_
        refine Wk.iinc (pc' := 38) C d_jdk_52m21_35 rfl (v := (3 : Int32)) (by decide) (Ls' := #[.val (.ref a), .val (.int (3 : Int32)), .val (.ref b), .val (.int (3 : Int32)), .val (.int (3 : Int32)), .val (.int (2 : Int32)), .val (.int c2)]) rfl rfl ?_
        refine Wk.iinc (pc' := 41) C d_jdk_52m21_38 rfl (v := (3 : Int32)) (by decide) (Ls' := #[.val (.ref a), .val (.int (3 : Int32)), .val (.ref b), .val (.int (3 : Int32)), .val (.int (3 : Int32)), .val (.int (3 : Int32)), .val (.int c2)]) rfl rfl ?_
        refine Wk.goto C d_jdk_52m21_41 (by decide) (pc' := 3) (by decide) ?_
        refine Wk.iload (pc' := 5) C d_jdk_52m21_3 rfl rfl ?_
        refine Wk.iload (pc' := 7) C d_jdk_52m21_5 rfl rfl ?_
        refine Wk.icmp_ge C d_jdk_52m21_7 (by decide) (pcT := 44) (by decide) (pc' := 10) rfl (fun q23 => ?_) (fun q => absurd q (by decide))
        refine Wk.iload (pc' := 46) C d_jdk_52m21_44 rfl rfl ?_
        exact absurd ⟨q12, q16, q20⟩ hU
      · -- pc 20: not taken
        refine Wk.iload (pc' := 25) C d_jdk_52m21_23 rfl rfl ?_
        exact Wk.retI C d_jdk_52m21_25 (by decide) (by decide) ⟨_, rfl, Or.inr (Or.inr (⟨rfl, q20⟩)), (((Keep.refl _ _).wr W14 (Or.inl (List.mem_singleton.mpr rfl))).wr W18 (Or.inl (List.mem_singleton.mpr rfl)))⟩
    · -- pc 20: not taken
      refine Wk.iload (pc' := 25) C d_jdk_52m21_23 rfl rfl ?_
      exact Wk.retI C d_jdk_52m21_25 (by decide) (by decide) ⟨_, rfl, Or.inr (Or.inl ⟨rfl, q16⟩), ((Keep.refl _ _).wr W14 (Or.inl (List.mem_singleton.mpr rfl)))⟩
  · -- pc 20: not taken
    refine Wk.iload (pc' := 25) C d_jdk_52m21_23 rfl rfl ?_
    exact Wk.retI C d_jdk_52m21_25 (by decide) (by decide) ⟨_, rfl, Or.inl ⟨rfl, q12⟩, (Keep.refl _ _)⟩
set_option maxRecDepth 65536 in
set_option maxHeartbeats 40000000 in
theorem own_c2u3 (l : Launch) {Z : State} {a0 : Array Value} (hw : Ws a0 Z) {h0 : Heap} (O0 : Ext Z.heap h0) (us : U16s Z) (a : Addr) (c0 c1 c2 : Int32) (VA : Wk.Ary Z h0 a .char [(.int c0), (.int c1), (.int c2)]) (r0 : ¬ c0 < 0 ∧ ¬ (65535 : Int32) < c0) (r1 : ¬ c1 < 0 ∧ ¬ (65535 : Int32) < c1) (r2 : ¬ c2 < 0 ∧ ¬ (65535 : Int32) < c2) (hU : ¬ (¬ (255 : Int32) < c0 ∧ ¬ (255 : Int32) < c1 ∧ ¬ (255 : Int32) < c2)) :
    Wk.Con l Z (⟨"java/lang/StringUTF16", "compress", "([CII)[B"⟩ : MethodName) jdk_52_method_16_code 6 (some (.array .byte)) ({ frames := 3, cells := 2, slots := 9, locals := 46 } : Room) #[(.ref a), (.int (0 : Int32)), (.int (3 : Int32))] h0 (fun v h' => ∃ b : Addr, v = some (.ref b) ∧ h0.size ≤ b ∧ Z.heap.size ≤ b ∧ Ext h0 h' ∧ Wk.Ary Z h' b .byte [(.int ((c0 >>> ((0 : Int32) &&& 31)).toInt8.toInt32)), (.int ((c0 >>> ((8 : Int32) &&& 31)).toInt8.toInt32)), (.int ((c1 >>> ((0 : Int32) &&& 31)).toInt8.toInt32)), (.int ((c1 >>> ((8 : Int32) &&& 31)).toInt8.toInt32)), (.int ((c2 >>> ((0 : Int32) &&& 31)).toInt8.toInt32)), (.int ((c2 >>> ((8 : Int32) &&& 31)).toInt8.toInt32))]) := by
  refine Wk.Con.intro (plainFor_of_name pn0) O0 (fun m => ef15 m a) ?_
  intro W C
  replace C : Wk.Cx Z W "java/lang/StringUTF16" "compress" jdk_52_method_16_code 6 (some (.array .byte)) := C
  refine Wk.iloadN (pc' := 1) C d_jdk_52m16_0 rfl rfl ?_
  refine Wk.newA (pc' := 3) C d_jdk_52m16_1 (ty := .byte) rfl (w21 hw) (by decide) (cap := 3) (by decide) (by decide) (k' := 1) rfl (n' := 3) rfl (by decide) (by decide) rfl rfl ?_
  intro a11 h12 ga11 za11 E12 Va11 O12
  have V13 : Wk.Ary Z h12 a11 .byte [(.int (0 : Int32)), (.int (0 : Int32)), (.int (0 : Int32))] := Va11
  refine Wk.astoreN (pc' := 4) C d_jdk_52m16_3 rfl (Ls' := #[.val (.ref a), .val (.int (0 : Int32)), .val (.int (3 : Int32)), .val (.ref a11), .unset, .unset]) rfl rfl ?_
  refine Wk.aloadN (pc' := 5) C d_jdk_52m16_4 rfl rfl rfl ?_
  refine Wk.iloadN (pc' := 6) C d_jdk_52m16_5 rfl rfl ?_
  refine Wk.aloadN (pc' := 7) C d_jdk_52m16_6 rfl rfl rfl ?_
  refine Wk.iconst (pc' := 8) C d_jdk_52m16_7 (v := (0 : Int32)) rfl rfl ?_
  refine Wk.iloadN (pc' := 9) C d_jdk_52m16_8 rfl rfl ?_
  refine Wk.callS (pc' := 12) C d_jdk_52m16_9 (Wk.Con.pays C (Wn := 0) (own_c5u3 l hw O12 a a11 c0 c1 c2 (VA.ext E12) za11 V13 (Nat.ne_of_lt (Nat.lt_of_lt_of_le VA.lt (Nat.le_of_eq ga11.symm))) hU) (w63 hw) (w59 hw) (by decide) (by decide)) Wk.cleanC (w61 hw) (w62 hw) (w59 hw) (w63 hw) (by decide) (argsL := [(.ref a), (.int (0 : Int32)), (.ref a11), (.int (0 : Int32)), (.int (3 : Int32))]) (st := []) rfl rfl (lenOf pd3 rfl) rfl (Nat.le_of_eq rfl) (k' := 1) rfl (n' := 3) rfl (by decide) (by decide) rfl ?_
  intro r14 h15 Q15 O15
  obtain ⟨k16, rfl, dk16, K15⟩ := Q15
  rcases dk16 with ⟨rfl, hk⟩ | ⟨rfl, hk⟩ | ⟨rfl, hk⟩
  · -- stops at 0
    refine Wk.istore (pc' := 14) C d_jdk_52m16_12 (Ls' := #[.val (.ref a), .val (.int (0 : Int32)), .val (.int (3 : Int32)), .val (.ref a11), .val (.int (0 : Int32)), .unset]) rfl rfl ?_
    refine Wk.iload (pc' := 16) C d_jdk_52m16_14 rfl rfl ?_
    refine Wk.iloadN (pc' := 17) C d_jdk_52m16_16 rfl rfl ?_
    refine Wk.icmp_eq C d_jdk_52m16_17 (by decide) (pcT := 57) (by decide) (pc' := 20) rfl (fun q => absurd q (by decide)) (fun q17 => ?_)
    refine Wk.aloadN (pc' := 21) C d_jdk_52m16_20 rfl rfl rfl ?_
    refine Wk.iloadN (pc' := 22) C d_jdk_52m16_21 rfl rfl ?_
    refine Wk.iloadN (pc' := 23) C d_jdk_52m16_22 rfl rfl ?_
    have X18 : Ext h0 h15 := Wk.Ext.keep1 (Z := Z) E12 K15 (Nat.le_of_eq ga11.symm)
    refine Wk.callS (pc' := 26) C d_jdk_52m16_23 (Wk.Con.pays C (Wn := 0) (own_tb3 l hw O15 us a c0 c1 c2 (VA.ext X18)) (w69 hw) (w59 hw) (by decide) (by decide)) Wk.cleanC (w67 hw) (w68 hw) (w59 hw) (w69 hw) (by decide) (argsL := [(.ref a), (.int (0 : Int32)), (.int (3 : Int32))]) (st := []) rfl rfl (lenOf pd4 rfl) rfl (Nat.le_of_eq rfl) (k' := 2) rfl (n' := 9) rfl (by decide) (by decide) rfl ?_
    intro r19 h20 Q20 O20
    obtain ⟨b21, rfl, gb21, zb21, E20, V20⟩ := Q20
    refine Wk.astore (pc' := 28) C d_jdk_52m16_26 rfl (Ls' := #[.val (.ref a), .val (.int (0 : Int32)), .val (.int (3 : Int32)), .val (.ref a11), .val (.int (0 : Int32)), .val (.ref b21)]) rfl rfl ?_
    refine Wk.aload (pc' := 30) C d_jdk_52m16_28 rfl rfl rfl ?_
    refine Wk.iload (pc' := 32) C d_jdk_52m16_30 rfl rfl ?_
    refine Wk.callS (pc' := 35) C d_jdk_52m16_32 (Wk.Con.pays C (Wn := 0) (own_get16 l hw O20 us b21 [(.int ((c0 >>> ((0 : Int32) &&& 31)).toInt8.toInt32)), (.int ((c0 >>> ((8 : Int32) &&& 31)).toInt8.toInt32)), (.int ((c1 >>> ((0 : Int32) &&& 31)).toInt8.toInt32)), (.int ((c1 >>> ((8 : Int32) &&& 31)).toInt8.toInt32)), (.int ((c2 >>> ((0 : Int32) &&& 31)).toInt8.toInt32)), (.int ((c2 >>> ((8 : Int32) &&& 31)).toInt8.toInt32))] 0 c0 V20 (Nat.le_of_ble_eq_true rfl) (show _ < _ from Nat.le_of_ble_eq_true rfl) rfl rfl r0) (w85 hw) (w59 hw) (by decide) (by decide)) Wk.cleanC (w83 hw) (w84 hw) (w59 hw) (w85 hw) (by decide) (argsL := [(.ref b21), (.int (0 : Int32))]) (st := []) rfl rfl (lenOf pd5 rfl) rfl (Nat.le_of_eq rfl) (k' := 2) rfl (n' := 9) rfl (by decide) (by decide) rfl ?_
    intro r22 h23 Q23 O23
    obtain ⟨rfl, e24⟩ := Q23
    obtain rfl := e24.symm
    refine Wk.sipush (pc' := 38) C d_jdk_52m16_35 (v := (255 : Int32)) rfl rfl ?_
    refine Wk.icmp_gt C d_jdk_52m16_38 (by decide) (pcT := 54) (by decide) (pc' := 41) rfl (fun q25 => ?_) (fun q => absurd hk q)
    refine Wk.aload (pc' := 56) C d_jdk_52m16_54 rfl rfl rfl ?_
    have X26 : Ext h0 h20 := Wk.Ext.trans X18 E20
    exact Wk.retA C rfl rfl d_jdk_52m16_56 (by decide) (by decide) ⟨_, rfl, (Nat.le_trans X18.1 (Nat.le_of_eq gb21.symm)), zb21, X26, V20⟩
  · -- stops at 1
    refine Wk.istore (pc' := 14) C d_jdk_52m16_12 (Ls' := #[.val (.ref a), .val (.int (0 : Int32)), .val (.int (3 : Int32)), .val (.ref a11), .val (.int (1 : Int32)), .unset]) rfl rfl ?_
    refine Wk.iload (pc' := 16) C d_jdk_52m16_14 rfl rfl ?_
    refine Wk.iloadN (pc' := 17) C d_jdk_52m16_16 rfl rfl ?_
    refine Wk.icmp_eq C d_jdk_52m16_17 (by decide) (pcT := 57) (by decide) (pc' := 20) rfl (fun q => absurd q (by decide)) (fun q27 => ?_)
    refine Wk.aloadN (pc' := 21) C d_jdk_52m16_20 rfl rfl rfl ?_
    refine Wk.iloadN (pc' := 22) C d_jdk_52m16_21 rfl rfl ?_
    refine Wk.iloadN (pc' := 23) C d_jdk_52m16_22 rfl rfl ?_
    have X28 : Ext h0 h15 := Wk.Ext.keep1 (Z := Z) E12 K15 (Nat.le_of_eq ga11.symm)
    refine Wk.callS (pc' := 26) C d_jdk_52m16_23 (Wk.Con.pays C (Wn := 0) (own_tb3 l hw O15 us a c0 c1 c2 (VA.ext X28)) (w69 hw) (w59 hw) (by decide) (by decide)) Wk.cleanC (w67 hw) (w68 hw) (w59 hw) (w69 hw) (by decide) (argsL := [(.ref a), (.int (0 : Int32)), (.int (3 : Int32))]) (st := []) rfl rfl (lenOf pd4 rfl) rfl (Nat.le_of_eq rfl) (k' := 2) rfl (n' := 9) rfl (by decide) (by decide) rfl ?_
    intro r29 h30 Q30 O30
    obtain ⟨b31, rfl, gb31, zb31, E30, V30⟩ := Q30
    refine Wk.astore (pc' := 28) C d_jdk_52m16_26 rfl (Ls' := #[.val (.ref a), .val (.int (0 : Int32)), .val (.int (3 : Int32)), .val (.ref a11), .val (.int (1 : Int32)), .val (.ref b31)]) rfl rfl ?_
    refine Wk.aload (pc' := 30) C d_jdk_52m16_28 rfl rfl rfl ?_
    refine Wk.iload (pc' := 32) C d_jdk_52m16_30 rfl rfl ?_
    refine Wk.callS (pc' := 35) C d_jdk_52m16_32 (Wk.Con.pays C (Wn := 0) (own_get16 l hw O30 us b31 [(.int ((c0 >>> ((0 : Int32) &&& 31)).toInt8.toInt32)), (.int ((c0 >>> ((8 : Int32) &&& 31)).toInt8.toInt32)), (.int ((c1 >>> ((0 : Int32) &&& 31)).toInt8.toInt32)), (.int ((c1 >>> ((8 : Int32) &&& 31)).toInt8.toInt32)), (.int ((c2 >>> ((0 : Int32) &&& 31)).toInt8.toInt32)), (.int ((c2 >>> ((8 : Int32) &&& 31)).toInt8.toInt32))] 1 c1 V30 (Nat.le_of_ble_eq_true rfl) (show _ < _ from Nat.le_of_ble_eq_true rfl) rfl rfl r1) (w85 hw) (w59 hw) (by decide) (by decide)) Wk.cleanC (w83 hw) (w84 hw) (w59 hw) (w85 hw) (by decide) (argsL := [(.ref b31), (.int (1 : Int32))]) (st := []) rfl rfl (lenOf pd5 rfl) rfl (Nat.le_of_eq rfl) (k' := 2) rfl (n' := 9) rfl (by decide) (by decide) rfl ?_
    intro r32 h33 Q33 O33
    obtain ⟨rfl, e34⟩ := Q33
    obtain rfl := e34.symm
    refine Wk.sipush (pc' := 38) C d_jdk_52m16_35 (v := (255 : Int32)) rfl rfl ?_
    refine Wk.icmp_gt C d_jdk_52m16_38 (by decide) (pcT := 54) (by decide) (pc' := 41) rfl (fun q35 => ?_) (fun q => absurd hk q)
    refine Wk.aload (pc' := 56) C d_jdk_52m16_54 rfl rfl rfl ?_
    have X36 : Ext h0 h30 := Wk.Ext.trans X28 E30
    exact Wk.retA C rfl rfl d_jdk_52m16_56 (by decide) (by decide) ⟨_, rfl, (Nat.le_trans X28.1 (Nat.le_of_eq gb31.symm)), zb31, X36, V30⟩
  · -- stops at 2
    refine Wk.istore (pc' := 14) C d_jdk_52m16_12 (Ls' := #[.val (.ref a), .val (.int (0 : Int32)), .val (.int (3 : Int32)), .val (.ref a11), .val (.int (2 : Int32)), .unset]) rfl rfl ?_
    refine Wk.iload (pc' := 16) C d_jdk_52m16_14 rfl rfl ?_
    refine Wk.iloadN (pc' := 17) C d_jdk_52m16_16 rfl rfl ?_
    refine Wk.icmp_eq C d_jdk_52m16_17 (by decide) (pcT := 57) (by decide) (pc' := 20) rfl (fun q => absurd q (by decide)) (fun q37 => ?_)
    refine Wk.aloadN (pc' := 21) C d_jdk_52m16_20 rfl rfl rfl ?_
    refine Wk.iloadN (pc' := 22) C d_jdk_52m16_21 rfl rfl ?_
    refine Wk.iloadN (pc' := 23) C d_jdk_52m16_22 rfl rfl ?_
    have X38 : Ext h0 h15 := Wk.Ext.keep1 (Z := Z) E12 K15 (Nat.le_of_eq ga11.symm)
    refine Wk.callS (pc' := 26) C d_jdk_52m16_23 (Wk.Con.pays C (Wn := 0) (own_tb3 l hw O15 us a c0 c1 c2 (VA.ext X38)) (w69 hw) (w59 hw) (by decide) (by decide)) Wk.cleanC (w67 hw) (w68 hw) (w59 hw) (w69 hw) (by decide) (argsL := [(.ref a), (.int (0 : Int32)), (.int (3 : Int32))]) (st := []) rfl rfl (lenOf pd4 rfl) rfl (Nat.le_of_eq rfl) (k' := 2) rfl (n' := 9) rfl (by decide) (by decide) rfl ?_
    intro r39 h40 Q40 O40
    obtain ⟨b41, rfl, gb41, zb41, E40, V40⟩ := Q40
    refine Wk.astore (pc' := 28) C d_jdk_52m16_26 rfl (Ls' := #[.val (.ref a), .val (.int (0 : Int32)), .val (.int (3 : Int32)), .val (.ref a11), .val (.int (2 : Int32)), .val (.ref b41)]) rfl rfl ?_
    refine Wk.aload (pc' := 30) C d_jdk_52m16_28 rfl rfl rfl ?_
    refine Wk.iload (pc' := 32) C d_jdk_52m16_30 rfl rfl ?_
    refine Wk.callS (pc' := 35) C d_jdk_52m16_32 (Wk.Con.pays C (Wn := 0) (own_get16 l hw O40 us b41 [(.int ((c0 >>> ((0 : Int32) &&& 31)).toInt8.toInt32)), (.int ((c0 >>> ((8 : Int32) &&& 31)).toInt8.toInt32)), (.int ((c1 >>> ((0 : Int32) &&& 31)).toInt8.toInt32)), (.int ((c1 >>> ((8 : Int32) &&& 31)).toInt8.toInt32)), (.int ((c2 >>> ((0 : Int32) &&& 31)).toInt8.toInt32)), (.int ((c2 >>> ((8 : Int32) &&& 31)).toInt8.toInt32))] 2 c2 V40 (Nat.le_of_ble_eq_true rfl) (show _ < _ from Nat.le_of_ble_eq_true rfl) rfl rfl r2) (w85 hw) (w59 hw) (by decide) (by decide)) Wk.cleanC (w83 hw) (w84 hw) (w59 hw) (w85 hw) (by decide) (argsL := [(.ref b41), (.int (2 : Int32))]) (st := []) rfl rfl (lenOf pd5 rfl) rfl (Nat.le_of_eq rfl) (k' := 2) rfl (n' := 9) rfl (by decide) (by decide) rfl ?_
    intro r42 h43 Q43 O43
    obtain ⟨rfl, e44⟩ := Q43
    obtain rfl := e44.symm
    refine Wk.sipush (pc' := 38) C d_jdk_52m16_35 (v := (255 : Int32)) rfl rfl ?_
    refine Wk.icmp_gt C d_jdk_52m16_38 (by decide) (pcT := 54) (by decide) (pc' := 41) rfl (fun q45 => ?_) (fun q => absurd hk q)
    refine Wk.aload (pc' := 56) C d_jdk_52m16_54 rfl rfl rfl ?_
    have X46 : Ext h0 h40 := Wk.Ext.trans X38 E40
    exact Wk.retA C rfl rfl d_jdk_52m16_56 (by decide) (by decide) ⟨_, rfl, (Nat.le_trans X38.1 (Nat.le_of_eq gb41.symm)), zb41, X46, V40⟩
set_option maxRecDepth 65536 in
set_option maxHeartbeats 40000000 in
theorem own_cfa3 (l : Launch) {Z : State} {a0 : Array Value} (hw : Ws a0 Z) {h0 : Heap} (O0 : Ext Z.heap h0) (b : Addr) (c0 c1 c2 : Int32) (VB : Wk.Ary Z h0 b .byte [(.int ((c0 >>> ((0 : Int32) &&& 31)).toInt8.toInt32)), (.int ((c0 >>> ((8 : Int32) &&& 31)).toInt8.toInt32)), (.int ((c1 >>> ((0 : Int32) &&& 31)).toInt8.toInt32)), (.int ((c1 >>> ((8 : Int32) &&& 31)).toInt8.toInt32)), (.int ((c2 >>> ((0 : Int32) &&& 31)).toInt8.toInt32)), (.int ((c2 >>> ((8 : Int32) &&& 31)).toInt8.toInt32))]) :
    Wk.Con l Z (⟨"java/lang/StringUTF16", "coderFromArrayLen", "([BI)B"⟩ : MethodName) jdk_52_method_15_code 2 (some .byte) ({ frames := 0, cells := 0, slots := 0, locals := 0 } : Room) #[(.ref b), (.int (3 : Int32))] h0 (fun v h' => v = some (.int 1) ∧ h' = h0) := by
  refine Wk.Con.intro (plainFor_of_name pn0) O0 (fun m => ef16 m b) ?_
  intro W C
  replace C : Wk.Cx Z W "java/lang/StringUTF16" "coderFromArrayLen" jdk_52_method_15_code 2 (some .byte) := C
  refine Wk.iloadN (pc' := 1) C d_jdk_52m15_0 rfl rfl ?_
  refine Wk.aloadN (pc' := 2) C d_jdk_52m15_1 rfl rfl rfl ?_
  refine Wk.alen (pc' := 3) C d_jdk_52m15_2 VB (z := (6 : Int32)) rfl rfl ?_
  refine Wk.isub (pc' := 4) C d_jdk_52m15_3 (v := (-3 : Int32)) (by decide) rfl ?_
  refine Wk.bipush (pc' := 6) C d_jdk_52m15_4 (v := (31 : Int32)) rfl rfl ?_
  refine Wk.iushr (pc' := 7) C d_jdk_52m15_6 (v := (1 : Int32)) (by decide) rfl ?_
  refine Wk.i2b (pc' := 8) C d_jdk_52m15_7 (v := (1 : Int32)) (by decide) rfl ?_
  exact Wk.retNar (ty := .byte) C (by simp) d_jdk_52m15_8 rfl (by decide) (by decide) ⟨rfl, rfl⟩
set_option maxRecDepth 65536 in
set_option maxHeartbeats 40000000 in
theorem own_i4u3 (l : Launch) {Z : State} {a0 : Array Value} (hw : Ws a0 Z) {h0 : Heap} (O0 : Ext Z.heap h0) (hs : Sets Z) (us : U16s Z) (x a : Addr) (c0 c1 c2 : Int32) (gx : Z.heap.size ≤ x) (EX : Exa Z h0 x "java/lang/String") (F1 : Fld Z h0 x "java/lang/String" "value" "[B" .null) (F2 : Fld Z h0 x "java/lang/String" "coder" "B" (.int (0 : Int32))) (nax : a ≠ x) (VA : Wk.Ary Z h0 a .char [(.int c0), (.int c1), (.int c2)]) (r0 : ¬ c0 < 0 ∧ ¬ (65535 : Int32) < c0) (r1 : ¬ c1 < 0 ∧ ¬ (65535 : Int32) < c1) (r2 : ¬ c2 < 0 ∧ ¬ (65535 : Int32) < c2) (hU : ¬ (¬ (255 : Int32) < c0 ∧ ¬ (255 : Int32) < c1 ∧ ¬ (255 : Int32) < c2)) :
    Wk.Con l Z (⟨"java/lang/String", "<init>", "([CIILjava/lang/Void;)V"⟩ : MethodName) jdk_42_method_149_code 6 none ({ frames := 4, cells := 2, slots := 9, locals := 64 } : Room) #[(.ref x), (.ref a), (.int (0 : Int32)), (.int (3 : Int32)), .null] h0 (fun v h' => v = none ∧ Keep h0 h' [x] ∧ S16 Z h' x [c0, c1, c2]) := by
  refine Wk.Con.intro (plainFor_of_name pn1) O0 (fun m => ef17 m x a) ?_
  intro W C
  replace C : Wk.Cx Z W "java/lang/String" "<init>" jdk_42_method_149_code 6 none := C
  obtain ⟨zc, fm, SC, hzc, -, -⟩ := hs
  refine Wk.aloadN (pc' := 1) C d_jdk_42m149_0 rfl rfl rfl ?_
  refine Wk.initO (pc' := 4) C d_jdk_42m149_1 (Wn := 0) (w17 hw) (w18 hw) (w19 hw) rfl (by decide) (Nat.le_of_eq rfl) (by decide) rfl ?_
  refine Wk.iloadN (pc' := 5) C d_jdk_42m149_4 rfl rfl ?_
  refine Wk.if_ne C d_jdk_42m149_5 (by decide) (pcT := 27) (by decide) (pc' := 8) rfl (fun q11 => ?_) (fun q => absurd q (by decide))
  refine Wk.getS (pc' := 30) C d_jdk_42m149_27 (w42 hw) Via.refl (SC.ext O0) rfl ?_
  refine Wk.if_eq C d_jdk_42m149_30 (by decide) (pcT := 58) (by decide) (pc' := 33) rfl (fun q => absurd q hzc) (fun q12 => ?_)
  refine Wk.aloadN (pc' := 34) C d_jdk_42m149_33 rfl rfl rfl ?_
  refine Wk.iloadN (pc' := 35) C d_jdk_42m149_34 rfl rfl ?_
  refine Wk.iloadN (pc' := 36) C d_jdk_42m149_35 rfl rfl ?_
  refine Wk.callS (pc' := 39) C d_jdk_42m149_36 (Wk.Con.pays C (Wn := 0) (own_c2u3 l hw O0 us a c0 c1 c2 VA r0 r1 r2 hU) (w60 hw) (w59 hw) (by decide) (by decide)) Wk.cleanC (w57 hw) (w58 hw) (w59 hw) (w60 hw) (by decide) (argsL := [(.ref a), (.int (0 : Int32)), (.int (3 : Int32))]) (st := []) rfl rfl (lenOf pd4 rfl) rfl (Nat.le_of_eq rfl) (k' := 2) rfl (n' := 9) rfl (by decide) (by decide) rfl ?_
  intro r13 h14 Q14 O14
  obtain ⟨b15, rfl, gb15, zb15, E14, V14⟩ := Q14
  refine Wk.astore (pc' := 41) C d_jdk_42m149_39 rfl (Ls' := #[.val (.ref x), .val (.ref a), .val (.int (0 : Int32)), .val (.int (3 : Int32)), .val .null, .val (.ref b15)]) rfl rfl ?_
  refine Wk.aloadN (pc' := 42) C d_jdk_42m149_41 rfl rfl rfl ?_
  refine Wk.aload (pc' := 44) C d_jdk_42m149_42 rfl rfl rfl ?_
  refine Wk.iloadN (pc' := 45) C d_jdk_42m149_44 rfl rfl ?_
  refine Wk.callS (pc' := 48) C d_jdk_42m149_45 (Wk.Con.pays C (Wn := 1) (own_cfa3 l hw O14 b15 c0 c1 c2 V14) (w66 hw) (w59 hw) (by decide) (by decide)) Wk.cleanC (w64 hw) (w65 hw) (w59 hw) (w66 hw) (by decide) (argsL := [(.ref b15), (.int (3 : Int32))]) (st := [(.ref x)]) rfl rfl (lenOf pd6 rfl) rfl (Nat.le_of_eq rfl) (k' := 2) rfl (n' := 9) rfl (by decide) (by decide) rfl ?_
  intro r16 h17 Q17 O17
  obtain ⟨rfl, e18⟩ := Q17
  obtain rfl := e18.symm
  refine Wk.putF (pc' := 51) C d_jdk_42m149_48 (w27 hw) Via.refl (F2.ext E14) (EX.ext E14) (Or.inr ⟨(w23 hw), rfl, rfl⟩) (w7 hw) (ty := .byte) (by decide) (by decide) (by decide) gx rfl ?_
  intro h19 W19 O19
  have F20 := (F2.ext E14).same W19
  refine Wk.aloadN (pc' := 52) C d_jdk_42m149_51 rfl rfl rfl ?_
  refine Wk.aload (pc' := 54) C d_jdk_42m149_52 rfl rfl rfl ?_
  refine Wk.putF (pc' := 57) C d_jdk_42m149_54 (w26 hw) Via.refl ((F1.ext E14).other W19 (Or.inr (slot_ne (Or.inr (w22 hw)) (Or.inr (w23 hw)) (by decide) (t := (.array .byte)) (t' := .byte) (by decide) (by decide)))) ((EX.ext E14).wr W19) (Or.inr ⟨(w22 hw), rfl, rfl⟩) (w7 hw) (ty := (.array .byte)) (by decide) rfl rfl gx rfl ?_
  intro h21 W21 O21
  have F22 := ((F1.ext E14).other W19 (Or.inr (slot_ne (Or.inr (w22 hw)) (Or.inr (w23 hw)) (by decide) (t := (.array .byte)) (t' := .byte) (by decide) (by decide)))).same W21
  exact Wk.retV C d_jdk_42m149_57 (by decide) (by decide) ⟨rfl, ((((Keep.refl _ _).ext E14).wr W19 (Or.inl (List.mem_singleton.mpr rfl))).wr W21 (Or.inl (List.mem_singleton.mpr rfl))), (((EX.ext E14).wr W19).wr W21), (F20.other W21 (Or.inr (slot_ne (Or.inr (w23 hw)) (Or.inr (w22 hw)) (by decide) (t := .byte) (t' := (.array .byte)) (by decide) (by decide)))), ⟨_, F22, ((V14.other W19 (Ne.symm (Nat.ne_of_lt (Nat.lt_of_lt_of_le EX.lt gb15)))).other W21 (Ne.symm (Nat.ne_of_lt (Nat.lt_of_lt_of_le EX.lt gb15))))⟩, (List.forall_mem_cons.mpr ⟨r0, (List.forall_mem_cons.mpr ⟨r1, (List.forall_mem_cons.mpr ⟨r2, (fun _ h => nomatch h)⟩)⟩)⟩), Nat.le_of_ble_eq_true rfl⟩
set_option maxRecDepth 65536 in
set_option maxHeartbeats 40000000 in
theorem own_i1u3 (l : Launch) {Z : State} {a0 : Array Value} (hw : Ws a0 Z) {h0 : Heap} (O0 : Ext Z.heap h0) (hs : Sets Z) (us : U16s Z) (x a : Addr) (c0 c1 c2 : Int32) (gx : Z.heap.size ≤ x) (EX : Exa Z h0 x "java/lang/String") (F1 : Fld Z h0 x "java/lang/String" "value" "[B" .null) (F2 : Fld Z h0 x "java/lang/String" "coder" "B" (.int (0 : Int32))) (nax : a ≠ x) (VA : Wk.Ary Z h0 a .char [(.int c0), (.int c1), (.int c2)]) (r0 : ¬ c0 < 0 ∧ ¬ (65535 : Int32) < c0) (r1 : ¬ c1 < 0 ∧ ¬ (65535 : Int32) < c1) (r2 : ¬ c2 < 0 ∧ ¬ (65535 : Int32) < c2) (hU : ¬ (¬ (255 : Int32) < c0 ∧ ¬ (255 : Int32) < c1 ∧ ¬ (255 : Int32) < c2)) :
    Wk.Con l Z (⟨"java/lang/String", "<init>", "([C)V"⟩ : MethodName) jdk_42_method_3_code 2 none ({ frames := 5, cells := 2, slots := 9, locals := 84 } : Room) #[(.ref x), (.ref a)] h0 (fun v h' => v = none ∧ Keep h0 h' [x] ∧ S16 Z h' x [c0, c1, c2]) := by
  refine Wk.Con.intro (plainFor_of_name pn1) O0 (fun m => ef18 m x a) ?_
  intro W C
  replace C : Wk.Cx Z W "java/lang/String" "<init>" jdk_42_method_3_code 2 none := C
  refine Wk.aloadN (pc' := 1) C d_jdk_42m3_0 rfl rfl rfl ?_
  refine Wk.aloadN (pc' := 2) C d_jdk_42m3_1 rfl rfl rfl ?_
  refine Wk.iconst (pc' := 3) C d_jdk_42m3_2 (v := (0 : Int32)) rfl rfl ?_
  refine Wk.aloadN (pc' := 4) C d_jdk_42m3_3 rfl rfl rfl ?_
  refine Wk.alen (pc' := 5) C d_jdk_42m3_4 VA (z := (3 : Int32)) rfl rfl ?_
  refine Wk.aconstNull (pc' := 6) C d_jdk_42m3_5 rfl ?_
  refine Wk.callI (pc' := 9) C d_jdk_42m3_6 (a := x) (Wk.Con.pays C (Wn := 0) (own_i4u3 l hw O0 hs us x a c0 c1 c2 gx EX F1 F2 nax VA r0 r1 r2 hU) (w16 hw) (w8 hw) (by decide) (by decide)) Wk.cleanC rfl (w13 hw) (w14 hw) (w16 hw) (by decide) (argsL := [(.ref a), (.int (0 : Int32)), (.int (3 : Int32)), .null]) (st := []) rfl rfl (lenOf pd7 rfl) rfl (Nat.le_of_eq rfl) (k' := 2) rfl (n' := 9) rfl (by decide) (by decide) rfl ?_
  intro r11 h12 Q12 O12
  obtain ⟨rfl, K12, S12⟩ := Q12
  exact Wk.retV C d_jdk_42m3_9 (by decide) (by decide) ⟨rfl, ((Keep.refl _ _).trans K12 (allS (Or.inl (List.mem_singleton.mpr rfl)) all0)), S12⟩
set_option maxRecDepth 65536 in
set_option maxHeartbeats 40000000 in
theorem own_nbl4 (l : Launch) {Z : State} {a0 : Array Value} (hw : Ws a0 Z) {h0 : Heap} (O0 : Ext Z.heap h0)   :
    Wk.Con l Z (⟨"java/lang/StringUTF16", "newBytesLength", "(I)I"⟩ : MethodName) jdk_52_method_3_code 1 (some .int) ({ frames := 0, cells := 0, slots := 0, locals := 0 } : Room) #[(.int (4 : Int32))] h0 (fun v h' => v = some (.int 8) ∧ h' = h0) := by
  refine Wk.Con.intro (plainFor_of_name pn0) O0 (fun m => ef19 m) ?_
  intro W C
  replace C : Wk.Cx Z W "java/lang/StringUTF16" "newBytesLength" jdk_52_method_3_code 1 (some .int) := C
  refine Wk.iloadN (pc' := 1) C d_jdk_52m3_0 rfl rfl ?_
  refine Wk.if_ge C d_jdk_52m3_1 (by decide) (pcT := 12) (by decide) (pc' := 4) rfl (fun q11 => ?_) (fun q => absurd q (by decide))
  refine Wk.iloadN (pc' := 13) C d_jdk_52m3_12 rfl rfl ?_
  refine Wk.ldcI (pc' := 15) C d_jdk_52m3_13 (w76 hw) rfl ?_
  refine Wk.icmp_lt C d_jdk_52m3_15 (by decide) (pcT := 55) (by decide) (pc' := 18) rfl (fun q12 => ?_) (fun q => absurd q (by decide))
  refine Wk.iloadN (pc' := 56) C d_jdk_52m3_55 rfl rfl ?_
  refine Wk.iconst (pc' := 57) C d_jdk_52m3_56 (v := (1 : Int32)) rfl rfl ?_
  refine Wk.ishl (pc' := 58) C d_jdk_52m3_57 (v := (8 : Int32)) (by decide) rfl ?_
  exact Wk.retI C d_jdk_52m3_58 (by decide) (by decide) ⟨rfl, rfl⟩
set_option maxRecDepth 65536 in
set_option maxHeartbeats 40000000 in
theorem own_nbf4 (l : Launch) {Z : State} {a0 : Array Value} (hw : Ws a0 Z) {h0 : Heap} (O0 : Ext Z.heap h0)   :
    Wk.Con l Z (⟨"java/lang/StringUTF16", "newBytesFor", "(I)[B"⟩ : MethodName) jdk_52_method_2_code 1 (some (.array .byte)) ({ frames := 1, cells := 1, slots := 8, locals := 12 } : Room) #[(.int (4 : Int32))] h0 (fun v h' => ∃ b : Addr, v = some (.ref b) ∧ b = h0.size ∧ Z.heap.size ≤ b ∧ Ext h0 h' ∧ Wk.Ary Z h' b .byte [(.int (0 : Int32)), (.int (0 : Int32)), (.int (0 : Int32)), (.int (0 : Int32)), (.int (0 : Int32)), (.int (0 : Int32)), (.int (0 : Int32)), (.int (0 : Int32))]) := by
  refine Wk.Con.intro (plainFor_of_name pn0) O0 (fun m => ef20 m) ?_
  intro W C
  replace C : Wk.Cx Z W "java/lang/StringUTF16" "newBytesFor" jdk_52_method_2_code 1 (some (.array .byte)) := C
  refine Wk.iloadN (pc' := 1) C d_jdk_52m2_0 rfl rfl ?_
  refine Wk.callS (pc' := 4) C d_jdk_52m2_1 (Wk.Con.pays C (Wn := 0) (own_nbl4 l hw O0) (w75 hw) (w59 hw) (by decide) (by decide)) Wk.cleanC (w73 hw) (w74 hw) (w59 hw) (w75 hw) (by decide) (argsL := [(.int (4 : Int32))]) (st := []) rfl rfl (lenOf pd0 rfl) rfl (Nat.le_of_eq rfl) (k' := 0) rfl (n' := 0) rfl (by decide) (by decide) rfl ?_
  intro r11 h12 Q12 O12
  obtain ⟨rfl, e13⟩ := Q12
  obtain rfl := e13.symm
  refine Wk.newA (pc' := 6) C d_jdk_52m2_4 (ty := .byte) rfl (w21 hw) (by decide) (cap := 8) (by decide) (by decide) (k' := 1) rfl (n' := 8) rfl (by decide) (by decide) rfl rfl ?_
  intro a14 h15 ga14 za14 E15 Va14 O15
  have V16 : Wk.Ary Z h15 a14 .byte [(.int (0 : Int32)), (.int (0 : Int32)), (.int (0 : Int32)), (.int (0 : Int32)), (.int (0 : Int32)), (.int (0 : Int32)), (.int (0 : Int32)), (.int (0 : Int32))] := Va14
  exact Wk.retA C rfl rfl d_jdk_52m2_6 (by decide) (by decide) ⟨_, rfl, ga14, za14, E15, V16⟩
set_option maxRecDepth 65536 in
set_option maxHeartbeats 40000000 in
theorem own_tb4 (l : Launch) {Z : State} {a0 : Array Value} (hw : Ws a0 Z) {h0 : Heap} (O0 : Ext Z.heap h0) (us : U16s Z) (a : Addr) (c0 c1 c2 c3 : Int32) (VA : Wk.Ary Z h0 a .char [(.int c0), (.int c1), (.int c2), (.int c3)]) :
    Wk.Con l Z (⟨"java/lang/StringUTF16", "toBytes", "([CII)[B"⟩ : MethodName) jdk_52_method_14_code 5 (some (.array .byte)) ({ frames := 2, cells := 1, slots := 8, locals := 26 } : Room) #[(.ref a), (.int (0 : Int32)), (.int (4 : Int32))] h0 (fun v h' => ∃ b : Addr, v = some (.ref b) ∧ b = h0.size ∧ Z.heap.size ≤ b ∧ Ext h0 h' ∧ Wk.Ary Z h' b .byte [(.int ((c0 >>> ((0 : Int32) &&& 31)).toInt8.toInt32)), (.int ((c0 >>> ((8 : Int32) &&& 31)).toInt8.toInt32)), (.int ((c1 >>> ((0 : Int32) &&& 31)).toInt8.toInt32)), (.int ((c1 >>> ((8 : Int32) &&& 31)).toInt8.toInt32)), (.int ((c2 >>> ((0 : Int32) &&& 31)).toInt8.toInt32)), (.int ((c2 >>> ((8 : Int32) &&& 31)).toInt8.toInt32)), (.int ((c3 >>> ((0 : Int32) &&& 31)).toInt8.toInt32)), (.int ((c3 >>> ((8 : Int32) &&& 31)).toInt8.toInt32))]) := by
  refine Wk.Con.intro (plainFor_of_name pn0) O0 (fun m => ef21 m a) ?_
  intro W C
  replace C : Wk.Cx Z W "java/lang/StringUTF16" "toBytes" jdk_52_method_14_code 5 (some (.array .byte)) := C
  refine Wk.iloadN (pc' := 1) C d_jdk_52m14_0 rfl rfl ?_
  refine Wk.callS (pc' := 4) C d_jdk_52m14_1 (Wk.Con.pays C (Wn := 0) (own_nbf4 l hw O0) (w72 hw) (w59 hw) (by decide) (by decide)) Wk.cleanC (w70 hw) (w71 hw) (w59 hw) (w72 hw) (by decide) (argsL := [(.int (4 : Int32))]) (st := []) rfl rfl (lenOf pd1 rfl) rfl (Nat.le_of_eq rfl) (k' := 1) rfl (n' := 8) rfl (by decide) (by decide) rfl ?_
  intro r11 h12 Q12 O12
  obtain ⟨b13, rfl, gb13, zb13, E12, V12⟩ := Q12
  refine Wk.astoreN (pc' := 5) C d_jdk_52m14_4 rfl (Ls' := #[.val (.ref a), .val (.int (0 : Int32)), .val (.int (4 : Int32)), .val (.ref b13), .unset]) rfl rfl ?_
  refine Wk.iconst (pc' := 6) C d_jdk_52m14_5 (v := (0 : Int32)) rfl rfl ?_
  refine Wk.istore (pc' := 8) C d_jdk_52m14_6 (Ls' := #[.val (.ref a), .val (.int (0 : Int32)), .val (.int (4 : Int32)), .val (.ref b13), .val (.int (0 : Int32))]) rfl rfl ?_
  refine Wk.iload (pc' := 10) C d_jdk_52m14_8 rfl rfl ?_
  refine Wk.iloadN (pc' := 11) C d_jdk_52m14_10 rfl rfl ?_
  refine Wk.icmp_ge C d_jdk_52m14_11 (by decide) (pcT := 32) (by decide) (pc' := 14) rfl (fun q => absurd q (by decide)) (fun q14 => ?_)
  refine Wk.aloadN (pc' := 15) C d_jdk_52m14_14 rfl rfl rfl ?_
  refine Wk.iload (pc' := 17) C d_jdk_52m14_15 rfl rfl ?_
  refine Wk.aloadN (pc' := 18) C d_jdk_52m14_17 rfl rfl rfl ?_
  refine Wk.iloadN (pc' := 19) C d_jdk_52m14_18 rfl rfl ?_
  refine Wk.caload (pc' := 20) C d_jdk_52m14_19 (VA.ext E12) (by decide) (v := (.int c0)) rfl rfl ?_
  refine Wk.callS (pc' := 23) C d_jdk_52m14_20 (Wk.Con.pays C (Wn := 0) (own_put16 l hw O12 us b13 [(.int (0 : Int32)), (.int (0 : Int32)), (.int (0 : Int32)), (.int (0 : Int32)), (.int (0 : Int32)), (.int (0 : Int32)), (.int (0 : Int32)), (.int (0 : Int32))] 0 c0 zb13 V12 (Nat.le_of_ble_eq_true rfl) (show _ < _ from Nat.le_of_ble_eq_true rfl)) (w79 hw) (w59 hw) (by decide) (by decide)) Wk.cleanC (w77 hw) (w78 hw) (w59 hw) (w79 hw) (by decide) (argsL := [(.ref b13), (.int (0 : Int32)), (.int c0)]) (st := []) rfl rfl (lenOf pd2 rfl) rfl (Nat.le_of_eq rfl) (k' := 1) rfl (n' := 8) rfl (by decide) (by decide) rfl ?_
  intro r15 h16 Q16 O16
  obtain ⟨rfl, K16, V16⟩ := Q16
  replace V16 : Wk.Ary Z h16 b13 .byte [(.int ((c0 >>> ((0 : Int32) &&& 31)).toInt8.toInt32)), (.int ((c0 >>> ((8 : Int32) &&& 31)).toInt8.toInt32)), (.int (0 : Int32)), (.int (0 : Int32)), (.int (0 : Int32)), (.int (0 : Int32)), (.int (0 : Int32)), (.int (0 : Int32))] := V16
  refine Wk.iinc (pc' := 26) C d_jdk_52m14_23 rfl (v := (1 : Int32)) (by decide) (Ls' := #[.val (.ref a), .val (.int (1 : Int32)), .val (.int (4 : Int32)), .val (.ref b13), .val (.int (0 : Int32))]) rfl rfl ?_
  refine Wk.iinc (pc' := 29) C d_jdk_52m14_26 rfl (v := (1 : Int32)) (by decide) (Ls' := #[.val (.ref a), .val (.int (1 : Int32)), .val (.int (4 : Int32)), .val (.ref b13), .val (.int (1 : Int32))]) rfl rfl ?_
  refine Wk.goto C d_jdk_52m14_29 (by decide) (pc' := 8) (by decide) ?_
  refine Wk.iload (pc' := 10) C d_jdk_52m14_8 rfl rfl ?_
  refine Wk.iloadN (pc' := 11) C d_jdk_52m14_10 rfl rfl ?_
  refine Wk.icmp_ge C d_jdk_52m14_11 (by decide) (pcT := 32) (by decide) (pc' := 14) rfl (fun q => absurd q (by decide)) (fun q17 => ?_)
  refine Wk.aloadN (pc' := 15) C d_jdk_52m14_14 rfl rfl rfl ?_
  refine Wk.iload (pc' := 17) C d_jdk_52m14_15 rfl rfl ?_
  refine Wk.aloadN (pc' := 18) C d_jdk_52m14_17 rfl rfl rfl ?_
  refine Wk.iloadN (pc' := 19) C d_jdk_52m14_18 rfl rfl ?_
  have X18 : Ext h0 h16 := Wk.Ext.keep1 (Z := Z) E12 K16 (Nat.le_of_eq gb13.symm)
  refine Wk.caload (pc' := 20) C d_jdk_52m14_19 (VA.ext X18) (by decide) (v := (.int c1)) rfl rfl ?_
  refine Wk.callS (pc' := 23) C d_jdk_52m14_20 (Wk.Con.pays C (Wn := 0) (own_put16 l hw O16 us b13 [(.int ((c0 >>> ((0 : Int32) &&& 31)).toInt8.toInt32)), (.int ((c0 >>> ((8 : Int32) &&& 31)).toInt8.toInt32)), (.int (0 : Int32)), (.int (0 : Int32)), (.int (0 : Int32)), (.int (0 : Int32)), (.int (0 : Int32)), (.int (0 : Int32))] 1 c1 zb13 V16 (Nat.le_of_ble_eq_true rfl) (show _ < _ from Nat.le_of_ble_eq_true rfl)) (w79 hw) (w59 hw) (by decide) (by decide)) Wk.cleanC (w77 hw) (w78 hw) (w59 hw) (w79 hw) (by decide) (argsL := [(.ref b13), (.int (1 : Int32)), (.int c1)]) (st := []) rfl rfl (lenOf pd2 rfl) rfl (Nat.le_of_eq rfl) (k' := 1) rfl (n' := 8) rfl (by decide) (by decide) rfl ?_
  intro r19 h20 Q20 O20
  obtain ⟨rfl, K20, V20⟩ := Q20
  replace V20 : Wk.Ary Z h20 b13 .byte [(.int ((c0 >>> ((0 : Int32) &&& 31)).toInt8.toInt32)), (.int ((c0 >>> ((8 : Int32) &&& 31)).toInt8.toInt32)), (.int ((c1 >>> ((0 : Int32) &&& 31)).toInt8.toInt32)), (.int ((c1 >>> ((8 : Int32) &&& 31)).toInt8.toInt32)), (.int (0 : Int32)), (.int (0 : Int32)), (.int (0 : Int32)), (.int (0 : Int32))] := V20
  refine Wk.iinc (pc' := 26) C d_jdk_52m14_23 rfl (v := (2 : Int32)) (by decide) (Ls' := #[.val (.ref a), .val (.int (2 : Int32)), .val (.int (4 : Int32)), .val (.ref b13), .val (.int (1 : Int32))]) rfl rfl ?_
  refine Wk.iinc (pc' := 29) C d_jdk_52m14_26 rfl (v := (2 : Int32)) (by decide) (Ls' := #[.val (.ref a), .val (.int (2 : Int32)), .val (.int (4 : Int32)), .val (.ref b13), .val (.int (2 : Int32))]) rfl rfl ?_
  refine Wk.goto C d_jdk_52m14_29 (by decide) (pc' := 8) (by decide) ?_
  refine Wk.iload (pc' := 10) C d_jdk_52m14_8 rfl rfl ?_
  refine Wk.iloadN (pc' := 11) C d_jdk_52m14_10 rfl rfl ?_
  refine Wk.icmp_ge C d_jdk_52m14_11 (by decide) (pcT := 32) (by decide) (pc' := 14) rfl (fun q => absurd q (by decide)) (fun q21 => ?_)
  refine Wk.aloadN (pc' := 15) C d_jdk_52m14_14 rfl rfl rfl ?_
  refine Wk.iload (pc' := 17) C d_jdk_52m14_15 rfl rfl ?_
  refine Wk.aloadN (pc' := 18) C d_jdk_52m14_17 rfl rfl rfl ?_
  refine Wk.iloadN (pc' := 19) C d_jdk_52m14_18 rfl rfl ?_
  have X22 : Ext h0 h20 := Wk.Ext.keep1 (Z := Z) X18 K20 (Nat.le_of_eq gb13.symm)
  refine Wk.caload (pc' := 20) C d_jdk_52m14_19 (VA.ext X22) (by decide) (v := (.int c2)) rfl rfl ?_
  refine Wk.callS (pc' := 23) C d_jdk_52m14_20 (Wk.Con.pays C (Wn := 0) (own_put16 l hw O20 us b13 [(.int ((c0 >>> ((0 : Int32) &&& 31)).toInt8.toInt32)), (.int ((c0 >>> ((8 : Int32) &&& 31)).toInt8.toInt32)), (.int ((c1 >>> ((0 : Int32) &&& 31)).toInt8.toInt32)), (.int ((c1 >>> ((8 : Int32) &&& 31)).toInt8.toInt32)), (.int (0 : Int32)), (.int (0 : Int32)), (.int (0 : Int32)), (.int (0 : Int32))] 2 c2 zb13 V20 (Nat.le_of_ble_eq_true rfl) (show _ < _ from Nat.le_of_ble_eq_true rfl)) (w79 hw) (w59 hw) (by decide) (by decide)) Wk.cleanC (w77 hw) (w78 hw) (w59 hw) (w79 hw) (by decide) (argsL := [(.ref b13), (.int (2 : Int32)), (.int c2)]) (st := []) rfl rfl (lenOf pd2 rfl) rfl (Nat.le_of_eq rfl) (k' := 1) rfl (n' := 8) rfl (by decide) (by decide) rfl ?_
  intro r23 h24 Q24 O24
  obtain ⟨rfl, K24, V24⟩ := Q24
  replace V24 : Wk.Ary Z h24 b13 .byte [(.int ((c0 >>> ((0 : Int32) &&& 31)).toInt8.toInt32)), (.int ((c0 >>> ((8 : Int32) &&& 31)).toInt8.toInt32)), (.int ((c1 >>> ((0 : Int32) &&& 31)).toInt8.toInt32)), (.int ((c1 >>> ((8 : Int32) &&& 31)).toInt8.toInt32)), (.int ((c2 >>> ((0 : Int32) &&& 31)).toInt8.toInt32)), (.int ((c2 >>> ((8 : Int32) &&& 31)).toInt8.toInt32)), (.int (0 : Int32)), (.int (0 : Int32))] := V24
  refine Wk.iinc (pc' := 26) C d_jdk_52m14_23 rfl (v := (3 : Int32)) (by decide) (Ls' := #[.val (.ref a), .val (.int (3 : Int32)), .val (.int (4 : Int32)), .val (.ref b13), .val (.int (2 : Int32))]) rfl rfl ?_
  refine Wk.iinc (pc' := 29) C d_jdk_52m14_26 rfl (v := (3 : Int32)) (by decide) (Ls' := #[.val (.ref a), .val (.int (3 : Int32)), .val (.int (4 : Int32)), .val (.ref b13), .val (.int (3 : Int32))]) rfl rfl ?_
  refine Wk.goto C d_jdk_52m14_29 (by decide) (pc' := 8) (by decide) ?_
  refine Wk.iload (pc' := 10) C d_jdk_52m14_8 rfl rfl ?_
  refine Wk.iloadN (pc' := 11) C d_jdk_52m14_10 rfl rfl ?_
  refine Wk.icmp_ge C d_jdk_52m14_11 (by decide) (pcT := 32) (by decide) (pc' := 14) rfl (fun q => absurd q (by decide)) (fun q25 => ?_)
  refine Wk.aloadN (pc' := 15) C d_jdk_52m14_14 rfl rfl rfl ?_
  refine Wk.iload (pc' := 17) C d_jdk_52m14_15 rfl rfl ?_
  refine Wk.aloadN (pc' := 18) C d_jdk_52m14_17 rfl rfl rfl ?_
  refine Wk.iloadN (pc' := 19) C d_jdk_52m14_18 rfl rfl ?_
  have X26 : Ext h0 h24 := Wk.Ext.keep1 (Z := Z) X22 K24 (Nat.le_of_eq gb13.symm)
  refine Wk.caload (pc' := 20) C d_jdk_52m14_19 (VA.ext X26) (by decide) (v := (.int c3)) rfl rfl ?_
  refine Wk.callS (pc' := 23) C d_jdk_52m14_20 (Wk.Con.pays C (Wn := 0) (own_put16 l hw O24 us b13 [(.int ((c0 >>> ((0 : Int32) &&& 31)).toInt8.toInt32)), (.int ((c0 >>> ((8 : Int32) &&& 31)).toInt8.toInt32)), (.int ((c1 >>> ((0 : Int32) &&& 31)).toInt8.toInt32)), (.int ((c1 >>> ((8 : Int32) &&& 31)).toInt8.toInt32)), (.int ((c2 >>> ((0 : Int32) &&& 31)).toInt8.toInt32)), (.int ((c2 >>> ((8 : Int32) &&& 31)).toInt8.toInt32)), (.int (0 : Int32)), (.int (0 : Int32))] 3 c3 zb13 V24 (Nat.le_of_ble_eq_true rfl) (show _ < _ from Nat.le_of_ble_eq_true rfl)) (w79 hw) (w59 hw) (by decide) (by decide)) Wk.cleanC (w77 hw) (w78 hw) (w59 hw) (w79 hw) (by decide) (argsL := [(.ref b13), (.int (3 : Int32)), (.int c3)]) (st := []) rfl rfl (lenOf pd2 rfl) rfl (Nat.le_of_eq rfl) (k' := 1) rfl (n' := 8) rfl (by decide) (by decide) rfl ?_
  intro r27 h28 Q28 O28
  obtain ⟨rfl, K28, V28⟩ := Q28
  replace V28 : Wk.Ary Z h28 b13 .byte [(.int ((c0 >>> ((0 : Int32) &&& 31)).toInt8.toInt32)), (.int ((c0 >>> ((8 : Int32) &&& 31)).toInt8.toInt32)), (.int ((c1 >>> ((0 : Int32) &&& 31)).toInt8.toInt32)), (.int ((c1 >>> ((8 : Int32) &&& 31)).toInt8.toInt32)), (.int ((c2 >>> ((0 : Int32) &&& 31)).toInt8.toInt32)), (.int ((c2 >>> ((8 : Int32) &&& 31)).toInt8.toInt32)), (.int ((c3 >>> ((0 : Int32) &&& 31)).toInt8.toInt32)), (.int ((c3 >>> ((8 : Int32) &&& 31)).toInt8.toInt32))] := V28
  refine Wk.iinc (pc' := 26) C d_jdk_52m14_23 rfl (v := (4 : Int32)) (by decide) (Ls' := #[.val (.ref a), .val (.int (4 : Int32)), .val (.int (4 : Int32)), .val (.ref b13), .val (.int (3 : Int32))]) rfl rfl ?_
  refine Wk.iinc (pc' := 29) C d_jdk_52m14_26 rfl (v := (4 : Int32)) (by decide) (Ls' := #[.val (.ref a), .val (.int (4 : Int32)), .val (.int (4 : Int32)), .val (.ref b13), .val (.int (4 : Int32))]) rfl rfl ?_
  refine Wk.goto C d_jdk_52m14_29 (by decide) (pc' := 8) (by decide) ?_
  refine Wk.iload (pc' := 10) C d_jdk_52m14_8 rfl rfl ?_
  refine Wk.iloadN (pc' := 11) C d_jdk_52m14_10 rfl rfl ?_
  refine Wk.icmp_ge C d_jdk_52m14_11 (by decide) (pcT := 32) (by decide) (pc' := 14) rfl (fun q29 => ?_) (fun q => absurd q (by decide))
  refine Wk.aloadN (pc' := 33) C d_jdk_52m14_32 rfl rfl rfl ?_
  have X30 : Ext h0 h28 := Wk.Ext.keep1 (Z := Z) X26 K28 (Nat.le_of_eq gb13.symm)
  exact Wk.retA C rfl rfl d_jdk_52m14_33 (by decide) (by decide) ⟨_, rfl, gb13, zb13, X30, V28⟩
set_option maxRecDepth 65536 in
set_option maxHeartbeats 40000000 in
theorem own_c5u4 (l : Launch) {Z : State} {a0 : Array Value} (hw : Ws a0 Z) {h0 : Heap} (O0 : Ext Z.heap h0) (a b : Addr) (c0 c1 c2 c3 : Int32) (VA : Wk.Ary Z h0 a .char [(.int c0), (.int c1), (.int c2), (.int c3)]) (gb : Z.heap.size ≤ b) (VB : Wk.Ary Z h0 b .byte [(.int (0 : Int32)), (.int (0 : Int32)), (.int (0 : Int32)), (.int (0 : Int32))]) (nab : a ≠ b) (hU : ¬ (¬ (255 : Int32) < c0 ∧ ¬ (255 : Int32) < c1 ∧ ¬ (255 : Int32) < c2 ∧ ¬ (255 : Int32) < c3)) :
    Wk.Con l Z (⟨"java/lang/StringUTF16", "compress", "([CI[BII)I"⟩ : MethodName) jdk_52_method_21_code 7 (some .int) ({ frames := 0, cells := 0, slots := 0, locals := 0 } : Room) #[(.ref a), (.int (0 : Int32)), (.ref b), (.int (0 : Int32)), (.int (4 : Int32))] h0 (fun v h' => ∃ k : Int32, v = some (.int k) ∧ ((k = 0 ∧ (255 : Int32) < c0) ∨ (k = 1 ∧ (255 : Int32) < c1) ∨ (k = 2 ∧ (255 : Int32) < c2) ∨ (k = 3 ∧ (255 : Int32) < c3)) ∧ Keep h0 h' [b]) := by
  refine Wk.Con.intro (plainFor_of_name pn0) O0 (fun m => ef22 m a b) ?_
  intro W C
  replace C : Wk.Cx Z W "java/lang/StringUTF16" "compress" jdk_52_method_21_code 7 (some .int) := C
  refine Wk.iconst (pc' := 1) C d_jdk_52m21_0 (v := (0 : Int32)) rfl rfl ?_
  refine Wk.istore (pc' := 3) C d_jdk_52m21_1 (Ls' := #[.val (.ref a), .val (.int (0 : Int32)), .val (.ref b), .val (.int (0 : Int32)), .val (.int (4 : Int32)), .val (.int (0 : Int32)), .unset]) rfl rfl ?_
  refine Wk.iload (pc' := 5) C d_jdk_52m21_3 rfl rfl ?_
  refine Wk.iload (pc' := 7) C d_jdk_52m21_5 rfl rfl ?_
  refine Wk.icmp_ge C d_jdk_52m21_7 (by decide) (pcT := 44) (by decide) (pc' := 10) rfl (fun q => absurd q (by decide)) (fun q11 => ?_)
  refine Wk.aloadN (pc' := 11) C d_jdk_52m21_10 rfl rfl rfl ?_
  refine Wk.iloadN (pc' := 12) C d_jdk_52m21_11 rfl rfl ?_
  refine Wk.caload (pc' := 13) C d_jdk_52m21_12 VA (by decide) (v := (.int c0)) rfl rfl ?_
  refine Wk.istore (pc' := 15) C d_jdk_52m21_13 (Ls' := #[.val (.ref a), .val (.int (0 : Int32)), .val (.ref b), .val (.int (0 : Int32)), .val (.int (4 : Int32)), .val (.int (0 : Int32)), .val (.int c0)]) rfl rfl ?_
  refine Wk.iload (pc' := 17) C d_jdk_52m21_15 rfl rfl ?_
  refine Wk.sipush (pc' := 20) C d_jdk_52m21_17 (v := (255 : Int32)) rfl rfl ?_
  refine Wk.icmp_le C d_jdk_52m21_20 (by decide) (pcT := 26) (by decide) (pc' := 23) rfl (fun q12 => ?_) (fun q12 => ?_)
  · -- pc 20: taken
    refine Wk.aloadN (pc' := 27) C d_jdk_52m21_26 rfl rfl rfl ?_
    refine Wk.iloadN (pc' := 28) C d_jdk_52m21_27 rfl rfl ?_
    refine Wk.iload (pc' := 30) C d_jdk_52m21_28 rfl rfl ?_
    obtain ⟨v13, hv13⟩ : ∃ z : Int32, c0.toInt8.toInt32 = z := ⟨_, rfl⟩
    refine Wk.i2b (pc' := 31) C d_jdk_52m21_30 hv13 rfl ?_
    refine Wk.bastore (pc' := 32) C d_jdk_52m21_31 VB (by decide) (show _ < _ from Nat.le_of_ble_eq_true rfl) (vs' := [(.int v13), (.int (0 : Int32)), (.int (0 : Int32)), (.int (0 : Int32))]) (by rw [Wk.nar_i2b hv13]; rfl) gb rfl ?_
    intro h14 W14 V14 O14
    refine Wk.iinc (pc' := 35) C d_jdk_52m21_32 rfl (v := (1 : Int32)) (by decide) (Ls' := #[.val (.ref a), .val (.int (1 : Int32)), .val (.ref b), .val (.int (0 : Int32)), .val (.int (4 : Int32)), .val (.int (0 : Int32)), .val (.int c0)]) rfl rfl ?_
    refine Wk.iinc (pc' := 38) C d_jdk_52m21_35 rfl (v := (1 : Int32)) (by decide) (Ls' := #[.val (.ref a), .val (.int (1 : Int32)), .val (.ref b), .val (.int (1 : Int32)), .val (.int (4 : Int32)), .val (.int (0 : Int32)), .val (.int c0)]) rfl rfl ?_
    refine Wk.iinc (pc' := 41) C d_jdk_52m21_38 rfl (v := (1 : Int32)) (by decide) (Ls' := #[.val (.ref a), .val (.int (1 : Int32)), .val (.ref b), .val (.int (1 : Int32)), .val (.int (4 : Int32)), .val (.int (1 : Int32)), .val (.int c0)]) rfl rfl ?_
    refine Wk.goto C d_jdk_52m21_41 (by decide) (pc' := 3) (by decide) ?_
    refine Wk.iload (pc' := 5) C d_jdk_52m21_3 rfl rfl ?_
    refine Wk.iload (pc' := 7) C d_jdk_52m21_5 rfl rfl ?_
    refine Wk.icmp_ge C d_jdk_52m21_7 (by decide) (pcT := 44) (by decide) (pc' := 10) rfl (fun q => absurd q (by decide)) (fun q15 => ?_)
    refine Wk.aloadN (pc' := 11) C d_jdk_52m21_10 rfl rfl rfl ?_
    refine Wk.iloadN (pc' := 12) C d_jdk_52m21_11 rfl rfl ?_
    refine Wk.caload (pc' := 13) C d_jdk_52m21_12 (VA.other W14 nab) (by decide) (v := (.int c1)) rfl rfl ?_
    refine Wk.istore (pc' := 15) C d_jdk_52m21_13 (Ls' := #[.val (.ref a), .val (.int (1 : Int32)), .val (.ref b), .val (.int (1 : Int32)), .val (.int (4 : Int32)), .val (.int (1 : Int32)), .val (.int c1)]) rfl rfl ?_
    refine Wk.iload (pc' := 17) C d_jdk_52m21_15 rfl rfl ?_
    refine Wk.sipush (pc' := 20) C d_jdk_52m21_17 (v := (255 : Int32)) rfl rfl ?_
    refine Wk.icmp_le C d_jdk_52m21_20 (by decide) (pcT := 26) (by decide) (pc' := 23) rfl (fun q16 => ?_) (fun q16 => ?_)
    · -- pc 20: taken
      refine Wk.aloadN (pc' := 27) C d_jdk_52m21_26 rfl rfl rfl ?_
      refine Wk.iloadN (pc' := 28) C d_jdk_52m21_27 rfl rfl ?_
      refine Wk.iload (pc' := 30) C d_jdk_52m21_28 rfl rfl ?_
      obtain ⟨v17, hv17⟩ : ∃ z : Int32, c1.toInt8.toInt32 = z := ⟨_, rfl⟩
      refine Wk.i2b (pc' := 31) C d_jdk_52m21_30 hv17 rfl ?_
      refine Wk.bastore (pc' := 32) C d_jdk_52m21_31 V14 (by decide) (show _ < _ from Nat.le_of_ble_eq_true rfl) (vs' := [(.int v13), (.int v17), (.int (0 : Int32)), (.int (0 : Int32))]) (by rw [Wk.nar_i2b hv17]; rfl) gb rfl ?_
      intro h18 W18 V18 O18
      refine Wk.iinc (pc' := 35) C d_jdk_52m21_32 rfl (v := (2 : Int32)) (by decide) (Ls' := #[.val (.ref a), .val (.int (2 : Int32)), .val (.ref b), .val (.int (1 : Int32)), .val (.int (4 : Int32)), .val (.int (1 : Int32)), .val (.int c1)]) rfl rfl ?_
      refine Wk.iinc (pc' := 38) C d_jdk_52m21_35 rfl (v := (2 : Int32)) (by decide) (Ls' := #[.val (.ref a), .val (.int (2 : Int32)), .val (.ref b), .val (.int (2 : Int32)), .val (.int (4 : Int32)), .val (.int (1 : Int32)), .val (.int c1)]) rfl rfl ?_
      refine Wk.iinc (pc' := 41) C d_jdk_52m21_38 rfl (v := (2 : Int32)) (by decide) (Ls' := #[.val (.ref a), .val (.int (2 : Int32)), .val (.ref b), .val (.int (2 : Int32)), .val (.int (4 : Int32)), .val (.int (2 : Int32)), .val (.int c1)]) rfl rfl ?_
      refine Wk.goto C d_jdk_52m21_41 (by decide) (pc' := 3) (by decide) ?_
      refine Wk.iload (pc' := 5) C d_jdk_52m21_3 rfl rfl ?_
      refine Wk.iload (pc' := 7) C d_jdk_52m21_5 rfl rfl ?_
      refine Wk.icmp_ge C d_jdk_52m21_7 (by decide) (pcT := 44) (by decide) (pc' := 10) rfl (fun q => absurd q (by decide)) (fun q19 => ?_)
      refine Wk.aloadN (pc' := 11) C d_jdk_52m21_10 rfl rfl rfl ?_
      refine Wk.iloadN (pc' := 12) C d_jdk_52m21_11 rfl rfl ?_
      refine Wk.caload (pc' := 13) C d_jdk_52m21_12 ((VA.other W14 nab).other W18 nab) (by decide) (v := (.int c2)) rfl rfl ?_
      refine Wk.istore (pc' := 15) C d_jdk_52m21_13 (Ls' := #[.val (.ref a), .val (.int (2 : Int32)), .val (.ref b), .val (.int (2 : Int32)), .val (.int (4 : Int32)), .val (.int (2 : Int32)), .val (.int c2)]) rfl rfl ?_
      refine Wk.iload (pc' := 17) C d_jdk_52m21_15 rfl rfl ?_
      refine Wk.sipush (pc' := 20) C d_jdk_52m21_17 (v := (255 : Int32)) rfl rfl ?_
      refine Wk.icmp_le C d_jdk_52m21_20 (by decide) (pcT := 26) (by decide) (pc' := 23) rfl (fun q20 => ?_) (fun q20 => ?_)
      · -- pc 20: taken
        refine Wk.aloadN (pc' := 27) C d_jdk_52m21_26 rfl rfl rfl ?_
        refine Wk.iloadN (pc' := 28) C d_jdk_52m21_27 rfl rfl ?_
        refine Wk.iload (pc' := 30) C d_jdk_52m21_28 rfl rfl ?_
        obtain ⟨v21, hv21⟩ : ∃ z : Int32, c2.toInt8.toInt32 = z := ⟨_, rfl⟩
        refine Wk.i2b (pc' := 31) C d_jdk_52m21_30 hv21 rfl ?_
        refine Wk.bastore (pc' := 32) C d_jdk_52m21_31 V18 (by decide) (show _ < _ from Nat.le_of_ble_eq_true rfl) (vs' := [(.int v13), (.int v17), (.int v21), (.int (0 : Int32))]) (by rw [Wk.nar_i2b hv21]; rfl) gb rfl ?_
        intro h22 W22 V22 O22
        refine Wk.iinc (pc' := 35) C d_jdk_52m21_32 rfl (v := (3 : Int32)) (by decide) (Ls' := #[.val (.ref a), .val (.int (3 : Int32)), .val (.ref b), .val (.int (2 : Int32)), .val (.int (4 : Int32)), .val (.int (2 : Int32)), .val (.int c2)]) rfl rfl ?_
        refine Wk.iinc (pc' := 38) C d_jdk_52m21_35 rfl (v := (3 : Int32)) (by decide) (Ls' := #[.val (.ref a), .val (.int (3 : Int32)), .val (.ref b), .val (.int (3 : Int32)), .val (.int (4 : Int32)), .val (.int (2 : Int32)), .val (.int c2)]) rfl rfl ?_
        refine Wk.iinc (pc' := 41) C d_jdk_52m21_38 rfl (v := (3 : Int32)) (by decide) (Ls' := #[.val (.ref a), .val (.int (3 : Int32)), .val (.ref b), .val (.int (3 : Int32)), .val (.int (4 : Int32)), .val (.int (3 : Int32)), .val (.int c2)]) rfl rfl ?_
        refine Wk.goto C d_jdk_52m21_41 (by decide) (pc' := 3) (by decide) ?_
        refine Wk.iload (pc' := 5) C d_jdk_52m21_3 rfl rfl ?_
        refine Wk.iload (pc' := 7) C d_jdk_52m21_5 rfl rfl ?_
        refine Wk.icmp_ge C d_jdk_52m21_7 (by decide) (pcT := 44) (by decide) (pc' := 10) rfl (fun q => absurd q (by decide)) (fun q23 => ?_)
        refine Wk.aloadN (pc' := 11) C d_jdk_52m21_10 rfl rfl rfl ?_
        refine Wk.iloadN (pc' := 12) C d_jdk_52m21_11 rfl rfl ?_
        refine Wk.caload (pc' := 13) C d_jdk_52m21_12 (((VA.other W14 nab).other W18 nab).other W22 nab) (by decide) (v := (.int c3)) rfl rfl ?_
        refine Wk.istore (pc' := 15) C d_jdk_52m21_13 (Ls' := #[.val (.ref a), .val (.int (3 : Int32)), .val (.ref b), .val (.int (3 : Int32)), .val (.int (4 : Int32)), .val (.int (3 : Int32)), .val (.int c3)]) rfl rfl ?_
        refine Wk.iload (pc' := 17) C d_jdk_52m21_15 rfl rfl ?_
        refine Wk.sipush (pc' := 20) C d_jdk_52m21_17 (v := (255 : Int32)) rfl rfl ?_
        refine Wk.icmp_le C d_jdk_52m21_20 (by decide) (pcT := 26) (by decide) (pc' := 23) rfl (fun q24 => ?_) (fun q24 => ?_)
        · -- pc 20: taken
          refine Wk.aloadN (pc' := 27) C d_jdk_52m21_26 rfl rfl rfl ?_
          refine Wk.iloadN (pc' := 28) C d_jdk_52m21_27 rfl rfl ?_
          refine Wk.iload (pc' := 30) C d_jdk_52m21_28 rfl rfl ?_
          obtain ⟨v25, hv25⟩ : ∃ z : Int32, c3.toInt8.toInt32 = z := ⟨_, rfl⟩
          refine Wk.i2b (pc' := 31) C d_jdk_52m21_30 hv25 rfl ?_
          refine Wk.bastore (pc' := 32) C d_jdk_52m21_31 V22 (by decide) (show _ < _ from Nat.le_of_ble_eq_true rfl) (vs' := [(.int v13), (.int v17), (.int v21), (.int v25)]) (by rw [Wk.nar_i2b hv25]; rfl) gb rfl ?_
          intro h26 W26 V26 O26
          refine Wk.iinc (pc' := 35) C d_jdk_52m21_32 rfl (v := (4 : Int32)) (by decide) (Ls' := #[.val (.ref a), .val (.int (4 : Int32)), .val (.ref b), .val (.int (3 : Int32)), .val (.int (4 : Int32)), .val (.int (3 : Int32)), .val (.int c3)]) rfl rfl ?_
          refine Wk.iinc (pc' := 38) C d_jdk_52m21_35 rfl (v := (4 : Int32)) (by decide) (Ls' := #[.val (.ref a), .val (.int (4 : Int32)), .val (.ref b), .val (.int (4 : Int32)), .val (.int (4 : Int32)), .val (.int (3 : Int32)), .val (.int c3)]) rfl rfl ?_
          refine Wk.iinc (pc' := 41) C d_jdk_52m21_38 rfl (v := (4 : Int32)) (by decide) (Ls' := #[.val (.ref a), .val (.int (4 : Int32)), .val (.ref b), .val (.int (4 : Int32)), .val (.int (4 : Int32)), .val (.int (4 : Int32)), .val (.int c3)]) rfl rfl ?_
          refine Wk.goto C d_jdk_52m21_41 (by decide) (pc' := 3) (by decide) ?_
          refine Wk.iload (pc' := 5) C d_jdk_52m21_3 rfl rfl ?_
          refine Wk.iload (pc' := 7) C d_jdk_52m21_5 rfl rfl ?_
          refine Wk.icmp_ge C d_jdk_52m21_7 (by decide) (pcT := 44) (by decide) (pc' := 10) rfl (fun q27 => ?_) (fun q => absurd q (by decide))
          refine Wk.iload (pc' := 46) C d_jdk_52m21_44 rfl rfl ?_
          exact absurd ⟨q12, q16, q20, q24⟩ hU
        · -- pc 20: not taken
          refine Wk.iload (pc' := 25) C d_jdk_52m21_23 rfl rfl ?_
          exact Wk.retI C d_jdk_52m21_25 (by decide) (by decide) ⟨_, rfl, Or.inr (Or.inr (Or.inr (⟨rfl, q24⟩))), ((((Keep.refl _ _).wr W14 (Or.inl (List.mem_singleton.mpr rfl))).wr W18 (Or.inl (List.mem_singleton.mpr rfl))).wr W22 (Or.inl (List.mem_singleton.mpr rfl)))⟩
      · -- pc 20: not taken
        refine Wk.iload (pc' := 25) C d_jdk_52m21_23 rfl rfl ?_
        exact Wk.retI C d_jdk_52m21_25 (by decide) (by decide) ⟨_, rfl, Or.inr (Or.inr (Or.inl ⟨rfl, q20⟩)), (((Keep.refl _ _).wr W14 (Or.inl (List.mem_singleton.mpr rfl))).wr W18 (Or.inl (List.mem_singleton.mpr rfl)))⟩
    · -- pc 20: not taken
      refine Wk.iload (pc' := 25) C d_jdk_52m21_23 rfl rfl ?_
      exact Wk.retI C d_jdk_52m21_25 (by decide) (by decide) ⟨_, rfl, Or.inr (Or.inl ⟨rfl, q16⟩), ((Keep.refl _ _).wr W14 (Or.inl (List.mem_singleton.mpr rfl)))⟩
  · -- pc 20: not taken
    refine Wk.iload (pc' := 25) C d_jdk_52m21_23 rfl rfl ?_
    exact Wk.retI C d_jdk_52m21_25 (by decide) (by decide) ⟨_, rfl, Or.inl ⟨rfl, q12⟩, (Keep.refl _ _)⟩
set_option maxRecDepth 65536 in
set_option maxHeartbeats 40000000 in
theorem own_c2u4 (l : Launch) {Z : State} {a0 : Array Value} (hw : Ws a0 Z) {h0 : Heap} (O0 : Ext Z.heap h0) (us : U16s Z) (a : Addr) (c0 c1 c2 c3 : Int32) (VA : Wk.Ary Z h0 a .char [(.int c0), (.int c1), (.int c2), (.int c3)]) (r0 : ¬ c0 < 0 ∧ ¬ (65535 : Int32) < c0) (r1 : ¬ c1 < 0 ∧ ¬ (65535 : Int32) < c1) (r2 : ¬ c2 < 0 ∧ ¬ (65535 : Int32) < c2) (r3 : ¬ c3 < 0 ∧ ¬ (65535 : Int32) < c3) (hU : ¬ (¬ (255 : Int32) < c0 ∧ ¬ (255 : Int32) < c1 ∧ ¬ (255 : Int32) < c2 ∧ ¬ (255 : Int32) < c3)) :
    Wk.Con l Z (⟨"java/lang/StringUTF16", "compress", "([CII)[B"⟩ : MethodName) jdk_52_method_16_code 6 (some (.array .byte)) ({ frames := 3, cells := 2, slots := 12, locals := 46 } : Room) #[(.ref a), (.int (0 : Int32)), (.int (4 : Int32))] h0 (fun v h' => ∃ b : Addr, v = some (.ref b) ∧ h0.size ≤ b ∧ Z.heap.size ≤ b ∧ Ext h0 h' ∧ Wk.Ary Z h' b .byte [(.int ((c0 >>> ((0 : Int32) &&& 31)).toInt8.toInt32)), (.int ((c0 >>> ((8 : Int32) &&& 31)).toInt8.toInt32)), (.int ((c1 >>> ((0 : Int32) &&& 31)).toInt8.toInt32)), (.int ((c1 >>> ((8 : Int32) &&& 31)).toInt8.toInt32)), (.int ((c2 >>> ((0 : Int32) &&& 31)).toInt8.toInt32)), (.int ((c2 >>> ((8 : Int32) &&& 31)).toInt8.toInt32)), (.int ((c3 >>> ((0 : Int32) &&& 31)).toInt8.toInt32)), (.int ((c3 >>> ((8 : Int32) &&& 31)).toInt8.toInt32))]) := by
  refine Wk.Con.intro (plainFor_of_name pn0) O0 (fun m => ef23 m a) ?_
  intro W C
  replace C : Wk.Cx Z W "java/lang/StringUTF16" "compress" jdk_52_method_16_code 6 (some (.array .byte)) := C
  refine Wk.iloadN (pc' := 1) C d_jdk_52m16_0 rfl rfl ?_
  refine Wk.newA (pc' := 3) C d_jdk_52m16_1 (ty := .byte) rfl (w21 hw) (by decide) (cap := 4) (by decide) (by decide) (k' := 1) rfl (n' := 4) rfl (by decide) (by decide) rfl rfl ?_
  intro a11 h12 ga11 za11 E12 Va11 O12
  have V13 : Wk.Ary Z h12 a11 .byte [(.int (0 : Int32)), (.int (0 : Int32)), (.int (0 : Int32)), (.int (0 : Int32))] := Va11
  refine Wk.astoreN (pc' := 4) C d_jdk_52m16_3 rfl (Ls' := #[.val (.ref a), .val (.int (0 : Int32)), .val (.int (4 : Int32)), .val (.ref a11), .unset, .unset]) rfl rfl ?_
  refine Wk.aloadN (pc' := 5) C d_jdk_52m16_4 rfl rfl rfl ?_
  refine Wk.iloadN (pc' := 6) C d_jdk_52m16_5 rfl rfl ?_
  refine Wk.aloadN (pc' := 7) C d_jdk_52m16_6 rfl rfl rfl ?_
  refine Wk.iconst (pc' := 8) C d_jdk_52m16_7 (v := (0 : Int32)) rfl rfl ?_
  refine Wk.iloadN (pc' := 9) C d_jdk_52m16_8 rfl rfl ?_
  refine Wk.callS (pc' := 12) C d_jdk_52m16_9 (Wk.Con.pays C (Wn := 0) (own_c5u4 l hw O12 a a11 c0 c1 c2 c3 (VA.ext E12) za11 V13 (Nat.ne_of_lt (Nat.lt_of_lt_of_le VA.lt (Nat.le_of_eq ga11.symm))) hU) (w63 hw) (w59 hw) (by decide) (by decide)) Wk.cleanC (w61 hw) (w62 hw) (w59 hw) (w63 hw) (by decide) (argsL := [(.ref a), (.int (0 : Int32)), (.ref a11), (.int (0 : Int32)), (.int (4 : Int32))]) (st := []) rfl rfl (lenOf pd3 rfl) rfl (Nat.le_of_eq rfl) (k' := 1) rfl (n' := 4) rfl (by decide) (by decide) rfl ?_
  intro r14 h15 Q15 O15
  obtain ⟨k16, rfl, dk16, K15⟩ := Q15
  rcases dk16 with ⟨rfl, hk⟩ | ⟨rfl, hk⟩ | ⟨rfl, hk⟩ | ⟨rfl, hk⟩
  · -- stops at 0
    refine Wk.istore (pc' := 14) C d_jdk_52m16_12 (Ls' := #[.val (.ref a), .val (.int (0 : Int32)), .val (.int (4 : Int32)), .val (.ref a11), .val (.int (0 : Int32)), .unset]) rfl rfl ?_
    refine Wk.iload (pc' := 16) C d_jdk_52m16_14 rfl rfl ?_
    refine Wk.iloadN (pc' := 17) C d_jdk_52m16_16 rfl rfl ?_
    refine Wk.icmp_eq C d_jdk_52m16_17 (by decide) (pcT := 57) (by decide) (pc' := 20) rfl (fun q => absurd q (by decide)) (fun q17 => ?_)
    refine Wk.aloadN (pc' := 21) C d_jdk_52m16_20 rfl rfl rfl ?_
    refine Wk.iloadN (pc' := 22) C d_jdk_52m16_21 rfl rfl ?_
    refine Wk.iloadN (pc' := 23) C d_jdk_52m16_22 rfl rfl ?_
    have X18 : Ext h0 h15 := Wk.Ext.keep1 (Z := Z) E12 K15 (Nat.le_of_eq ga11.symm)
    refine Wk.callS (pc' := 26) C d_jdk_52m16_23 (Wk.Con.pays C (Wn := 0) (own_tb4 l hw O15 us a c0 c1 c2 c3 (VA.ext X18)) (w69 hw) (w59 hw) (by decide) (by decide)) Wk.cleanC (w67 hw) (w68 hw) (w59 hw) (w69 hw) (by decide) (argsL := [(.ref a), (.int (0 : Int32)), (.int (4 : Int32))]) (st := []) rfl rfl (lenOf pd4 rfl) rfl (Nat.le_of_eq rfl) (k' := 2) rfl (n' := 12) rfl (by decide) (by decide) rfl ?_
    intro r19 h20 Q20 O20
    obtain ⟨b21, rfl, gb21, zb21, E20, V20⟩ := Q20
    refine Wk.astore (pc' := 28) C d_jdk_52m16_26 rfl (Ls' := #[.val (.ref a), .val (.int (0 : Int32)), .val (.int (4 : Int32)), .val (.ref a11), .val (.int (0 : Int32)), .val (.ref b21)]) rfl rfl ?_
    refine Wk.aload (pc' := 30) C d_jdk_52m16_28 rfl rfl rfl ?_
    refine Wk.iload (pc' := 32) C d_jdk_52m16_30 rfl rfl ?_
    refine Wk.callS (pc' := 35) C d_jdk_52m16_32 (Wk.Con.pays C (Wn := 0) (own_get16 l hw O20 us b21 [(.int ((c0 >>> ((0 : Int32) &&& 31)).toInt8.toInt32)), (.int ((c0 >>> ((8 : Int32) &&& 31)).toInt8.toInt32)), (.int ((c1 >>> ((0 : Int32) &&& 31)).toInt8.toInt32)), (.int ((c1 >>> ((8 : Int32) &&& 31)).toInt8.toInt32)), (.int ((c2 >>> ((0 : Int32) &&& 31)).toInt8.toInt32)), (.int ((c2 >>> ((8 : Int32) &&& 31)).toInt8.toInt32)), (.int ((c3 >>> ((0 : Int32) &&& 31)).toInt8.toInt32)), (.int ((c3 >>> ((8 : Int32) &&& 31)).toInt8.toInt32))] 0 c0 V20 (Nat.le_of_ble_eq_true rfl) (show _ < _ from Nat.le_of_ble_eq_true rfl) rfl rfl r0) (w85 hw) (w59 hw) (by decide) (by decide)) Wk.cleanC (w83 hw) (w84 hw) (w59 hw) (w85 hw) (by decide) (argsL := [(.ref b21), (.int (0 : Int32))]) (st := []) rfl rfl (lenOf pd5 rfl) rfl (Nat.le_of_eq rfl) (k' := 2) rfl (n' := 12) rfl (by decide) (by decide) rfl ?_
    intro r22 h23 Q23 O23
    obtain ⟨rfl, e24⟩ := Q23
    obtain rfl := e24.symm
    refine Wk.sipush (pc' := 38) C d_jdk_52m16_35 (v := (255 : Int32)) rfl rfl ?_
    refine Wk.icmp_gt C d_jdk_52m16_38 (by decide) (pcT := 54) (by decide) (pc' := 41) rfl (fun q25 => ?_) (fun q => absurd hk q)
    refine Wk.aload (pc' := 56) C d_jdk_52m16_54 rfl rfl rfl ?_
    have X26 : Ext h0 h20 := Wk.Ext.trans X18 E20
    exact Wk.retA C rfl rfl d_jdk_52m16_56 (by decide) (by decide) ⟨_, rfl, (Nat.le_trans X18.1 (Nat.le_of_eq gb21.symm)), zb21, X26, V20⟩
  · -- stops at 1
    refine Wk.istore (pc' := 14) C d_jdk_52m16_12 (Ls' := #[.val (.ref a), .val (.int (0 : Int32)), .val (.int (4 : Int32)), .val (.ref a11), .val (.int (1 : Int32)), .unset]) rfl rfl ?_
    refine Wk.iload (pc' := 16) C d_jdk_52m16_14 rfl rfl ?_
    refine Wk.iloadN (pc' := 17) C d_jdk_52m16_16 rfl rfl ?_
    refine Wk.icmp_eq C d_jdk_52m16_17 (by decide) (pcT := 57) (by decide) (pc' := 20) rfl (fun q => absurd q (by decide)) (fun q27 => ?_)
    refine Wk.aloadN (pc' := 21) C d_jdk_52m16_20 rfl rfl rfl ?_
    refine Wk.iloadN (pc' := 22) C d_jdk_52m16_21 rfl rfl ?_
    refine Wk.iloadN (pc' := 23) C d_jdk_52m16_22 rfl rfl ?_
    have X28 : Ext h0 h15 := Wk.Ext.keep1 (Z := Z) E12 K15 (Nat.le_of_eq ga11.symm)
    refine Wk.callS (pc' := 26) C d_jdk_52m16_23 (Wk.Con.pays C (Wn := 0) (own_tb4 l hw O15 us a c0 c1 c2 c3 (VA.ext X28)) (w69 hw) (w59 hw) (by decide) (by decide)) Wk.cleanC (w67 hw) (w68 hw) (w59 hw) (w69 hw) (by decide) (argsL := [(.ref a), (.int (0 : Int32)), (.int (4 : Int32))]) (st := []) rfl rfl (lenOf pd4 rfl) rfl (Nat.le_of_eq rfl) (k' := 2) rfl (n' := 12) rfl (by decide) (by decide) rfl ?_
    intro r29 h30 Q30 O30
    obtain ⟨b31, rfl, gb31, zb31, E30, V30⟩ := Q30
    refine Wk.astore (pc' := 28) C d_jdk_52m16_26 rfl (Ls' := #[.val (.ref a), .val (.int (0 : Int32)), .val (.int (4 : Int32)), .val (.ref a11), .val (.int (1 : Int32)), .val (.ref b31)]) rfl rfl ?_
    refine Wk.aload (pc' := 30) C d_jdk_52m16_28 rfl rfl rfl ?_
    refine Wk.iload (pc' := 32) C d_jdk_52m16_30 rfl rfl ?_
    refine Wk.callS (pc' := 35) C d_jdk_52m16_32 (Wk.Con.pays C (Wn := 0) (own_get16 l hw O30 us b31 [(.int ((c0 >>> ((0 : Int32) &&& 31)).toInt8.toInt32)), (.int ((c0 >>> ((8 : Int32) &&& 31)).toInt8.toInt32)), (.int ((c1 >>> ((0 : Int32) &&& 31)).toInt8.toInt32)), (.int ((c1 >>> ((8 : Int32) &&& 31)).toInt8.toInt32)), (.int ((c2 >>> ((0 : Int32) &&& 31)).toInt8.toInt32)), (.int ((c2 >>> ((8 : Int32) &&& 31)).toInt8.toInt32)), (.int ((c3 >>> ((0 : Int32) &&& 31)).toInt8.toInt32)), (.int ((c3 >>> ((8 : Int32) &&& 31)).toInt8.toInt32))] 1 c1 V30 (Nat.le_of_ble_eq_true rfl) (show _ < _ from Nat.le_of_ble_eq_true rfl) rfl rfl r1) (w85 hw) (w59 hw) (by decide) (by decide)) Wk.cleanC (w83 hw) (w84 hw) (w59 hw) (w85 hw) (by decide) (argsL := [(.ref b31), (.int (1 : Int32))]) (st := []) rfl rfl (lenOf pd5 rfl) rfl (Nat.le_of_eq rfl) (k' := 2) rfl (n' := 12) rfl (by decide) (by decide) rfl ?_
    intro r32 h33 Q33 O33
    obtain ⟨rfl, e34⟩ := Q33
    obtain rfl := e34.symm
    refine Wk.sipush (pc' := 38) C d_jdk_52m16_35 (v := (255 : Int32)) rfl rfl ?_
    refine Wk.icmp_gt C d_jdk_52m16_38 (by decide) (pcT := 54) (by decide) (pc' := 41) rfl (fun q35 => ?_) (fun q => absurd hk q)
    refine Wk.aload (pc' := 56) C d_jdk_52m16_54 rfl rfl rfl ?_
    have X36 : Ext h0 h30 := Wk.Ext.trans X28 E30
    exact Wk.retA C rfl rfl d_jdk_52m16_56 (by decide) (by decide) ⟨_, rfl, (Nat.le_trans X28.1 (Nat.le_of_eq gb31.symm)), zb31, X36, V30⟩
  · -- stops at 2
    refine Wk.istore (pc' := 14) C d_jdk_52m16_12 (Ls' := #[.val (.ref a), .val (.int (0 : Int32)), .val (.int (4 : Int32)), .val (.ref a11), .val (.int (2 : Int32)), .unset]) rfl rfl ?_
    refine Wk.iload (pc' := 16) C d_jdk_52m16_14 rfl rfl ?_
    refine Wk.iloadN (pc' := 17) C d_jdk_52m16_16 rfl rfl ?_
    refine Wk.icmp_eq C d_jdk_52m16_17 (by decide) (pcT := 57) (by decide) (pc' := 20) rfl (fun q => absurd q (by decide)) (fun q37 => ?_)
    refine Wk.aloadN (pc' := 21) C d_jdk_52m16_20 rfl rfl rfl ?_
    refine Wk.iloadN (pc' := 22) C d_jdk_52m16_21 rfl rfl ?_
    refine Wk.iloadN (pc' := 23) C d_jdk_52m16_22 rfl rfl ?_
    have X38 : Ext h0 h15 := Wk.Ext.keep1 (Z := Z) E12 K15 (Nat.le_of_eq ga11.symm)
    refine Wk.callS (pc' := 26) C d_jdk_52m16_23 (Wk.Con.pays C (Wn := 0) (own_tb4 l hw O15 us a c0 c1 c2 c3 (VA.ext X38)) (w69 hw) (w59 hw) (by decide) (by decide)) Wk.cleanC (w67 hw) (w68 hw) (w59 hw) (w69 hw) (by decide) (argsL := [(.ref a), (.int (0 : Int32)), (.int (4 : Int32))]) (st := []) rfl rfl (lenOf pd4 rfl) rfl (Nat.le_of_eq rfl) (k' := 2) rfl (n' := 12) rfl (by decide) (by decide) rfl ?_
    intro r39 h40 Q40 O40
    obtain ⟨b41, rfl, gb41, zb41, E40, V40⟩ := Q40
    refine Wk.astore (pc' := 28) C d_jdk_52m16_26 rfl (Ls' := #[.val (.ref a), .val (.int (0 : Int32)), .val (.int (4 : Int32)), .val (.ref a11), .val (.int (2 : Int32)), .val (.ref b41)]) rfl rfl ?_
    refine Wk.aload (pc' := 30) C d_jdk_52m16_28 rfl rfl rfl ?_
    refine Wk.iload (pc' := 32) C d_jdk_52m16_30 rfl rfl ?_
    refine Wk.callS (pc' := 35) C d_jdk_52m16_32 (Wk.Con.pays C (Wn := 0) (own_get16 l hw O40 us b41 [(.int ((c0 >>> ((0 : Int32) &&& 31)).toInt8.toInt32)), (.int ((c0 >>> ((8 : Int32) &&& 31)).toInt8.toInt32)), (.int ((c1 >>> ((0 : Int32) &&& 31)).toInt8.toInt32)), (.int ((c1 >>> ((8 : Int32) &&& 31)).toInt8.toInt32)), (.int ((c2 >>> ((0 : Int32) &&& 31)).toInt8.toInt32)), (.int ((c2 >>> ((8 : Int32) &&& 31)).toInt8.toInt32)), (.int ((c3 >>> ((0 : Int32) &&& 31)).toInt8.toInt32)), (.int ((c3 >>> ((8 : Int32) &&& 31)).toInt8.toInt32))] 2 c2 V40 (Nat.le_of_ble_eq_true rfl) (show _ < _ from Nat.le_of_ble_eq_true rfl) rfl rfl r2) (w85 hw) (w59 hw) (by decide) (by decide)) Wk.cleanC (w83 hw) (w84 hw) (w59 hw) (w85 hw) (by decide) (argsL := [(.ref b41), (.int (2 : Int32))]) (st := []) rfl rfl (lenOf pd5 rfl) rfl (Nat.le_of_eq rfl) (k' := 2) rfl (n' := 12) rfl (by decide) (by decide) rfl ?_
    intro r42 h43 Q43 O43
    obtain ⟨rfl, e44⟩ := Q43
    obtain rfl := e44.symm
    refine Wk.sipush (pc' := 38) C d_jdk_52m16_35 (v := (255 : Int32)) rfl rfl ?_
    refine Wk.icmp_gt C d_jdk_52m16_38 (by decide) (pcT := 54) (by decide) (pc' := 41) rfl (fun q45 => ?_) (fun q => absurd hk q)
    refine Wk.aload (pc' := 56) C d_jdk_52m16_54 rfl rfl rfl ?_
    have X46 : Ext h0 h40 := Wk.Ext.trans X38 E40
    exact Wk.retA C rfl rfl d_jdk_52m16_56 (by decide) (by decide) ⟨_, rfl, (Nat.le_trans X38.1 (Nat.le_of_eq gb41.symm)), zb41, X46, V40⟩
  · -- stops at 3
    refine Wk.istore (pc' := 14) C d_jdk_52m16_12 (Ls' := #[.val (.ref a), .val (.int (0 : Int32)), .val (.int (4 : Int32)), .val (.ref a11), .val (.int (3 : Int32)), .unset]) rfl rfl ?_
    refine Wk.iload (pc' := 16) C d_jdk_52m16_14 rfl rfl ?_
    refine Wk.iloadN (pc' := 17) C d_jdk_52m16_16 rfl rfl ?_
    refine Wk.icmp_eq C d_jdk_52m16_17 (by decide) (pcT := 57) (by decide) (pc' := 20) rfl (fun q => absurd q (by decide)) (fun q47 => ?_)
    refine Wk.aloadN (pc' := 21) C d_jdk_52m16_20 rfl rfl rfl ?_
    refine Wk.iloadN (pc' := 22) C d_jdk_52m16_21 rfl rfl ?_
    refine Wk.iloadN (pc' := 23) C d_jdk_52m16_22 rfl rfl ?_
    have X48 : Ext h0 h15 := Wk.Ext.keep1 (Z := Z) E12 K15 (Nat.le_of_eq ga11.symm)
    refine Wk.callS (pc' := 26) C d_jdk_52m16_23 (Wk.Con.pays C (Wn := 0) (own_tb4 l hw O15 us a c0 c1 c2 c3 (VA.ext X48)) (w69 hw) (w59 hw) (by decide) (by decide)) Wk.cleanC (w67 hw) (w68 hw) (w59 hw) (w69 hw) (by decide) (argsL := [(.ref a), (.int (0 : Int32)), (.int (4 : Int32))]) (st := []) rfl rfl (lenOf pd4 rfl) rfl (Nat.le_of_eq rfl) (k' := 2) rfl (n' := 12) rfl (by decide) (by decide) rfl ?_
    intro r49 h50 Q50 O50
    obtain ⟨b51, rfl, gb51, zb51, E50, V50⟩ := Q50
    refine Wk.astore (pc' := 28) C d_jdk_52m16_26 rfl (Ls' := #[.val (.ref a), .val (.int (0 : Int32)), .val (.int (4 : Int32)), .val (.ref a11), .val (.int (3 : Int32)), .val (.ref b51)]) rfl rfl ?_
    refine Wk.aload (pc' := 30) C d_jdk_52m16_28 rfl rfl rfl ?_
    refine Wk.iload (pc' := 32) C d_jdk_52m16_30 rfl rfl ?_
    refine Wk.callS (pc' := 35) C d_jdk_52m16_32 (Wk.Con.pays C (Wn := 0) (own_get16 l hw O50 us b51 [(.int ((c0 >>> ((0 : Int32) &&& 31)).toInt8.toInt32)), (.int ((c0 >>> ((8 : Int32) &&& 31)).toInt8.toInt32)), (.int ((c1 >>> ((0 : Int32) &&& 31)).toInt8.toInt32)), (.int ((c1 >>> ((8 : Int32) &&& 31)).toInt8.toInt32)), (.int ((c2 >>> ((0 : Int32) &&& 31)).toInt8.toInt32)), (.int ((c2 >>> ((8 : Int32) &&& 31)).toInt8.toInt32)), (.int ((c3 >>> ((0 : Int32) &&& 31)).toInt8.toInt32)), (.int ((c3 >>> ((8 : Int32) &&& 31)).toInt8.toInt32))] 3 c3 V50 (Nat.le_of_ble_eq_true rfl) (show _ < _ from Nat.le_of_ble_eq_true rfl) rfl rfl r3) (w85 hw) (w59 hw) (by decide) (by decide)) Wk.cleanC (w83 hw) (w84 hw) (w59 hw) (w85 hw) (by decide) (argsL := [(.ref b51), (.int (3 : Int32))]) (st := []) rfl rfl (lenOf pd5 rfl) rfl (Nat.le_of_eq rfl) (k' := 2) rfl (n' := 12) rfl (by decide) (by decide) rfl ?_
    intro r52 h53 Q53 O53
    obtain ⟨rfl, e54⟩ := Q53
    obtain rfl := e54.symm
    refine Wk.sipush (pc' := 38) C d_jdk_52m16_35 (v := (255 : Int32)) rfl rfl ?_
    refine Wk.icmp_gt C d_jdk_52m16_38 (by decide) (pcT := 54) (by decide) (pc' := 41) rfl (fun q55 => ?_) (fun q => absurd hk q)
    refine Wk.aload (pc' := 56) C d_jdk_52m16_54 rfl rfl rfl ?_
    have X56 : Ext h0 h50 := Wk.Ext.trans X48 E50
    exact Wk.retA C rfl rfl d_jdk_52m16_56 (by decide) (by decide) ⟨_, rfl, (Nat.le_trans X48.1 (Nat.le_of_eq gb51.symm)), zb51, X56, V50⟩
set_option maxRecDepth 65536 in
set_option maxHeartbeats 40000000 in
theorem own_cfa4 (l : Launch) {Z : State} {a0 : Array Value} (hw : Ws a0 Z) {h0 : Heap} (O0 : Ext Z.heap h0) (b : Addr) (c0 c1 c2 c3 : Int32) (VB : Wk.Ary Z h0 b .byte [(.int ((c0 >>> ((0 : Int32) &&& 31)).toInt8.toInt32)), (.int ((c0 >>> ((8 : Int32) &&& 31)).toInt8.toInt32)), (.int ((c1 >>> ((0 : Int32) &&& 31)).toInt8.toInt32)), (.int ((c1 >>> ((8 : Int32) &&& 31)).toInt8.toInt32)), (.int ((c2 >>> ((0 : Int32) &&& 31)).toInt8.toInt32)), (.int ((c2 >>> ((8 : Int32) &&& 31)).toInt8.toInt32)), (.int ((c3 >>> ((0 : Int32) &&& 31)).toInt8.toInt32)), (.int ((c3 >>> ((8 : Int32) &&& 31)).toInt8.toInt32))]) :
    Wk.Con l Z (⟨"java/lang/StringUTF16", "coderFromArrayLen", "([BI)B"⟩ : MethodName) jdk_52_method_15_code 2 (some .byte) ({ frames := 0, cells := 0, slots := 0, locals := 0 } : Room) #[(.ref b), (.int (4 : Int32))] h0 (fun v h' => v = some (.int 1) ∧ h' = h0) := by
  refine Wk.Con.intro (plainFor_of_name pn0) O0 (fun m => ef24 m b) ?_
  intro W C
  replace C : Wk.Cx Z W "java/lang/StringUTF16" "coderFromArrayLen" jdk_52_method_15_code 2 (some .byte) := C
  refine Wk.iloadN (pc' := 1) C d_jdk_52m15_0 rfl rfl ?_
  refine Wk.aloadN (pc' := 2) C d_jdk_52m15_1 rfl rfl rfl ?_
  refine Wk.alen (pc' := 3) C d_jdk_52m15_2 VB (z := (8 : Int32)) rfl rfl ?_
  refine Wk.isub (pc' := 4) C d_jdk_52m15_3 (v := (-4 : Int32)) (by decide) rfl ?_
  refine Wk.bipush (pc' := 6) C d_jdk_52m15_4 (v := (31 : Int32)) rfl rfl ?_
  refine Wk.iushr (pc' := 7) C d_jdk_52m15_6 (v := (1 : Int32)) (by decide) rfl ?_
  refine Wk.i2b (pc' := 8) C d_jdk_52m15_7 (v := (1 : Int32)) (by decide) rfl ?_
  exact Wk.retNar (ty := .byte) C (by simp) d_jdk_52m15_8 rfl (by decide) (by decide) ⟨rfl, rfl⟩
set_option maxRecDepth 65536 in
set_option maxHeartbeats 40000000 in
theorem own_i4u4 (l : Launch) {Z : State} {a0 : Array Value} (hw : Ws a0 Z) {h0 : Heap} (O0 : Ext Z.heap h0) (hs : Sets Z) (us : U16s Z) (x a : Addr) (c0 c1 c2 c3 : Int32) (gx : Z.heap.size ≤ x) (EX : Exa Z h0 x "java/lang/String") (F1 : Fld Z h0 x "java/lang/String" "value" "[B" .null) (F2 : Fld Z h0 x "java/lang/String" "coder" "B" (.int (0 : Int32))) (nax : a ≠ x) (VA : Wk.Ary Z h0 a .char [(.int c0), (.int c1), (.int c2), (.int c3)]) (r0 : ¬ c0 < 0 ∧ ¬ (65535 : Int32) < c0) (r1 : ¬ c1 < 0 ∧ ¬ (65535 : Int32) < c1) (r2 : ¬ c2 < 0 ∧ ¬ (65535 : Int32) < c2) (r3 : ¬ c3 < 0 ∧ ¬ (65535 : Int32) < c3) (hU : ¬ (¬ (255 : Int32) < c0 ∧ ¬ (255 : Int32) < c1 ∧ ¬ (255 : Int32) < c2 ∧ ¬ (255 : Int32) < c3)) :
    Wk.Con l Z (⟨"java/lang/String", "<init>", "([CIILjava/lang/Void;)V"⟩ : MethodName) jdk_42_method_149_code 6 none ({ frames := 4, cells := 2, slots := 12, locals := 64 } : Room) #[(.ref x), (.ref a), (.int (0 : Int32)), (.int (4 : Int32)), .null] h0 (fun v h' => v = none ∧ Keep h0 h' [x] ∧ S16 Z h' x [c0, c1, c2, c3]) := by
  refine Wk.Con.intro (plainFor_of_name pn1) O0 (fun m => ef25 m x a) ?_
  intro W C
  replace C : Wk.Cx Z W "java/lang/String" "<init>" jdk_42_method_149_code 6 none := C
  obtain ⟨zc, fm, SC, hzc, -, -⟩ := hs
  refine Wk.aloadN (pc' := 1) C d_jdk_42m149_0 rfl rfl rfl ?_
  refine Wk.initO (pc' := 4) C d_jdk_42m149_1 (Wn := 0) (w17 hw) (w18 hw) (w19 hw) rfl (by decide) (Nat.le_of_eq rfl) (by decide) rfl ?_
  refine Wk.iloadN (pc' := 5) C d_jdk_42m149_4 rfl rfl ?_
  refine Wk.if_ne C d_jdk_42m149_5 (by decide) (pcT := 27) (by decide) (pc' := 8) rfl (fun q11 => ?_) (fun q => absurd q (by decide))
  refine Wk.getS (pc' := 30) C d_jdk_42m149_27 (w42 hw) Via.refl (SC.ext O0) rfl ?_
  refine Wk.if_eq C d_jdk_42m149_30 (by decide) (pcT := 58) (by decide) (pc' := 33) rfl (fun q => absurd q hzc) (fun q12 => ?_)
  refine Wk.aloadN (pc' := 34) C d_jdk_42m149_33 rfl rfl rfl ?_
  refine Wk.iloadN (pc' := 35) C d_jdk_42m149_34 rfl rfl ?_
  refine Wk.iloadN (pc' := 36) C d_jdk_42m149_35 rfl rfl ?_
  refine Wk.callS (pc' := 39) C d_jdk_42m149_36 (Wk.Con.pays C (Wn := 0) (own_c2u4 l hw O0 us a c0 c1 c2 c3 VA r0 r1 r2 r3 hU) (w60 hw) (w59 hw) (by decide) (by decide)) Wk.cleanC (w57 hw) (w58 hw) (w59 hw) (w60 hw) (by decide) (argsL := [(.ref a), (.int (0 : Int32)), (.int (4 : Int32))]) (st := []) rfl rfl (lenOf pd4 rfl) rfl (Nat.le_of_eq rfl) (k' := 2) rfl (n' := 12) rfl (by decide) (by decide) rfl ?_
  intro r13 h14 Q14 O14
  obtain ⟨b15, rfl, gb15, zb15, E14, V14⟩ := Q14
  refine Wk.astore (pc' := 41) C d_jdk_42m149_39 rfl (Ls' := #[.val (.ref x), .val (.ref a), .val (.int (0 : Int32)), .val (.int (4 : Int32)), .val .null, .val (.ref b15)]) rfl rfl ?_
  refine Wk.aloadN (pc' := 42) C d_jdk_42m149_41 rfl rfl rfl ?_
  refine Wk.aload (pc' := 44) C d_jdk_42m149_42 rfl rfl rfl ?_
  refine Wk.iloadN (pc' := 45) C d_jdk_42m149_44 rfl rfl ?_
  refine Wk.callS (pc' := 48) C d_jdk_42m149_45 (Wk.Con.pays C (Wn := 1) (own_cfa4 l hw O14 b15 c0 c1 c2 c3 V14) (w66 hw) (w59 hw) (by decide) (by decide)) Wk.cleanC (w64 hw) (w65 hw) (w59 hw) (w66 hw) (by decide) (argsL := [(.ref b15), (.int (4 : Int32))]) (st := [(.ref x)]) rfl rfl (lenOf pd6 rfl) rfl (Nat.le_of_eq rfl) (k' := 2) rfl (n' := 12) rfl (by decide) (by decide) rfl ?_
  intro r16 h17 Q17 O17
  obtain ⟨rfl, e18⟩ := Q17
  obtain rfl := e18.symm
  refine Wk.putF (pc' := 51) C d_jdk_42m149_48 (w27 hw) Via.refl (F2.ext E14) (EX.ext E14) (Or.inr ⟨(w23 hw), rfl, rfl⟩) (w7 hw) (ty := .byte) (by decide) (by decide) (by decide) gx rfl ?_
  intro h19 W19 O19
  have F20 := (F2.ext E14).same W19
  refine Wk.aloadN (pc' := 52) C d_jdk_42m149_51 rfl rfl rfl ?_
  refine Wk.aload (pc' := 54) C d_jdk_42m149_52 rfl rfl rfl ?_
  refine Wk.putF (pc' := 57) C d_jdk_42m149_54 (w26 hw) Via.refl ((F1.ext E14).other W19 (Or.inr (slot_ne (Or.inr (w22 hw)) (Or.inr (w23 hw)) (by decide) (t := (.array .byte)) (t' := .byte) (by decide) (by decide)))) ((EX.ext E14).wr W19) (Or.inr ⟨(w22 hw), rfl, rfl⟩) (w7 hw) (ty := (.array .byte)) (by decide) rfl rfl gx rfl ?_
  intro h21 W21 O21
  have F22 := ((F1.ext E14).other W19 (Or.inr (slot_ne (Or.inr (w22 hw)) (Or.inr (w23 hw)) (by decide) (t := (.array .byte)) (t' := .byte) (by decide) (by decide)))).same W21
  exact Wk.retV C d_jdk_42m149_57 (by decide) (by decide) ⟨rfl, ((((Keep.refl _ _).ext E14).wr W19 (Or.inl (List.mem_singleton.mpr rfl))).wr W21 (Or.inl (List.mem_singleton.mpr rfl))), (((EX.ext E14).wr W19).wr W21), (F20.other W21 (Or.inr (slot_ne (Or.inr (w23 hw)) (Or.inr (w22 hw)) (by decide) (t := .byte) (t' := (.array .byte)) (by decide) (by decide)))), ⟨_, F22, ((V14.other W19 (Ne.symm (Nat.ne_of_lt (Nat.lt_of_lt_of_le EX.lt gb15)))).other W21 (Ne.symm (Nat.ne_of_lt (Nat.lt_of_lt_of_le EX.lt gb15))))⟩, (List.forall_mem_cons.mpr ⟨r0, (List.forall_mem_cons.mpr ⟨r1, (List.forall_mem_cons.mpr ⟨r2, (List.forall_mem_cons.mpr ⟨r3, (fun _ h => nomatch h)⟩)⟩)⟩)⟩), Nat.le_of_ble_eq_true rfl⟩
set_option maxRecDepth 65536 in
set_option maxHeartbeats 40000000 in
theorem own_i1u4 (l : Launch) {Z : State} {a0 : Array Value} (hw : Ws a0 Z) {h0 : Heap} (O0 : Ext Z.heap h0) (hs : Sets Z) (us : U16s Z) (x a : Addr) (c0 c1 c2 c3 : Int32) (gx : Z.heap.size ≤ x) (EX : Exa Z h0 x "java/lang/String") (F1 : Fld Z h0 x "java/lang/String" "value" "[B" .null) (F2 : Fld Z h0 x "java/lang/String" "coder" "B" (.int (0 : Int32))) (nax : a ≠ x) (VA : Wk.Ary Z h0 a .char [(.int c0), (.int c1), (.int c2), (.int c3)]) (r0 : ¬ c0 < 0 ∧ ¬ (65535 : Int32) < c0) (r1 : ¬ c1 < 0 ∧ ¬ (65535 : Int32) < c1) (r2 : ¬ c2 < 0 ∧ ¬ (65535 : Int32) < c2) (r3 : ¬ c3 < 0 ∧ ¬ (65535 : Int32) < c3) (hU : ¬ (¬ (255 : Int32) < c0 ∧ ¬ (255 : Int32) < c1 ∧ ¬ (255 : Int32) < c2 ∧ ¬ (255 : Int32) < c3)) :
    Wk.Con l Z (⟨"java/lang/String", "<init>", "([C)V"⟩ : MethodName) jdk_42_method_3_code 2 none ({ frames := 5, cells := 2, slots := 12, locals := 84 } : Room) #[(.ref x), (.ref a)] h0 (fun v h' => v = none ∧ Keep h0 h' [x] ∧ S16 Z h' x [c0, c1, c2, c3]) := by
  refine Wk.Con.intro (plainFor_of_name pn1) O0 (fun m => ef26 m x a) ?_
  intro W C
  replace C : Wk.Cx Z W "java/lang/String" "<init>" jdk_42_method_3_code 2 none := C
  refine Wk.aloadN (pc' := 1) C d_jdk_42m3_0 rfl rfl rfl ?_
  refine Wk.aloadN (pc' := 2) C d_jdk_42m3_1 rfl rfl rfl ?_
  refine Wk.iconst (pc' := 3) C d_jdk_42m3_2 (v := (0 : Int32)) rfl rfl ?_
  refine Wk.aloadN (pc' := 4) C d_jdk_42m3_3 rfl rfl rfl ?_
  refine Wk.alen (pc' := 5) C d_jdk_42m3_4 VA (z := (4 : Int32)) rfl rfl ?_
  refine Wk.aconstNull (pc' := 6) C d_jdk_42m3_5 rfl ?_
  refine Wk.callI (pc' := 9) C d_jdk_42m3_6 (a := x) (Wk.Con.pays C (Wn := 0) (own_i4u4 l hw O0 hs us x a c0 c1 c2 c3 gx EX F1 F2 nax VA r0 r1 r2 r3 hU) (w16 hw) (w8 hw) (by decide) (by decide)) Wk.cleanC rfl (w13 hw) (w14 hw) (w16 hw) (by decide) (argsL := [(.ref a), (.int (0 : Int32)), (.int (4 : Int32)), .null]) (st := []) rfl rfl (lenOf pd7 rfl) rfl (Nat.le_of_eq rfl) (k' := 2) rfl (n' := 12) rfl (by decide) (by decide) rfl ?_
  intro r11 h12 Q12 O12
  obtain ⟨rfl, K12, S12⟩ := Q12
  exact Wk.retV C d_jdk_42m3_9 (by decide) (by decide) ⟨rfl, ((Keep.refl _ _).trans K12 (allS (Or.inl (List.mem_singleton.mpr rfl)) all0)), S12⟩
set_option maxRecDepth 65536 in
set_option maxHeartbeats 40000000 in
theorem own_isLatin1 (l : Launch) {Z : State} {a0 : Array Value} (hw : Ws a0 Z) {h0 : Heap} (O0 : Ext Z.heap h0) (hs : Sets Z) (a1 : Addr) (cs : List Int32) (F : Str Z h0 a1 cs) :
    Wk.Con l Z (⟨"java/lang/String", "isLatin1", "()Z"⟩ : MethodName) jdk_42_method_154_code 1 (some .boolean) ({ frames := 0, cells := 0, slots := 0, locals := 0 } : Room) #[(.ref a1)] h0 (fun v h' => v = some (.int 1) ∧ h' = h0) := by
  refine Wk.Con.intro (plainFor_of_name pn1) O0 (fun m => ef27 m a1) ?_
  intro W C
  replace C : Wk.Cx Z W "java/lang/String" "isLatin1" jdk_42_method_154_code 1 (some .boolean) := C
  obtain ⟨zc, fm, SC, hzc, -, -⟩ := hs
  refine Wk.getS (pc' := 3) C d_jdk_42m154_0 (w42 hw) Via.refl (SC.ext O0) rfl ?_
  refine Wk.if_eq C d_jdk_42m154_3 (by decide) (pcT := 17) (by decide) (pc' := 6) rfl (fun q => absurd q hzc) (fun q11 => ?_)
  refine Wk.aloadN (pc' := 7) C d_jdk_42m154_6 rfl rfl rfl ?_
  refine Wk.getF (pc' := 10) C d_jdk_42m154_7 (w27 hw) Via.refl F.2.1 rfl ?_
  refine Wk.if_ne C d_jdk_42m154_10 (by decide) (pcT := 17) (by decide) (pc' := 13) rfl (fun q => absurd q (by decide)) (fun q12 => ?_)
  refine Wk.iconst (pc' := 14) C d_jdk_42m154_13 (v := (1 : Int32)) rfl rfl ?_
  refine Wk.goto C d_jdk_42m154_14 (by decide) (pc' := 18) (by decide) ?_
  exact Wk.retNar (ty := .boolean) C (by simp) d_jdk_42m154_18 rfl (by decide) (by decide) ⟨rfl, rfl⟩
set_option maxRecDepth 65536 in
set_option maxHeartbeats 40000000 in
theorem own_coder (l : Launch) {Z : State} {a0 : Array Value} (hw : Ws a0 Z) {h0 : Heap} (O0 : Ext Z.heap h0) (hs : Sets Z) (x : Addr) (ds : List Int32) (F : Str Z h0 x ds) :
    Wk.Con l Z (⟨"java/lang/String", "coder", "()B"⟩ : MethodName) jdk_42_method_152_code 1 (some .byte) ({ frames := 0, cells := 0, slots := 0, locals := 0 } : Room) #[(.ref x)] h0 (fun v h' => v = some (.int 0) ∧ h' = h0) := by
  refine Wk.Con.intro (plainFor_of_name pn1) O0 (fun m => ef28 m x) ?_
  intro W C
  replace C : Wk.Cx Z W "java/lang/String" "coder" jdk_42_method_152_code 1 (some .byte) := C
  obtain ⟨zc, fm, SC, hzc, -, -⟩ := hs
  refine Wk.getS (pc' := 3) C d_jdk_42m152_0 (w42 hw) Via.refl (SC.ext O0) rfl ?_
  refine Wk.if_eq C d_jdk_42m152_3 (by decide) (pcT := 13) (by decide) (pc' := 6) rfl (fun q => absurd q hzc) (fun q11 => ?_)
  refine Wk.aloadN (pc' := 7) C d_jdk_42m152_6 rfl rfl rfl ?_
  refine Wk.getF (pc' := 10) C d_jdk_42m152_7 (w27 hw) Via.refl F.2.1 rfl ?_
  refine Wk.goto C d_jdk_42m152_10 (by decide) (pc' := 14) (by decide) ?_
  exact Wk.retNar (ty := .byte) C (by simp) d_jdk_42m152_14 rfl (by decide) (by decide) ⟨rfl, rfl⟩
theorem own_shr0 {x v : Int32} (h : x >>> ((0 : Int32) &&& 31) = v) : v = x := by
  have q := c_ishr x 0 0 (by decide)
  rw [h] at q
  exact Wk.eqI (by omega)
theorem own_b255 {c v : Int32} (r : ¬ c < 0 ∧ ¬ (255 : Int32) < c) (h : c.toInt8.toInt32 &&& 255 = v) : v = c := by
  have q := c_mask c.toInt8.toInt32 255 8 (by decide) (by decide)
  rw [h] at q
  have q2 := c_i2b c
  obtain ⟨r1, r2⟩ := r
  rw [Wk.ltI] at r1 r2
  have e0 : (0 : Int32).toInt = 0 := by decide
  have e1 : (255 : Int32).toInt = 255 := by decide
  exact Wk.eqI (by omega)
theorem own_i2cc {c v : Int32} (r : ¬ c < 0 ∧ ¬ (255 : Int32) < c) (h : c.toUInt32.toUInt16.toUInt32.toInt32 = v) : v = c := h.symm.trans (Wk.nar_rng r)
theorem own_inS {cs : List Int32} (hp : ∀ c ∈ cs, ¬ c < 0 ∧ ¬ (255 : Int32) < c) {j : Nat} (h : j < cs.length) : ¬ cs.getD j 0 < 0 ∧ ¬ (255 : Int32) < cs.getD j 0 := by
  have e : cs.getD j 0 = cs[j] := by simp [List.getD_eq_getElem?_getD, h]
  rw [e]; exact hp _ (List.getElem_mem h)
theorem own_getB8 {cs : List Int32} {j : Nat} (h : j < cs.length) : ((cs.map fun c => c.toInt8.toInt32).map Value.int)[j]? = some (.int (cs.getD j 0).toInt8.toInt32) := by simp [List.getD_eq_getElem?_getD, h]
set_option maxRecDepth 65536 in
set_option maxHeartbeats 40000000 in
theorem own_length (l : Launch) {Z : State} {a0 : Array Value} (hw : Ws a0 Z) {h0 : Heap} (O0 : Ext Z.heap h0) (hs : Sets Z) (x : Addr) (cs : List Int32) (F : Str Z h0 x cs) :
    Wk.Con l Z (⟨"java/lang/String", "length", "()I"⟩ : MethodName) jdk_42_method_54_code 1 (some .int) ({ frames := 1, cells := 0, slots := 0, locals := 13 } : Room) #[(.ref x)] h0 (fun v h' => v = some (.int (Int32.ofNat cs.length)) ∧ h' = h0) := by
  refine Wk.Con.intro (plainFor_of_name pn1) O0 (fun m => ef29 m x) ?_
  intro W C
  replace C : Wk.Cx Z W "java/lang/String" "length" jdk_42_method_54_code 1 (some .int) := C
  obtain ⟨t, F1, V⟩ := F.2.2.1
  have hl := F.2.2.2.2
  refine Wk.aloadN (pc' := 1) C d_jdk_42m54_0 rfl rfl rfl ?_
  refine Wk.getF (pc' := 4) C d_jdk_42m54_1 (w26 hw) Via.refl F1 rfl ?_
  refine Wk.alen (pc' := 5) C d_jdk_42m54_4 V (z := (Int32.ofNat cs.length)) (by simp) rfl ?_
  refine Wk.aloadN (pc' := 6) C d_jdk_42m54_5 rfl rfl rfl ?_
  refine Wk.callV (pc' := 9) C d_jdk_42m54_6 (a := x) (Wk.Con.pays C (Wn := 1) (own_coder l hw O0 hs x cs F) (w41 hw) (w8 hw) (by decide) (by decide)) Wk.cleanC F.exa (w37 hw) (w38 hw) (notFace_of_selects (args := #[]) (mvT C.hZ (w40 hw))) (w40 hw) (w39 hw) (by decide) (argsL := []) (st := [(.int (Int32.ofNat cs.length))]) rfl rfl (lenOf pd8 rfl) rfl (Nat.le_of_eq rfl) (k' := 0) rfl (n' := 0) rfl (by decide) (by decide) rfl ?_
  intro r11 h12 Q12 O12
  obtain ⟨rfl, e13⟩ := Q12
  obtain rfl := e13.symm
  obtain ⟨v14, hv14⟩ : ∃ z : Int32, (Int32.ofNat cs.length) >>> ((0 : Int32) &&& 31) = z := ⟨_, rfl⟩
  refine Wk.ishr (pc' := 10) C d_jdk_42m54_9 hv14 rfl ?_
  have f15 : v14 = (Int32.ofNat cs.length) := own_shr0 hv14
  rw [f15]
  exact Wk.retI C d_jdk_42m54_10 (by decide) (by decide) ⟨rfl, rfl⟩
set_option maxRecDepth 65536 in
set_option maxHeartbeats 40000000 in
theorem own_ckP (l : Launch) {Z : State} {a0 : Array Value} (hw : Ws a0 Z) {h0 : Heap} (O0 : Ext Z.heap h0) (i n : Int32) (fm : Value) (rf : fm.isRef = true) (h1 : ¬ i < 0) (h2 : i < n) :
    Wk.Con l Z (⟨"jdk/internal/util/Preconditions", "checkIndex", "(IILjava/util/function/BiFunction;)I"⟩ : MethodName) jdk_41_method_11_code 3 (some .int) ({ frames := 0, cells := 0, slots := 0, locals := 0 } : Room) #[(.int i), (.int n), fm] h0 (fun v h' => v = some (.int i) ∧ h' = h0) := by
  refine Wk.Con.intro (plainFor_of_name pn2) O0 (fun m => ef30 m i n fm rf) ?_
  intro W C
  replace C : Wk.Cx Z W "jdk/internal/util/Preconditions" "checkIndex" jdk_41_method_11_code 3 (some .int) := C
  refine Wk.iloadN (pc' := 1) C d_jdk_41m11_0 rfl rfl ?_
  refine Wk.if_lt C d_jdk_41m11_1 (by decide) (pcT := 9) (by decide) (pc' := 4) rfl (fun q => absurd q h1) (fun q11 => ?_)
  refine Wk.iloadN (pc' := 5) C d_jdk_41m11_4 rfl rfl ?_
  refine Wk.iloadN (pc' := 6) C d_jdk_41m11_5 rfl rfl ?_
  refine Wk.icmp_lt C d_jdk_41m11_6 (by decide) (pcT := 16) (by decide) (pc' := 9) rfl (fun q12 => ?_) (fun q => absurd h2 q)
  refine Wk.iloadN (pc' := 17) C d_jdk_41m11_16 rfl rfl ?_
  exact Wk.retI C d_jdk_41m11_17 (by decide) (by decide) ⟨rfl, rfl⟩
set_option maxRecDepth 65536 in
set_option maxHeartbeats 40000000 in
theorem own_ck (l : Launch) {Z : State} {a0 : Array Value} (hw : Ws a0 Z) {h0 : Heap} (O0 : Ext Z.heap h0) (hs : Sets Z) (i n : Int32) (h1 : ¬ i < 0) (h2 : i < n) :
    Wk.Con l Z (⟨"java/lang/String", "checkIndex", "(II)V"⟩ : MethodName) jdk_42_method_155_code 2 none ({ frames := 1, cells := 0, slots := 0, locals := 14 } : Room) #[(.int i), (.int n)] h0 (fun v h' => v = none ∧ h' = h0) := by
  refine Wk.Con.intro (plainFor_of_name pn1) O0 (fun m => ef31 m i n) ?_
  intro W C
  replace C : Wk.Cx Z W "java/lang/String" "checkIndex" jdk_42_method_155_code 2 none := C
  obtain ⟨zc, fm, -, -, SF, rf⟩ := hs
  refine Wk.iloadN (pc' := 1) C d_jdk_42m155_0 rfl rfl ?_
  refine Wk.iloadN (pc' := 2) C d_jdk_42m155_1 rfl rfl ?_
  refine Wk.getS (pc' := 5) C d_jdk_42m155_2 (w111 hw) Via.refl (SF.ext O0) rfl ?_
  refine Wk.callS (pc' := 8) C d_jdk_42m155_5 (Wk.Con.pays C (Wn := 0) (own_ckP l hw O0 i n fm rf h1 h2) (w115 hw) (w112 hw) (by decide) (by decide)) Wk.cleanC (w113 hw) (w114 hw) (w112 hw) (w115 hw) (by decide) (argsL := [(.int i), (.int n), fm]) (st := []) rfl rfl (lenOf pd9 rfl) rfl (Nat.le_of_eq rfl) (k' := 0) rfl (n' := 0) rfl (by decide) (by decide) rfl ?_
  intro r11 h12 Q12 O12
  obtain ⟨rfl, e13⟩ := Q12
  obtain rfl := e13.symm
  refine Wk.pop (pc' := 9) C d_jdk_42m155_8 rfl rfl ?_
  exact Wk.retV C d_jdk_42m155_9 (by decide) (by decide) ⟨rfl, rfl⟩
set_option maxRecDepth 65536 in
set_option maxHeartbeats 40000000 in
theorem own_lchar (l : Launch) {Z : State} {a0 : Array Value} (hw : Ws a0 Z) {h0 : Heap} (O0 : Ext Z.heap h0) (hs : Sets Z) (t : Addr) (cs : List Int32) (i : Nat) (V : Wk.Ary Z h0 t .byte ((cs.map fun c => c.toInt8.toInt32).map Value.int)) (hp : ∀ c ∈ cs, ¬ c < 0 ∧ ¬ (255 : Int32) < c) (hl : cs.length ≤ 4000) (hi : i < cs.length) :
    Wk.Con l Z (⟨"java/lang/StringLatin1", "charAt", "([BI)C"⟩ : MethodName) jdk_43_method_2_code 2 (some .char) ({ frames := 2, cells := 0, slots := 0, locals := 27 } : Room) #[(.ref t), (.int (Int32.ofNat i))] h0 (fun v h' => v = some (.int (cs.getD i 0)) ∧ h' = h0) := by
  refine Wk.Con.intro (plainFor_of_name pn3) O0 (fun m => ef32 m t (Int32.ofNat i)) ?_
  intro W C
  replace C : Wk.Cx Z W "java/lang/StringLatin1" "charAt" jdk_43_method_2_code 2 (some .char) := C
  refine Wk.iloadN (pc' := 1) C d_jdk_43m2_0 rfl rfl ?_
  refine Wk.aloadN (pc' := 2) C d_jdk_43m2_1 rfl rfl rfl ?_
  refine Wk.alen (pc' := 3) C d_jdk_43m2_2 V (z := (Int32.ofNat cs.length)) (by simp) rfl ?_
  refine Wk.callS (pc' := 6) C d_jdk_43m2_3 (Wk.Con.pays C (Wn := 0) (own_ck l hw O0 hs (Int32.ofNat i) (Int32.ofNat cs.length) (Wk.nn32 (by omega)) ((Wk.lt32 (by omega) (by omega)).mpr (by omega))) (w110 hw) (w8 hw) (by decide) (by decide)) Wk.cleanC (w119 hw) (w109 hw) (w8 hw) (w110 hw) (by decide) (argsL := [(.int (Int32.ofNat i)), (.int (Int32.ofNat cs.length))]) (st := []) rfl rfl (lenOf pd10 rfl) rfl (Nat.le_of_eq rfl) (k' := 0) rfl (n' := 0) rfl (by decide) (by decide) rfl ?_
  intro r11 h12 Q12 O12
  obtain ⟨rfl, e13⟩ := Q12
  obtain rfl := e13.symm
  refine Wk.aloadN (pc' := 7) C d_jdk_43m2_6 rfl rfl rfl ?_
  refine Wk.iloadN (pc' := 8) C d_jdk_43m2_7 rfl rfl ?_
  refine Wk.baload (pc' := 9) C d_jdk_43m2_8 V (Wk.nn32 (by omega)) (v := (.int (cs.getD i 0).toInt8.toInt32)) (by rw [(Wk.nat32 (n := i) (by omega)).2]; exact own_getB8 hi) rfl ?_
  refine Wk.sipush (pc' := 12) C d_jdk_43m2_9 (v := (255 : Int32)) rfl rfl ?_
  obtain ⟨v14, hv14⟩ : ∃ z : Int32, (cs.getD i 0).toInt8.toInt32 &&& (255 : Int32) = z := ⟨_, rfl⟩
  refine Wk.iand (pc' := 13) C d_jdk_43m2_12 hv14 rfl ?_
  have f15 : v14 = (cs.getD i 0) := own_b255 (own_inS hp hi) hv14
  rw [f15]
  obtain ⟨v16, hv16⟩ : ∃ z : Int32, (cs.getD i 0).toUInt32.toUInt16.toUInt32.toInt32 = z := ⟨_, rfl⟩
  refine Wk.i2c (pc' := 14) C d_jdk_43m2_13 hv16 rfl ?_
  exact Wk.retNar (ty := .char) C (by simp) d_jdk_43m2_14 ((congrArg (nar .char) (own_i2cc (own_inS hp hi) hv16)).trans (Wk.nar_rng (own_inS hp hi))) (by decide) (by decide) ⟨rfl, rfl⟩
set_option maxRecDepth 65536 in
set_option maxHeartbeats 40000000 in
theorem own_charAt (l : Launch) {Z : State} {a0 : Array Value} (hw : Ws a0 Z) {h0 : Heap} (O0 : Ext Z.heap h0) (hs : Sets Z) (x : Addr) (cs : List Int32) (i : Nat) (F : Str Z h0 x cs) (hi : i < cs.length) :
    Wk.Con l Z (⟨"java/lang/String", "charAt", "(I)C"⟩ : MethodName) jdk_42_method_56_code 2 (some .char) ({ frames := 4, cells := 0, slots := 0, locals := 60 } : Room) #[(.ref x), (.int (Int32.ofNat i))] h0 (fun v h' => v = some (.int (cs.getD i 0)) ∧ h' = h0) := by
  refine Wk.Con.intro (plainFor_of_name pn1) O0 (fun m => ef33 m x (Int32.ofNat i)) ?_
  intro W C
  replace C : Wk.Cx Z W "java/lang/String" "charAt" jdk_42_method_56_code 2 (some .char) := C
  obtain ⟨t, F1, V⟩ := F.2.2.1
  have hl := F.2.2.2.2
  refine Wk.aloadN (pc' := 1) C d_jdk_42m56_0 rfl rfl rfl ?_
  refine Wk.callV (pc' := 4) C d_jdk_42m56_1 (a := x) (Wk.Con.pays C (Wn := 0) (own_isLatin1 l hw O0 hs x cs F) (w98 hw) (w8 hw) (by decide) (by decide)) Wk.cleanC F.exa (w94 hw) (w95 hw) (notFace_of_selects (args := #[]) (mvT C.hZ (w97 hw))) (w97 hw) (w96 hw) (by decide) (argsL := []) (st := []) rfl rfl (lenOf pd11 rfl) rfl (Nat.le_of_eq rfl) (k' := 0) rfl (n' := 0) rfl (by decide) (by decide) rfl ?_
  intro r11 h12 Q12 O12
  obtain ⟨rfl, e13⟩ := Q12
  obtain rfl := e13.symm
  refine Wk.if_eq C d_jdk_42m56_4 (by decide) (pcT := 16) (by decide) (pc' := 7) rfl (fun q => absurd q (by decide)) (fun q14 => ?_)
  refine Wk.aloadN (pc' := 8) C d_jdk_42m56_7 rfl rfl rfl ?_
  refine Wk.getF (pc' := 11) C d_jdk_42m56_8 (w26 hw) Via.refl F1 rfl ?_
  refine Wk.iloadN (pc' := 12) C d_jdk_42m56_11 rfl rfl ?_
  refine Wk.callS (pc' := 15) C d_jdk_42m56_12 (Wk.Con.pays C (Wn := 0) (own_lchar l hw O0 hs t cs i V F.2.2.2.1 hl hi) (w118 hw) (w48 hw) (by decide) (by decide)) Wk.cleanC (w116 hw) (w117 hw) (w48 hw) (w118 hw) (by decide) (argsL := [(.ref t), (.int (Int32.ofNat i))]) (st := []) rfl rfl (lenOf pd5 rfl) rfl (Nat.le_of_eq rfl) (k' := 0) rfl (n' := 0) rfl (by decide) (by decide) rfl ?_
  intro r15 h16 Q16 O16
  obtain ⟨rfl, e17⟩ := Q16
  obtain rfl := e17.symm
  exact Wk.retNar (ty := .char) C (by simp) d_jdk_42m56_15 (Wk.nar_rng (own_inS F.2.2.2.1 hi)) (by decide) (by decide) ⟨rfl, rfl⟩
set_option maxRecDepth 65536 in
set_option maxHeartbeats 40000000 in
theorem own_coder16 (l : Launch) {Z : State} {a0 : Array Value} (hw : Ws a0 Z) {h0 : Heap} (O0 : Ext Z.heap h0) (hs : Sets Z) (x : Addr) (cs : List Int32) (F : S16 Z h0 x cs) :
    Wk.Con l Z (⟨"java/lang/String", "coder", "()B"⟩ : MethodName) jdk_42_method_152_code 1 (some .byte) ({ frames := 0, cells := 0, slots := 0, locals := 0 } : Room) #[(.ref x)] h0 (fun v h' => v = some (.int 1) ∧ h' = h0) := by
  refine Wk.Con.intro (plainFor_of_name pn1) O0 (fun m => ef34 m x) ?_
  intro W C
  replace C : Wk.Cx Z W "java/lang/String" "coder" jdk_42_method_152_code 1 (some .byte) := C
  obtain ⟨zc, fm, SC, hzc, -, -⟩ := hs
  refine Wk.getS (pc' := 3) C d_jdk_42m152_0 (w42 hw) Via.refl (SC.ext O0) rfl ?_
  refine Wk.if_eq C d_jdk_42m152_3 (by decide) (pcT := 13) (by decide) (pc' := 6) rfl (fun q => absurd q hzc) (fun q11 => ?_)
  refine Wk.aloadN (pc' := 7) C d_jdk_42m152_6 rfl rfl rfl ?_
  refine Wk.getF (pc' := 10) C d_jdk_42m152_7 (w27 hw) Via.refl F.2.1 rfl ?_
  refine Wk.goto C d_jdk_42m152_10 (by decide) (pc' := 14) (by decide) ?_
  exact Wk.retNar (ty := .byte) C (by simp) d_jdk_42m152_14 rfl (by decide) (by decide) ⟨rfl, rfl⟩
set_option maxRecDepth 65536 in
set_option maxHeartbeats 40000000 in
theorem own_isL16 (l : Launch) {Z : State} {a0 : Array Value} (hw : Ws a0 Z) {h0 : Heap} (O0 : Ext Z.heap h0) (hs : Sets Z) (x : Addr) (cs : List Int32) (F : S16 Z h0 x cs) :
    Wk.Con l Z (⟨"java/lang/String", "isLatin1", "()Z"⟩ : MethodName) jdk_42_method_154_code 1 (some .boolean) ({ frames := 0, cells := 0, slots := 0, locals := 0 } : Room) #[(.ref x)] h0 (fun v h' => v = some (.int 0) ∧ h' = h0) := by
  refine Wk.Con.intro (plainFor_of_name pn1) O0 (fun m => ef35 m x) ?_
  intro W C
  replace C : Wk.Cx Z W "java/lang/String" "isLatin1" jdk_42_method_154_code 1 (some .boolean) := C
  obtain ⟨zc, fm, SC, hzc, -, -⟩ := hs
  refine Wk.getS (pc' := 3) C d_jdk_42m154_0 (w42 hw) Via.refl (SC.ext O0) rfl ?_
  refine Wk.if_eq C d_jdk_42m154_3 (by decide) (pcT := 17) (by decide) (pc' := 6) rfl (fun q => absurd q hzc) (fun q11 => ?_)
  refine Wk.aloadN (pc' := 7) C d_jdk_42m154_6 rfl rfl rfl ?_
  refine Wk.getF (pc' := 10) C d_jdk_42m154_7 (w27 hw) Via.refl F.2.1 rfl ?_
  refine Wk.if_ne C d_jdk_42m154_10 (by decide) (pcT := 17) (by decide) (pc' := 13) rfl (fun q12 => ?_) (fun q => absurd q (by decide))
  refine Wk.iconst (pc' := 18) C d_jdk_42m154_17 (v := (0 : Int32)) rfl rfl ?_
  exact Wk.retNar (ty := .boolean) C (by simp) d_jdk_42m154_18 rfl (by decide) (by decide) ⟨rfl, rfl⟩
set_option maxRecDepth 65536 in
set_option maxHeartbeats 40000000 in
theorem own_length16 (l : Launch) {Z : State} {a0 : Array Value} (hw : Ws a0 Z) {h0 : Heap} (O0 : Ext Z.heap h0) (hs : Sets Z) (x : Addr) (cs : List Int32) (F : S16 Z h0 x cs) :
    Wk.Con l Z (⟨"java/lang/String", "length", "()I"⟩ : MethodName) jdk_42_method_54_code 1 (some .int) ({ frames := 1, cells := 0, slots := 0, locals := 13 } : Room) #[(.ref x)] h0 (fun v h' => v = some (.int (Int32.ofNat cs.length)) ∧ h' = h0) := by
  refine Wk.Con.intro (plainFor_of_name pn1) O0 (fun m => ef36 m x) ?_
  intro W C
  replace C : Wk.Cx Z W "java/lang/String" "length" jdk_42_method_54_code 1 (some .int) := C
  obtain ⟨t, F1, V⟩ := F.2.2.1
  have hl := F.2.2.2.2
  refine Wk.aloadN (pc' := 1) C d_jdk_42m54_0 rfl rfl rfl ?_
  refine Wk.getF (pc' := 4) C d_jdk_42m54_1 (w26 hw) Via.refl F1 rfl ?_
  refine Wk.alen (pc' := 5) C d_jdk_42m54_4 V (z := (Int32.ofNat (2 * cs.length))) (by rw [u16B_len]) rfl ?_
  refine Wk.aloadN (pc' := 6) C d_jdk_42m54_5 rfl rfl rfl ?_
  refine Wk.callV (pc' := 9) C d_jdk_42m54_6 (a := x) (Wk.Con.pays C (Wn := 1) (own_coder16 l hw O0 hs x cs F) (w41 hw) (w8 hw) (by decide) (by decide)) Wk.cleanC F.exa (w37 hw) (w38 hw) (notFace_of_selects (args := #[]) (mvT C.hZ (w40 hw))) (w40 hw) (w39 hw) (by decide) (argsL := []) (st := [(.int (Int32.ofNat (2 * cs.length)))]) rfl rfl (lenOf pd8 rfl) rfl (Nat.le_of_eq rfl) (k' := 0) rfl (n' := 0) rfl (by decide) (by decide) rfl ?_
  intro r11 h12 Q12 O12
  obtain ⟨rfl, e13⟩ := Q12
  obtain rfl := e13.symm
  obtain ⟨v14, hv14⟩ : ∃ z : Int32, (Int32.ofNat (2 * cs.length)) >>> ((1 : Int32) &&& 31) = z := ⟨_, rfl⟩
  refine Wk.ishr (pc' := 10) C d_jdk_42m54_9 hv14 rfl ?_
  have f15 : v14 = (Int32.ofNat cs.length) := own_half (by omega) hv14
  rw [f15]
  exact Wk.retI C d_jdk_42m54_10 (by decide) (by decide) ⟨rfl, rfl⟩
set_option maxRecDepth 65536 in
set_option maxHeartbeats 40000000 in
theorem own_ck16 (l : Launch) {Z : State} {a0 : Array Value} (hw : Ws a0 Z) {h0 : Heap} (O0 : Ext Z.heap h0) (hs : Sets Z) (t : Addr) (cs : List Int32) (i : Nat) (V : Wk.Ary Z h0 t .byte (u16B cs)) (hl : cs.length ≤ 4) (hi : i < cs.length) :
    Wk.Con l Z (⟨"java/lang/StringUTF16", "checkIndex", "(I[B)V"⟩ : MethodName) jdk_52_method_91_code 2 none ({ frames := 2, cells := 0, slots := 0, locals := 28 } : Room) #[(.int (Int32.ofNat i)), (.ref t)] h0 (fun v h' => v = none ∧ h' = h0) := by
  refine Wk.Con.intro (plainFor_of_name pn0) O0 (fun m => ef37 m (Int32.ofNat i) t) ?_
  intro W C
  replace C : Wk.Cx Z W "java/lang/StringUTF16" "checkIndex" jdk_52_method_91_code 2 none := C
  refine Wk.iloadN (pc' := 1) C d_jdk_52m91_0 rfl rfl ?_
  refine Wk.aloadN (pc' := 2) C d_jdk_52m91_1 rfl rfl rfl ?_
  refine Wk.callS (pc' := 5) C d_jdk_52m91_2 (Wk.Con.pays C (Wn := 1) (own_l16 l hw O0 t (u16B cs) cs.length V (by omega) (u16B_len cs)) (w107 hw) (w59 hw) (by decide) (by decide)) Wk.cleanC (w105 hw) (w106 hw) (w59 hw) (w107 hw) (by decide) (argsL := [(.ref t)]) (st := [(.int (Int32.ofNat i))]) rfl rfl (lenOf pd12 rfl) rfl (Nat.le_of_eq rfl) (k' := 0) rfl (n' := 0) rfl (by decide) (by decide) rfl ?_
  intro r11 h12 Q12 O12
  obtain ⟨rfl, e13⟩ := Q12
  obtain rfl := e13.symm
  refine Wk.callS (pc' := 8) C d_jdk_52m91_5 (Wk.Con.pays C (Wn := 0) (own_ck l hw O0 hs (Int32.ofNat i) (Int32.ofNat cs.length) (Wk.nn32 (by omega)) ((Wk.lt32 (by omega) (by omega)).mpr (by omega))) (w110 hw) (w8 hw) (by decide) (by decide)) Wk.cleanC (w108 hw) (w109 hw) (w8 hw) (w110 hw) (by decide) (argsL := [(.int (Int32.ofNat i)), (.int (Int32.ofNat cs.length))]) (st := []) rfl rfl (lenOf pd10 rfl) rfl (Nat.le_of_eq rfl) (k' := 0) rfl (n' := 0) rfl (by decide) (by decide) rfl ?_
  intro r14 h15 Q15 O15
  obtain ⟨rfl, e16⟩ := Q15
  obtain rfl := e16.symm
  exact Wk.retV C d_jdk_52m91_8 (by decide) (by decide) ⟨rfl, rfl⟩
theorem own_inS16 {cs : List Int32} (hp : ∀ c ∈ cs, ¬ c < 0 ∧ ¬ (65535 : Int32) < c) {j : Nat} (h : j < cs.length) : ¬ cs.getD j 0 < 0 ∧ ¬ (65535 : Int32) < cs.getD j 0 := by
  have e : cs.getD j 0 = cs[j] := by simp [List.getD_eq_getElem?_getD, h]
  rw [e]; exact hp _ (List.getElem_mem h)
set_option maxRecDepth 65536 in
set_option maxHeartbeats 40000000 in
theorem own_uch16 (l : Launch) {Z : State} {a0 : Array Value} (hw : Ws a0 Z) {h0 : Heap} (O0 : Ext Z.heap h0) (hs : Sets Z) (us : U16s Z) (t : Addr) (cs : List Int32) (i : Nat) (V : Wk.Ary Z h0 t .byte (u16B cs)) (hl : cs.length ≤ 4) (hi : i < cs.length) (hp : ∀ c ∈ cs, ¬ c < 0 ∧ ¬ (65535 : Int32) < c) :
    Wk.Con l Z (⟨"java/lang/StringUTF16", "charAt", "([BI)C"⟩ : MethodName) jdk_52_method_83_code 2 (some .char) ({ frames := 3, cells := 0, slots := 0, locals := 44 } : Room) #[(.ref t), (.int (Int32.ofNat i))] h0 (fun v h' => v = some (.int (cs.getD i 0)) ∧ h' = h0) := by
  refine Wk.Con.intro (plainFor_of_name pn0) O0 (fun m => ef38 m t (Int32.ofNat i)) ?_
  intro W C
  replace C : Wk.Cx Z W "java/lang/StringUTF16" "charAt" jdk_52_method_83_code 2 (some .char) := C
  refine Wk.iloadN (pc' := 1) C d_jdk_52m83_0 rfl rfl ?_
  refine Wk.aloadN (pc' := 2) C d_jdk_52m83_1 rfl rfl rfl ?_
  refine Wk.callS (pc' := 5) C d_jdk_52m83_2 (Wk.Con.pays C (Wn := 0) (own_ck16 l hw O0 hs t cs i V hl hi) (w104 hw) (w59 hw) (by decide) (by decide)) Wk.cleanC (w102 hw) (w103 hw) (w59 hw) (w104 hw) (by decide) (argsL := [(.int (Int32.ofNat i)), (.ref t)]) (st := []) rfl rfl (lenOf pd13 rfl) rfl (Nat.le_of_eq rfl) (k' := 0) rfl (n' := 0) rfl (by decide) (by decide) rfl ?_
  intro r11 h12 Q12 O12
  obtain ⟨rfl, e13⟩ := Q12
  obtain rfl := e13.symm
  refine Wk.aloadN (pc' := 6) C d_jdk_52m83_5 rfl rfl rfl ?_
  refine Wk.iloadN (pc' := 7) C d_jdk_52m83_6 rfl rfl ?_
  refine Wk.callS (pc' := 10) C d_jdk_52m83_7 (Wk.Con.pays C (Wn := 0) (own_get16 l hw O0 us t (u16B cs) i (cs.getD i 0) V (by rw [u16B_len]; omega) (by rw [u16B_len]; omega) (u16B_get cs i hi).1 (u16B_get cs i hi).2 (own_inS16 hp hi)) (w85 hw) (w59 hw) (by decide) (by decide)) Wk.cleanC (w83 hw) (w84 hw) (w59 hw) (w85 hw) (by decide) (argsL := [(.ref t), (.int (Int32.ofNat i))]) (st := []) rfl rfl (lenOf pd5 rfl) rfl (Nat.le_of_eq rfl) (k' := 0) rfl (n' := 0) rfl (by decide) (by decide) rfl ?_
  intro r14 h15 Q15 O15
  obtain ⟨rfl, e16⟩ := Q15
  obtain rfl := e16.symm
  exact Wk.retNar (ty := .char) C (by simp) d_jdk_52m83_10 (Wk.nar_r16 (own_inS16 hp hi)) (by decide) (by decide) ⟨rfl, rfl⟩
set_option maxRecDepth 65536 in
set_option maxHeartbeats 40000000 in
theorem own_charAt16 (l : Launch) {Z : State} {a0 : Array Value} (hw : Ws a0 Z) {h0 : Heap} (O0 : Ext Z.heap h0) (hs : Sets Z) (us : U16s Z) (x : Addr) (cs : List Int32) (i : Nat) (F : S16 Z h0 x cs) (hi : i < cs.length) :
    Wk.Con l Z (⟨"java/lang/String", "charAt", "(I)C"⟩ : MethodName) jdk_42_method_56_code 2 (some .char) ({ frames := 4, cells := 0, slots := 0, locals := 60 } : Room) #[(.ref x), (.int (Int32.ofNat i))] h0 (fun v h' => v = some (.int (cs.getD i 0)) ∧ h' = h0) := by
  refine Wk.Con.intro (plainFor_of_name pn1) O0 (fun m => ef39 m x (Int32.ofNat i)) ?_
  intro W C
  replace C : Wk.Cx Z W "java/lang/String" "charAt" jdk_42_method_56_code 2 (some .char) := C
  obtain ⟨t, F1, V⟩ := F.2.2.1
  have hl := F.2.2.2.2
  refine Wk.aloadN (pc' := 1) C d_jdk_42m56_0 rfl rfl rfl ?_
  refine Wk.callV (pc' := 4) C d_jdk_42m56_1 (a := x) (Wk.Con.pays C (Wn := 0) (own_isL16 l hw O0 hs x cs F) (w98 hw) (w8 hw) (by decide) (by decide)) Wk.cleanC F.exa (w94 hw) (w95 hw) (notFace_of_selects (args := #[]) (mvT C.hZ (w97 hw))) (w97 hw) (w96 hw) (by decide) (argsL := []) (st := []) rfl rfl (lenOf pd11 rfl) rfl (Nat.le_of_eq rfl) (k' := 0) rfl (n' := 0) rfl (by decide) (by decide) rfl ?_
  intro r11 h12 Q12 O12
  obtain ⟨rfl, e13⟩ := Q12
  obtain rfl := e13.symm
  refine Wk.if_eq C d_jdk_42m56_4 (by decide) (pcT := 16) (by decide) (pc' := 7) rfl (fun q14 => ?_) (fun q => absurd q (by decide))
  refine Wk.aloadN (pc' := 17) C d_jdk_42m56_16 rfl rfl rfl ?_
  refine Wk.getF (pc' := 20) C d_jdk_42m56_17 (w26 hw) Via.refl F1 rfl ?_
  refine Wk.iloadN (pc' := 21) C d_jdk_42m56_20 rfl rfl ?_
  refine Wk.callS (pc' := 24) C d_jdk_42m56_21 (Wk.Con.pays C (Wn := 0) (own_uch16 l hw O0 hs us t cs i V hl hi F.2.2.2.1) (w101 hw) (w59 hw) (by decide) (by decide)) Wk.cleanC (w99 hw) (w100 hw) (w59 hw) (w101 hw) (by decide) (argsL := [(.ref t), (.int (Int32.ofNat i))]) (st := []) rfl rfl (lenOf pd5 rfl) rfl (Nat.le_of_eq rfl) (k' := 0) rfl (n' := 0) rfl (by decide) (by decide) rfl ?_
  intro r15 h16 Q16 O16
  obtain ⟨rfl, e17⟩ := Q16
  obtain rfl := e17.symm
  exact Wk.retNar (ty := .char) C (by simp) d_jdk_42m56_24 (Wk.nar_r16 (own_inS16 F.2.2.2.1 hi)) (by decide) (by decide) ⟨rfl, rfl⟩
/-- the String at x spells cs -/
def GS (Z : State) (h : Heap) (x : Addr) (cs : List Int32) : Prop := Str Z h x cs ∨ S16 Z h x cs
theorem GS.exa {Z : State} {h : Heap} {x : Addr} {cs : List Int32} (F : GS Z h x cs) : Exa Z h x StN := F.elim (·.exa) (·.exa)
theorem GS.ext {Z : State} {h h' : Heap} {x : Addr} {cs : List Int32} (F : GS Z h x cs) (E : Ext h h') : GS Z h' x cs := F.imp (·.ext E) (·.ext E)
theorem GS.len4 {Z : State} {h : Heap} {x : Addr} {cs : List Int32} (F : GS Z h x cs) : cs.length ≤ 4000 := F.elim (·.2.2.2.2) (fun q => Nat.le_trans q.2.2.2.2 (by decide))
/-- isTag's test of a char -/
def Tg (c : Int32) : Prop := (¬ c < 48 ∧ ¬ (57 : Int32) < c) ∨ (¬ c < 65 ∧ ¬ (90 : Int32) < c) ∨ (¬ c < 97 ∧ ¬ (122 : Int32) < c)
theorem own_or32n (n : Nat) : n ||| 32 = 64 * (n / 64) + (if n % 64 % 32 = n % 64 then n % 64 + 32 else n % 64) := by
  have h0 : n = (n / 64) <<< 6 + n % 64 := by rw [Nat.shiftLeft_eq]; omega
  have h1 : n % 64 < 2 ^ 6 := Nat.mod_lt _ (by decide)
  have h2 : n % 64 ||| 32 < 2 ^ 6 := Nat.or_lt_two_pow h1 (by decide)
  have h3 : n ||| 32 = (n / 64) <<< 6 + (n % 64 ||| 32) := by
    conv => lhs; rw [h0, Nat.shiftLeft_add_eq_or_of_lt h1, Nat.or_assoc]
    rw [Nat.shiftLeft_add_eq_or_of_lt h2]
  have h4 : ∀ r, r < 64 → r ||| 32 = if r % 32 = r then r + 32 else r := by decide
  rw [h3, h4 _ h1, Nat.shiftLeft_eq]
  omega
theorem own_or32 {c v : Int32} (r : ¬ c < 0 ∧ ¬ (65535 : Int32) < c) (h : c ||| 32 = v) : v.toInt = c.toInt ∧ c.toInt % 64 ≥ 32 ∨ v.toInt = c.toInt + 32 ∧ c.toInt % 64 < 32 := by
  obtain ⟨r1, r2⟩ := r
  rw [Int32.lt_iff_toInt_lt] at r1 r2
  have e0 : (0 : Int32).toInt = 0 := by decide
  have e1 : (65535 : Int32).toInt = 65535 := by decide
  obtain ⟨n, hn⟩ : ∃ n : Nat, c.toInt = n := ⟨c.toInt.toNat, by omega⟩
  have hc : c = Int32.ofNat n := Int32.toInt_inj.mp (by rw [hn, Int32.toInt_ofNat_of_lt (by omega)])
  have q := own_or32n n
  have hb : n ||| 32 < 2 ^ 17 := Nat.or_lt_two_pow (by omega) (by decide)
  have hv : v = Int32.ofNat (n ||| 32) := by
    rw [← h, hc]
    apply Int32.toBitVec_inj.mp
    rw [Int32.toBitVec_or]
    apply BitVec.eq_of_toNat_eq
    rw [BitVec.toNat_or]
    show (BitVec.ofNat 32 n).toNat ||| (BitVec.ofNat 32 32).toNat = (BitVec.ofNat 32 (n ||| 32)).toNat
    rw [BitVec.toNat_ofNat, BitVec.toNat_ofNat, BitVec.toNat_ofNat, Nat.mod_eq_of_lt (by omega), Nat.mod_eq_of_lt (by omega), Nat.mod_eq_of_lt (by omega)]
  have hv2 : v.toInt = ((n ||| 32 : Nat) : Int) := by rw [hv, Int32.toInt_ofNat_of_lt (by omega)]
  rw [hv2, hn]
  split at q <;> omega
theorem own_al1 {c d : Int32} (h : c - 48 = d) (r : ¬ c < 0 ∧ ¬ (65535 : Int32) < c) (h1 : ¬ d < 0) (h2 : d < 10) : Tg c := by
  have q := Wk.subI h
  obtain ⟨r1, r2⟩ := r
  rw [Wk.ltI] at r1 r2 h1 h2
  have e0 : (0 : Int32).toInt = 0 := by decide
  have e1 : (65535 : Int32).toInt = 65535 := by decide
  have e2 : (48 : Int32).toInt = 48 := by decide
  have e3 : (10 : Int32).toInt = 10 := by decide
  have e4 : (57 : Int32).toInt = 57 := by decide
  have z := rng32 d
  refine Or.inl ⟨?_, ?_⟩ <;> rw [Wk.ltI] <;> omega
theorem own_al2 {c d v : Int32} (h : c - 48 = d) (r : ¬ c < 0 ∧ ¬ (65535 : Int32) < c) (h1 : ¬ (¬ d < 0 ∧ d < 10)) (hv : c ||| 32 = v) : Tg c ↔ (¬ v < 97 ∧ ¬ (122 : Int32) < v) := by
  have q := Wk.subI h
  have o := own_or32 r hv
  obtain ⟨r1, r2⟩ := r
  unfold Tg
  simp only [Wk.ltI] at r1 r2 h1 ⊢
  have e0 : (0 : Int32).toInt = 0 := by decide
  have e1 : (65535 : Int32).toInt = 65535 := by decide
  have e2 : (48 : Int32).toInt = 48 := by decide
  have e3 : (10 : Int32).toInt = 10 := by decide
  have e4 : (57 : Int32).toInt = 57 := by decide
  have e5 : (65 : Int32).toInt = 65 := by decide
  have e6 : (90 : Int32).toInt = 90 := by decide
  have e7 : (97 : Int32).toInt = 97 := by decide
  have e8 : (122 : Int32).toInt = 122 := by decide
  have z := rng32 d
  rw [e0, e3] at h1
  rw [e2, e4, e5, e6, e7, e8]
  omega
theorem own_r16 {x z : Int32} (h : x.toUInt32.toUInt16.toUInt32.toInt32 = z) : ¬ z < 0 ∧ ¬ (65535 : Int32) < z := by
  have q := c_i2c x
  rw [h] at q
  have e0 : (0 : Int32).toInt = 0 := by decide
  have e1 : (65535 : Int32).toInt = 65535 := by decide
  rw [Wk.ltI, Wk.ltI]
  omega
theorem own_lenG (l : Launch) {Z : State} {a0 : Array Value} (hw : Ws a0 Z) {h0 : Heap} (O0 : Ext Z.heap h0) (hs : Sets Z) (x : Addr) (cs : List Int32) (F : GS Z h0 x cs) :
    Wk.Con l Z (⟨"java/lang/String", "length", "()I"⟩ : MethodName) jdk_42_method_54_code 1 (some .int) ({ frames := 1, cells := 0, slots := 0, locals := 13 } : Room) #[(.ref x)] h0 (fun v h' => v = some (.int (Int32.ofNat cs.length)) ∧ h' = h0) := F.elim (own_length l hw O0 hs x cs) (own_length16 l hw O0 hs x cs)
theorem own_lenG3 (l : Launch) {Z : State} {a0 : Array Value} (hw : Ws a0 Z) {h0 : Heap} (O0 : Ext Z.heap h0) (hs : Sets Z) (x : Addr) (c0 c1 c2 : Int32) (F : GS Z h0 x [c0, c1, c2]) :
    Wk.Con l Z (⟨"java/lang/String", "length", "()I"⟩ : MethodName) jdk_42_method_54_code 1 (some .int) ({ frames := 1, cells := 0, slots := 0, locals := 13 } : Room) #[(.ref x)] h0 (fun v h' => v = some (.int 3) ∧ h' = h0) := own_lenG l hw O0 hs x [c0, c1, c2] F
theorem own_chG (l : Launch) {Z : State} {a0 : Array Value} (hw : Ws a0 Z) {h0 : Heap} (O0 : Ext Z.heap h0) (hs : Sets Z) (us : U16s Z) (x : Addr) (cs : List Int32) (i : Nat) (F : GS Z h0 x cs) (hi : i < cs.length) :
    Wk.Con l Z (⟨"java/lang/String", "charAt", "(I)C"⟩ : MethodName) jdk_42_method_56_code 2 (some .char) ({ frames := 4, cells := 0, slots := 0, locals := 60 } : Room) #[(.ref x), (.int (Int32.ofNat i))] h0 (fun v h' => v = some (.int (cs.getD i 0)) ∧ h' = h0) := F.elim (fun F => own_charAt l hw O0 hs x cs i F hi) (fun F => own_charAt16 l hw O0 hs us x cs i F hi)
set_option maxRecDepth 65536 in
set_option maxHeartbeats 40000000 in
theorem own_alnum (l : Launch) {Z : State} {a0 : Array Value} (hw : Ws a0 Z) {h0 : Heap} (O0 : Ext Z.heap h0) (c : Int32) (r : ¬ c < 0 ∧ ¬ (65535 : Int32) < c) :
    Wk.Con l Z (⟨"com/example/shelfmark/shelfmark/model/MarcRecordIsTagPinLaw", "alnum", "(C)Z"⟩ : MethodName) method_4_code 3 (some .boolean) ({ frames := 0, cells := 0, slots := 0, locals := 0 } : Room) #[(.int c)] h0 (fun v h' => ((v = some (.int 1) ∧ Tg c) ∨ (v = some (.int 0) ∧ ¬ Tg c)) ∧ h' = h0) := by
  refine Wk.Con.intro (plainFor_of_name pn4) O0 (fun m => ef40 m c) ?_
  intro W C
  replace C : Wk.Cx Z W "com/example/shelfmark/shelfmark/model/MarcRecordIsTagPinLaw" "alnum" method_4_code 3 (some .boolean) := C
  refine Wk.iloadN (pc' := 1) C d_method_4_0 rfl rfl ?_
  refine Wk.bipush (pc' := 3) C d_method_4_1 (v := (48 : Int32)) rfl rfl ?_
  obtain ⟨v11, hv11⟩ : ∃ z : Int32, c - (48 : Int32) = z := ⟨_, rfl⟩
  refine Wk.isub (pc' := 4) C d_method_4_3 hv11 rfl ?_
  refine Wk.istoreN (pc' := 5) C d_method_4_4 (Ls' := #[.val (.int c), .val (.int v11), .unset]) rfl rfl ?_
  refine Wk.iloadN (pc' := 6) C d_method_4_5 rfl rfl ?_
  refine Wk.if_lt C d_method_4_6 (by decide) (pcT := 17) (by decide) (pc' := 9) rfl (fun q12 => ?_) (fun q12 => ?_)
  · -- pc 6: taken
    refine Wk.iloadN (pc' := 18) C d_method_4_17 rfl rfl ?_
    refine Wk.bipush (pc' := 20) C d_method_4_18 (v := (32 : Int32)) rfl rfl ?_
    obtain ⟨v13, hv13⟩ : ∃ z : Int32, c ||| (32 : Int32) = z := ⟨_, rfl⟩
    refine Wk.ior (pc' := 21) C d_method_4_20 hv13 rfl ?_
    refine Wk.istoreN (pc' := 22) C d_method_4_21 (Ls' := #[.val (.int c), .val (.int v11), .val (.int v13)]) rfl rfl ?_
    refine Wk.iloadN (pc' := 23) C d_method_4_22 rfl rfl ?_
    refine Wk.bipush (pc' := 25) C d_method_4_23 (v := (97 : Int32)) rfl rfl ?_
    refine Wk.icmp_lt C d_method_4_25 (by decide) (pcT := 38) (by decide) (pc' := 28) rfl (fun q14 => ?_) (fun q14 => ?_)
    · -- pc 25: taken
      refine Wk.iconst (pc' := 39) C d_method_4_38 (v := (0 : Int32)) rfl rfl ?_
      exact Wk.retNar (ty := .boolean) C (by simp) d_method_4_39 rfl (by decide) (by decide) ⟨Or.inr ⟨rfl, fun z => ((own_al2 hv11 r (fun z => z.1 q12) hv13).mp z).1 q14⟩, rfl⟩
    · -- pc 25: not taken
      refine Wk.iloadN (pc' := 29) C d_method_4_28 rfl rfl ?_
      refine Wk.bipush (pc' := 31) C d_method_4_29 (v := (122 : Int32)) rfl rfl ?_
      refine Wk.icmp_gt C d_method_4_31 (by decide) (pcT := 38) (by decide) (pc' := 34) rfl (fun q15 => ?_) (fun q15 => ?_)
      · -- pc 31: taken
        refine Wk.iconst (pc' := 39) C d_method_4_38 (v := (0 : Int32)) rfl rfl ?_
        exact Wk.retNar (ty := .boolean) C (by simp) d_method_4_39 rfl (by decide) (by decide) ⟨Or.inr ⟨rfl, fun z => ((own_al2 hv11 r (fun z => z.1 q12) hv13).mp z).2 q15⟩, rfl⟩
      · -- pc 31: not taken
        refine Wk.iconst (pc' := 35) C d_method_4_34 (v := (1 : Int32)) rfl rfl ?_
        refine Wk.goto C d_method_4_35 (by decide) (pc' := 39) (by decide) ?_
        exact Wk.retNar (ty := .boolean) C (by simp) d_method_4_39 rfl (by decide) (by decide) ⟨Or.inl ⟨rfl, (own_al2 hv11 r (fun z => z.1 q12) hv13).mpr ⟨q14, q15⟩⟩, rfl⟩
  · -- pc 6: not taken
    refine Wk.iloadN (pc' := 10) C d_method_4_9 rfl rfl ?_
    refine Wk.bipush (pc' := 12) C d_method_4_10 (v := (10 : Int32)) rfl rfl ?_
    refine Wk.icmp_ge C d_method_4_12 (by decide) (pcT := 17) (by decide) (pc' := 15) rfl (fun q16 => ?_) (fun q16 => ?_)
    · -- pc 12: taken
      refine Wk.iloadN (pc' := 18) C d_method_4_17 rfl rfl ?_
      refine Wk.bipush (pc' := 20) C d_method_4_18 (v := (32 : Int32)) rfl rfl ?_
      obtain ⟨v17, hv17⟩ : ∃ z : Int32, c ||| (32 : Int32) = z := ⟨_, rfl⟩
      refine Wk.ior (pc' := 21) C d_method_4_20 hv17 rfl ?_
      refine Wk.istoreN (pc' := 22) C d_method_4_21 (Ls' := #[.val (.int c), .val (.int v11), .val (.int v17)]) rfl rfl ?_
      refine Wk.iloadN (pc' := 23) C d_method_4_22 rfl rfl ?_
      refine Wk.bipush (pc' := 25) C d_method_4_23 (v := (97 : Int32)) rfl rfl ?_
      refine Wk.icmp_lt C d_method_4_25 (by decide) (pcT := 38) (by decide) (pc' := 28) rfl (fun q18 => ?_) (fun q18 => ?_)
      · -- pc 25: taken
        refine Wk.iconst (pc' := 39) C d_method_4_38 (v := (0 : Int32)) rfl rfl ?_
        exact Wk.retNar (ty := .boolean) C (by simp) d_method_4_39 rfl (by decide) (by decide) ⟨Or.inr ⟨rfl, fun z => ((own_al2 hv11 r (fun z => q16 z.2) hv17).mp z).1 q18⟩, rfl⟩
      · -- pc 25: not taken
        refine Wk.iloadN (pc' := 29) C d_method_4_28 rfl rfl ?_
        refine Wk.bipush (pc' := 31) C d_method_4_29 (v := (122 : Int32)) rfl rfl ?_
        refine Wk.icmp_gt C d_method_4_31 (by decide) (pcT := 38) (by decide) (pc' := 34) rfl (fun q19 => ?_) (fun q19 => ?_)
        · -- pc 31: taken
          refine Wk.iconst (pc' := 39) C d_method_4_38 (v := (0 : Int32)) rfl rfl ?_
          exact Wk.retNar (ty := .boolean) C (by simp) d_method_4_39 rfl (by decide) (by decide) ⟨Or.inr ⟨rfl, fun z => ((own_al2 hv11 r (fun z => q16 z.2) hv17).mp z).2 q19⟩, rfl⟩
        · -- pc 31: not taken
          refine Wk.iconst (pc' := 35) C d_method_4_34 (v := (1 : Int32)) rfl rfl ?_
          refine Wk.goto C d_method_4_35 (by decide) (pc' := 39) (by decide) ?_
          exact Wk.retNar (ty := .boolean) C (by simp) d_method_4_39 rfl (by decide) (by decide) ⟨Or.inl ⟨rfl, (own_al2 hv11 r (fun z => q16 z.2) hv17).mpr ⟨q18, q19⟩⟩, rfl⟩
    · -- pc 12: not taken
      refine Wk.iconst (pc' := 16) C d_method_4_15 (v := (1 : Int32)) rfl rfl ?_
      exact Wk.retNar (ty := .boolean) C (by simp) d_method_4_16 rfl (by decide) (by decide) ⟨Or.inl ⟨rfl, own_al1 hv11 r q12 q16⟩, rfl⟩
set_option maxRecDepth 65536 in
set_option maxHeartbeats 40000000 in
theorem own_tagN (l : Launch) {Z : State} {a0 : Array Value} (hw : Ws a0 Z) {h0 : Heap} (O0 : Ext Z.heap h0) (hs : Sets Z) (x : Addr) (cs : List Int32) (F : GS Z h0 x cs) (h3 : ¬ cs.length = 3) :
    Wk.Con l Z (⟨"com/example/shelfmark/shelfmark/model/MarcRecord", "isTag", "(Ljava/lang/String;)Z"⟩ : MethodName) prog_36_method_9_code 4 (some .boolean) ({ frames := 2, cells := 0, slots := 0, locals := 26 } : Room) #[(.ref x)] h0 (fun v h' => v = some (.int 0) ∧ h' = h0) := by
  refine Wk.Con.intro (plainFor_of_name pn5) O0 (fun m => ef41 m x) ?_
  intro W C
  replace C : Wk.Cx Z W "com/example/shelfmark/shelfmark/model/MarcRecord" "isTag" prog_36_method_9_code 4 (some .boolean) := C
  refine Wk.aloadN (pc' := 1) C d_prog_36m9_0 rfl rfl rfl ?_
  refine Wk.callV (pc' := 4) C d_prog_36m9_1 (a := x) (Wk.Con.pays C (Wn := 0) (own_lenG l hw O0 hs x cs F) (w36 hw) (w8 hw) (by decide) (by decide)) Wk.cleanC F.exa (w32 hw) (w33 hw) (notFace_of_selects (args := #[]) (mvT C.hZ (w35 hw))) (w35 hw) (w34 hw) (by decide) (argsL := []) (st := []) rfl rfl (lenOf pd14 rfl) rfl (Nat.le_of_eq rfl) (k' := 0) rfl (n' := 0) rfl (by decide) (by decide) rfl ?_
  intro r11 h12 Q12 O12
  obtain ⟨rfl, e13⟩ := Q12
  obtain rfl := e13.symm
  refine Wk.iconst (pc' := 5) C d_prog_36m9_4 (v := (3 : Int32)) rfl rfl ?_
  refine Wk.icmp_ne C d_prog_36m9_5 (by decide) (pcT := 12) (by decide) (pc' := 8) rfl (fun q14 => ?_) (fun q => absurd ((Wk.eq32 (b := 3) F.len4 (by decide)).mp q) h3)
  refine Wk.iconst (pc' := 13) C d_prog_36m9_12 (v := (0 : Int32)) rfl rfl ?_
  refine Wk.istoreN (pc' := 14) C d_prog_36m9_13 (Ls' := #[.val (.ref x), .val (.int (0 : Int32)), .unset, .unset]) rfl rfl ?_
  refine Wk.iconst (pc' := 15) C d_prog_36m9_14 (v := (0 : Int32)) rfl rfl ?_
  refine Wk.istoreN (pc' := 16) C d_prog_36m9_15 (Ls' := #[.val (.ref x), .val (.int (0 : Int32)), .val (.int (0 : Int32)), .unset]) rfl rfl ?_
  refine Wk.iloadN (pc' := 17) C d_prog_36m9_16 rfl rfl ?_
  refine Wk.if_eq C d_prog_36m9_17 (by decide) (pcT := 82) (by decide) (pc' := 20) rfl (fun q15 => ?_) (fun q => absurd q (by decide))
  refine Wk.iloadN (pc' := 83) C d_prog_36m9_82 rfl rfl ?_
  exact Wk.retNar (ty := .boolean) C (by simp) d_prog_36m9_83 rfl (by decide) (by decide) ⟨rfl, rfl⟩
set_option maxRecDepth 65536 in
set_option maxHeartbeats 40000000 in
theorem own_tag3 (l : Launch) {Z : State} {a0 : Array Value} (hw : Ws a0 Z) {h0 : Heap} (O0 : Ext Z.heap h0) (hs : Sets Z) (us : U16s Z) (x : Addr) (c0 c1 c2 : Int32) (F : GS Z h0 x [c0, c1, c2]) :
    Wk.Con l Z (⟨"com/example/shelfmark/shelfmark/model/MarcRecord", "isTag", "(Ljava/lang/String;)Z"⟩ : MethodName) prog_36_method_9_code 4 (some .boolean) ({ frames := 5, cells := 0, slots := 0, locals := 76 } : Room) #[(.ref x)] h0 (fun v h' => ((v = some (.int 1) ∧ Tg c0 ∧ Tg c1 ∧ Tg c2) ∨ (v = some (.int 0) ∧ ¬ (Tg c0 ∧ Tg c1 ∧ Tg c2))) ∧ h' = h0) := by
  refine Wk.Con.intro (plainFor_of_name pn5) O0 (fun m => ef42 m x) ?_
  intro W C
  replace C : Wk.Cx Z W "com/example/shelfmark/shelfmark/model/MarcRecord" "isTag" prog_36_method_9_code 4 (some .boolean) := C
  refine Wk.aloadN (pc' := 1) C d_prog_36m9_0 rfl rfl rfl ?_
  refine Wk.callV (pc' := 4) C d_prog_36m9_1 (a := x) (Wk.Con.pays C (Wn := 0) (own_lenG3 l hw O0 hs x c0 c1 c2 F) (w36 hw) (w8 hw) (by decide) (by decide)) Wk.cleanC F.exa (w32 hw) (w33 hw) (notFace_of_selects (args := #[]) (mvT C.hZ (w35 hw))) (w35 hw) (w34 hw) (by decide) (argsL := []) (st := []) rfl rfl (lenOf pd14 rfl) rfl (Nat.le_of_eq rfl) (k' := 0) rfl (n' := 0) rfl (by decide) (by decide) rfl ?_
  intro r11 h12 Q12 O12
  obtain ⟨rfl, e13⟩ := Q12
  obtain rfl := e13.symm
  refine Wk.iconst (pc' := 5) C d_prog_36m9_4 (v := (3 : Int32)) rfl rfl ?_
  refine Wk.icmp_ne C d_prog_36m9_5 (by decide) (pcT := 12) (by decide) (pc' := 8) rfl (fun q => absurd q (by decide)) (fun q14 => ?_)
  refine Wk.iconst (pc' := 9) C d_prog_36m9_8 (v := (1 : Int32)) rfl rfl ?_
  refine Wk.goto C d_prog_36m9_9 (by decide) (pc' := 13) (by decide) ?_
  refine Wk.istoreN (pc' := 14) C d_prog_36m9_13 (Ls' := #[.val (.ref x), .val (.int (1 : Int32)), .unset, .unset]) rfl rfl ?_
  refine Wk.iconst (pc' := 15) C d_prog_36m9_14 (v := (0 : Int32)) rfl rfl ?_
  refine Wk.istoreN (pc' := 16) C d_prog_36m9_15 (Ls' := #[.val (.ref x), .val (.int (1 : Int32)), .val (.int (0 : Int32)), .unset]) rfl rfl ?_
  refine Wk.iloadN (pc' := 17) C d_prog_36m9_16 rfl rfl ?_
  refine Wk.if_eq C d_prog_36m9_17 (by decide) (pcT := 82) (by decide) (pc' := 20) rfl (fun q => absurd q (by decide)) (fun q15 => ?_)
  refine Wk.iloadN (pc' := 21) C d_prog_36m9_20 rfl rfl ?_
  refine Wk.aloadN (pc' := 22) C d_prog_36m9_21 rfl rfl rfl ?_
  refine Wk.callV (pc' := 25) C d_prog_36m9_22 (a := x) (Wk.Con.pays C (Wn := 1) (own_lenG3 l hw O0 hs x c0 c1 c2 F) (w36 hw) (w8 hw) (by decide) (by decide)) Wk.cleanC F.exa (w32 hw) (w33 hw) (notFace_of_selects (args := #[]) (mvT C.hZ (w35 hw))) (w35 hw) (w34 hw) (by decide) (argsL := []) (st := [(.int (0 : Int32))]) rfl rfl (lenOf pd14 rfl) rfl (Nat.le_of_eq rfl) (k' := 0) rfl (n' := 0) rfl (by decide) (by decide) rfl ?_
  intro r16 h17 Q17 O17
  obtain ⟨rfl, e18⟩ := Q17
  obtain rfl := e18.symm
  refine Wk.icmp_ge C d_prog_36m9_25 (by decide) (pcT := 82) (by decide) (pc' := 28) rfl (fun q => absurd q (by decide)) (fun q19 => ?_)
  refine Wk.aloadN (pc' := 29) C d_prog_36m9_28 rfl rfl rfl ?_
  refine Wk.iloadN (pc' := 30) C d_prog_36m9_29 rfl rfl ?_
  refine Wk.callV (pc' := 33) C d_prog_36m9_30 (a := x) (Wk.Con.pays C (Wn := 0) (own_chG l hw O0 hs us x [c0, c1, c2] 0 F (show _ < _ from Nat.le_of_ble_eq_true rfl)) (w93 hw) (w8 hw) (by decide) (by decide)) Wk.cleanC F.exa (w89 hw) (w90 hw) (notFace_of_selects (args := #[]) (mvT C.hZ (w92 hw))) (w92 hw) (w91 hw) (by decide) (argsL := [(.int (0 : Int32))]) (st := []) rfl rfl (lenOf pd15 rfl) rfl (Nat.le_of_eq rfl) (k' := 0) rfl (n' := 0) rfl (by decide) (by decide) rfl ?_
  intro r20 h21 Q21 O21
  obtain ⟨rfl, e22⟩ := Q21
  obtain rfl := e22.symm
  refine Wk.istoreN (pc' := 34) C d_prog_36m9_33 (Ls' := #[.val (.ref x), .val (.int (1 : Int32)), .val (.int (0 : Int32)), .val (.int c0)]) rfl rfl ?_
  have J01 : Tg c0 → Wk.Run l ({ frames := 5, cells := 0, slots := 0, locals := 76 } : Room) Z W (fun v h' => ((v = some (.int 1) ∧ Tg c0 ∧ Tg c1 ∧ Tg c2) ∨ (v = some (.int 0) ∧ ¬ (Tg c0 ∧ Tg c1 ∧ Tg c2))) ∧ h' = h0) h0 0 0 (mkF W.m 75 #[.val (.ref x), .val (.int (1 : Int32)), .val (.int (0 : Int32)), .val (.int c0)] [(.int (1 : Int32))]) := by
    intro T0
    refine Wk.istoreN (pc' := 76) C d_prog_36m9_75 (Ls' := #[.val (.ref x), .val (.int (1 : Int32)), .val (.int (0 : Int32)), .val (.int c0)]) rfl rfl ?_
    refine Wk.iinc (pc' := 79) C d_prog_36m9_76 rfl (v := (1 : Int32)) (by decide) (Ls' := #[.val (.ref x), .val (.int (1 : Int32)), .val (.int (1 : Int32)), .val (.int c0)]) rfl rfl ?_
    refine Wk.goto C d_prog_36m9_79 (by decide) (pc' := 16) (by decide) ?_
    refine Wk.iloadN (pc' := 17) C d_prog_36m9_16 rfl rfl ?_
    refine Wk.if_eq C d_prog_36m9_17 (by decide) (pcT := 82) (by decide) (pc' := 20) rfl (fun q => absurd q (by decide)) (fun q23 => ?_)
    refine Wk.iloadN (pc' := 21) C d_prog_36m9_20 rfl rfl ?_
    refine Wk.aloadN (pc' := 22) C d_prog_36m9_21 rfl rfl rfl ?_
    refine Wk.callV (pc' := 25) C d_prog_36m9_22 (a := x) (Wk.Con.pays C (Wn := 1) (own_lenG3 l hw O0 hs x c0 c1 c2 F) (w36 hw) (w8 hw) (by decide) (by decide)) Wk.cleanC F.exa (w32 hw) (w33 hw) (notFace_of_selects (args := #[]) (mvT C.hZ (w35 hw))) (w35 hw) (w34 hw) (by decide) (argsL := []) (st := [(.int (1 : Int32))]) rfl rfl (lenOf pd14 rfl) rfl (Nat.le_of_eq rfl) (k' := 0) rfl (n' := 0) rfl (by decide) (by decide) rfl ?_
    intro r24 h25 Q25 O25
    obtain ⟨rfl, e26⟩ := Q25
    obtain rfl := e26.symm
    refine Wk.icmp_ge C d_prog_36m9_25 (by decide) (pcT := 82) (by decide) (pc' := 28) rfl (fun q => absurd q (by decide)) (fun q27 => ?_)
    refine Wk.aloadN (pc' := 29) C d_prog_36m9_28 rfl rfl rfl ?_
    refine Wk.iloadN (pc' := 30) C d_prog_36m9_29 rfl rfl ?_
    refine Wk.callV (pc' := 33) C d_prog_36m9_30 (a := x) (Wk.Con.pays C (Wn := 0) (own_chG l hw O0 hs us x [c0, c1, c2] 1 F (show _ < _ from Nat.le_of_ble_eq_true rfl)) (w93 hw) (w8 hw) (by decide) (by decide)) Wk.cleanC F.exa (w89 hw) (w90 hw) (notFace_of_selects (args := #[]) (mvT C.hZ (w92 hw))) (w92 hw) (w91 hw) (by decide) (argsL := [(.int (1 : Int32))]) (st := []) rfl rfl (lenOf pd15 rfl) rfl (Nat.le_of_eq rfl) (k' := 0) rfl (n' := 0) rfl (by decide) (by decide) rfl ?_
    intro r28 h29 Q29 O29
    obtain ⟨rfl, e30⟩ := Q29
    obtain rfl := e30.symm
    refine Wk.istoreN (pc' := 34) C d_prog_36m9_33 (Ls' := #[.val (.ref x), .val (.int (1 : Int32)), .val (.int (1 : Int32)), .val (.int c1)]) rfl rfl ?_
    have J11 : Tg c1 → Wk.Run l ({ frames := 5, cells := 0, slots := 0, locals := 76 } : Room) Z W (fun v h' => ((v = some (.int 1) ∧ Tg c0 ∧ Tg c1 ∧ Tg c2) ∨ (v = some (.int 0) ∧ ¬ (Tg c0 ∧ Tg c1 ∧ Tg c2))) ∧ h' = h0) h0 0 0 (mkF W.m 75 #[.val (.ref x), .val (.int (1 : Int32)), .val (.int (1 : Int32)), .val (.int c1)] [(.int (1 : Int32))]) := by
      intro T1
      refine Wk.istoreN (pc' := 76) C d_prog_36m9_75 (Ls' := #[.val (.ref x), .val (.int (1 : Int32)), .val (.int (1 : Int32)), .val (.int c1)]) rfl rfl ?_
      refine Wk.iinc (pc' := 79) C d_prog_36m9_76 rfl (v := (2 : Int32)) (by decide) (Ls' := #[.val (.ref x), .val (.int (1 : Int32)), .val (.int (2 : Int32)), .val (.int c1)]) rfl rfl ?_
      refine Wk.goto C d_prog_36m9_79 (by decide) (pc' := 16) (by decide) ?_
      refine Wk.iloadN (pc' := 17) C d_prog_36m9_16 rfl rfl ?_
      refine Wk.if_eq C d_prog_36m9_17 (by decide) (pcT := 82) (by decide) (pc' := 20) rfl (fun q => absurd q (by decide)) (fun q31 => ?_)
      refine Wk.iloadN (pc' := 21) C d_prog_36m9_20 rfl rfl ?_
      refine Wk.aloadN (pc' := 22) C d_prog_36m9_21 rfl rfl rfl ?_
      refine Wk.callV (pc' := 25) C d_prog_36m9_22 (a := x) (Wk.Con.pays C (Wn := 1) (own_lenG3 l hw O0 hs x c0 c1 c2 F) (w36 hw) (w8 hw) (by decide) (by decide)) Wk.cleanC F.exa (w32 hw) (w33 hw) (notFace_of_selects (args := #[]) (mvT C.hZ (w35 hw))) (w35 hw) (w34 hw) (by decide) (argsL := []) (st := [(.int (2 : Int32))]) rfl rfl (lenOf pd14 rfl) rfl (Nat.le_of_eq rfl) (k' := 0) rfl (n' := 0) rfl (by decide) (by decide) rfl ?_
      intro r32 h33 Q33 O33
      obtain ⟨rfl, e34⟩ := Q33
      obtain rfl := e34.symm
      refine Wk.icmp_ge C d_prog_36m9_25 (by decide) (pcT := 82) (by decide) (pc' := 28) rfl (fun q => absurd q (by decide)) (fun q35 => ?_)
      refine Wk.aloadN (pc' := 29) C d_prog_36m9_28 rfl rfl rfl ?_
      refine Wk.iloadN (pc' := 30) C d_prog_36m9_29 rfl rfl ?_
      refine Wk.callV (pc' := 33) C d_prog_36m9_30 (a := x) (Wk.Con.pays C (Wn := 0) (own_chG l hw O0 hs us x [c0, c1, c2] 2 F (show _ < _ from Nat.le_of_ble_eq_true rfl)) (w93 hw) (w8 hw) (by decide) (by decide)) Wk.cleanC F.exa (w89 hw) (w90 hw) (notFace_of_selects (args := #[]) (mvT C.hZ (w92 hw))) (w92 hw) (w91 hw) (by decide) (argsL := [(.int (2 : Int32))]) (st := []) rfl rfl (lenOf pd15 rfl) rfl (Nat.le_of_eq rfl) (k' := 0) rfl (n' := 0) rfl (by decide) (by decide) rfl ?_
      intro r36 h37 Q37 O37
      obtain ⟨rfl, e38⟩ := Q37
      obtain rfl := e38.symm
      refine Wk.istoreN (pc' := 34) C d_prog_36m9_33 (Ls' := #[.val (.ref x), .val (.int (1 : Int32)), .val (.int (2 : Int32)), .val (.int c2)]) rfl rfl ?_
      have J21 : Tg c2 → Wk.Run l ({ frames := 5, cells := 0, slots := 0, locals := 76 } : Room) Z W (fun v h' => ((v = some (.int 1) ∧ Tg c0 ∧ Tg c1 ∧ Tg c2) ∨ (v = some (.int 0) ∧ ¬ (Tg c0 ∧ Tg c1 ∧ Tg c2))) ∧ h' = h0) h0 0 0 (mkF W.m 75 #[.val (.ref x), .val (.int (1 : Int32)), .val (.int (2 : Int32)), .val (.int c2)] [(.int (1 : Int32))]) := by
        intro T2
        refine Wk.istoreN (pc' := 76) C d_prog_36m9_75 (Ls' := #[.val (.ref x), .val (.int (1 : Int32)), .val (.int (2 : Int32)), .val (.int c2)]) rfl rfl ?_
        refine Wk.iinc (pc' := 79) C d_prog_36m9_76 rfl (v := (3 : Int32)) (by decide) (Ls' := #[.val (.ref x), .val (.int (1 : Int32)), .val (.int (3 : Int32)), .val (.int c2)]) rfl rfl ?_
        refine Wk.goto C d_prog_36m9_79 (by decide) (pc' := 16) (by decide) ?_
        refine Wk.iloadN (pc' := 17) C d_prog_36m9_16 rfl rfl ?_
        refine Wk.if_eq C d_prog_36m9_17 (by decide) (pcT := 82) (by decide) (pc' := 20) rfl (fun q => absurd q (by decide)) (fun q39 => ?_)
        refine Wk.iloadN (pc' := 21) C d_prog_36m9_20 rfl rfl ?_
        refine Wk.aloadN (pc' := 22) C d_prog_36m9_21 rfl rfl rfl ?_
        refine Wk.callV (pc' := 25) C d_prog_36m9_22 (a := x) (Wk.Con.pays C (Wn := 1) (own_lenG3 l hw O0 hs x c0 c1 c2 F) (w36 hw) (w8 hw) (by decide) (by decide)) Wk.cleanC F.exa (w32 hw) (w33 hw) (notFace_of_selects (args := #[]) (mvT C.hZ (w35 hw))) (w35 hw) (w34 hw) (by decide) (argsL := []) (st := [(.int (3 : Int32))]) rfl rfl (lenOf pd14 rfl) rfl (Nat.le_of_eq rfl) (k' := 0) rfl (n' := 0) rfl (by decide) (by decide) rfl ?_
        intro r40 h41 Q41 O41
        obtain ⟨rfl, e42⟩ := Q41
        obtain rfl := e42.symm
        refine Wk.icmp_ge C d_prog_36m9_25 (by decide) (pcT := 82) (by decide) (pc' := 28) rfl (fun q43 => ?_) (fun q => absurd q (by decide))
        refine Wk.iloadN (pc' := 83) C d_prog_36m9_82 rfl rfl ?_
        exact Wk.retNar (ty := .boolean) C (by simp) d_prog_36m9_83 rfl (by decide) (by decide) ⟨Or.inl ⟨rfl, T0, T1, T2⟩, rfl⟩
      have J20 : ¬ Tg c2 → Wk.Run l ({ frames := 5, cells := 0, slots := 0, locals := 76 } : Room) Z W (fun v h' => ((v = some (.int 1) ∧ Tg c0 ∧ Tg c1 ∧ Tg c2) ∨ (v = some (.int 0) ∧ ¬ (Tg c0 ∧ Tg c1 ∧ Tg c2))) ∧ h' = h0) h0 0 0 (mkF W.m 75 #[.val (.ref x), .val (.int (1 : Int32)), .val (.int (2 : Int32)), .val (.int c2)] [(.int (0 : Int32))]) := by
        intro T2
        refine Wk.istoreN (pc' := 76) C d_prog_36m9_75 (Ls' := #[.val (.ref x), .val (.int (0 : Int32)), .val (.int (2 : Int32)), .val (.int c2)]) rfl rfl ?_
        refine Wk.iinc (pc' := 79) C d_prog_36m9_76 rfl (v := (3 : Int32)) (by decide) (Ls' := #[.val (.ref x), .val (.int (0 : Int32)), .val (.int (3 : Int32)), .val (.int c2)]) rfl rfl ?_
        refine Wk.goto C d_prog_36m9_79 (by decide) (pc' := 16) (by decide) ?_
        refine Wk.iloadN (pc' := 17) C d_prog_36m9_16 rfl rfl ?_
        refine Wk.if_eq C d_prog_36m9_17 (by decide) (pcT := 82) (by decide) (pc' := 20) rfl (fun q44 => ?_) (fun q => absurd q (by decide))
        refine Wk.iloadN (pc' := 83) C d_prog_36m9_82 rfl rfl ?_
        exact Wk.retNar (ty := .boolean) C (by simp) d_prog_36m9_83 rfl (by decide) (by decide) ⟨Or.inr ⟨rfl, fun z => T2 z.2.2⟩, rfl⟩
      refine Wk.iloadN (pc' := 35) C d_prog_36m9_34 rfl rfl ?_
      refine Wk.bipush (pc' := 37) C d_prog_36m9_35 (v := (48 : Int32)) rfl rfl ?_
      refine Wk.icmp_lt C d_prog_36m9_37 (by decide) (pcT := 46) (by decide) (pc' := 40) rfl (fun q45 => ?_) (fun q45 => ?_)
      · -- pc 37: taken
        refine Wk.iloadN (pc' := 47) C d_prog_36m9_46 rfl rfl ?_
        refine Wk.bipush (pc' := 49) C d_prog_36m9_47 (v := (65 : Int32)) rfl rfl ?_
        refine Wk.icmp_lt C d_prog_36m9_49 (by decide) (pcT := 58) (by decide) (pc' := 52) rfl (fun q46 => ?_) (fun q46 => ?_)
        · -- pc 49: taken
          refine Wk.iloadN (pc' := 59) C d_prog_36m9_58 rfl rfl ?_
          refine Wk.bipush (pc' := 61) C d_prog_36m9_59 (v := (97 : Int32)) rfl rfl ?_
          refine Wk.icmp_lt C d_prog_36m9_61 (by decide) (pcT := 74) (by decide) (pc' := 64) rfl (fun q47 => ?_) (fun q47 => ?_)
          · -- pc 61: taken
            refine Wk.iconst (pc' := 75) C d_prog_36m9_74 (v := (0 : Int32)) rfl rfl ?_
            exact J20 (fun t => t.elim (fun z => z.1 q45) (fun t => t.elim (fun z => z.1 q46) (fun z => z.1 q47)))
          · -- pc 61: not taken
            refine Wk.iloadN (pc' := 65) C d_prog_36m9_64 rfl rfl ?_
            refine Wk.bipush (pc' := 67) C d_prog_36m9_65 (v := (122 : Int32)) rfl rfl ?_
            refine Wk.icmp_gt C d_prog_36m9_67 (by decide) (pcT := 74) (by decide) (pc' := 70) rfl (fun q48 => ?_) (fun q48 => ?_)
            · -- pc 67: taken
              refine Wk.iconst (pc' := 75) C d_prog_36m9_74 (v := (0 : Int32)) rfl rfl ?_
              exact J20 (fun t => t.elim (fun z => z.1 q45) (fun t => t.elim (fun z => z.1 q46) (fun z => z.2 q48)))
            · -- pc 67: not taken
              refine Wk.iconst (pc' := 71) C d_prog_36m9_70 (v := (1 : Int32)) rfl rfl ?_
              refine Wk.goto C d_prog_36m9_71 (by decide) (pc' := 75) (by decide) ?_
              exact J21 (Or.inr (Or.inr ⟨q47, q48⟩))
        · -- pc 49: not taken
          refine Wk.iloadN (pc' := 53) C d_prog_36m9_52 rfl rfl ?_
          refine Wk.bipush (pc' := 55) C d_prog_36m9_53 (v := (90 : Int32)) rfl rfl ?_
          refine Wk.icmp_le C d_prog_36m9_55 (by decide) (pcT := 70) (by decide) (pc' := 58) rfl (fun q49 => ?_) (fun q49 => ?_)
          · -- pc 55: taken
            refine Wk.iconst (pc' := 71) C d_prog_36m9_70 (v := (1 : Int32)) rfl rfl ?_
            refine Wk.goto C d_prog_36m9_71 (by decide) (pc' := 75) (by decide) ?_
            exact J21 (Or.inr (Or.inl ⟨q46, q49⟩))
          · -- pc 55: not taken
            refine Wk.iloadN (pc' := 59) C d_prog_36m9_58 rfl rfl ?_
            refine Wk.bipush (pc' := 61) C d_prog_36m9_59 (v := (97 : Int32)) rfl rfl ?_
            refine Wk.icmp_lt C d_prog_36m9_61 (by decide) (pcT := 74) (by decide) (pc' := 64) rfl (fun q50 => ?_) (fun q50 => ?_)
            · -- pc 61: taken
              refine Wk.iconst (pc' := 75) C d_prog_36m9_74 (v := (0 : Int32)) rfl rfl ?_
              exact J20 (fun t => t.elim (fun z => z.1 q45) (fun t => t.elim (fun z => z.2 q49) (fun z => z.1 q50)))
            · -- pc 61: not taken
              refine Wk.iloadN (pc' := 65) C d_prog_36m9_64 rfl rfl ?_
              refine Wk.bipush (pc' := 67) C d_prog_36m9_65 (v := (122 : Int32)) rfl rfl ?_
              refine Wk.icmp_gt C d_prog_36m9_67 (by decide) (pcT := 74) (by decide) (pc' := 70) rfl (fun q51 => ?_) (fun q51 => ?_)
              · -- pc 67: taken
                refine Wk.iconst (pc' := 75) C d_prog_36m9_74 (v := (0 : Int32)) rfl rfl ?_
                exact J20 (fun t => t.elim (fun z => z.1 q45) (fun t => t.elim (fun z => z.2 q49) (fun z => z.2 q51)))
              · -- pc 67: not taken
                refine Wk.iconst (pc' := 71) C d_prog_36m9_70 (v := (1 : Int32)) rfl rfl ?_
                refine Wk.goto C d_prog_36m9_71 (by decide) (pc' := 75) (by decide) ?_
                exact J21 (Or.inr (Or.inr ⟨q50, q51⟩))
      · -- pc 37: not taken
        refine Wk.iloadN (pc' := 41) C d_prog_36m9_40 rfl rfl ?_
        refine Wk.bipush (pc' := 43) C d_prog_36m9_41 (v := (57 : Int32)) rfl rfl ?_
        refine Wk.icmp_le C d_prog_36m9_43 (by decide) (pcT := 70) (by decide) (pc' := 46) rfl (fun q52 => ?_) (fun q52 => ?_)
        · -- pc 43: taken
          refine Wk.iconst (pc' := 71) C d_prog_36m9_70 (v := (1 : Int32)) rfl rfl ?_
          refine Wk.goto C d_prog_36m9_71 (by decide) (pc' := 75) (by decide) ?_
          exact J21 (Or.inl ⟨q45, q52⟩)
        · -- pc 43: not taken
          refine Wk.iloadN (pc' := 47) C d_prog_36m9_46 rfl rfl ?_
          refine Wk.bipush (pc' := 49) C d_prog_36m9_47 (v := (65 : Int32)) rfl rfl ?_
          refine Wk.icmp_lt C d_prog_36m9_49 (by decide) (pcT := 58) (by decide) (pc' := 52) rfl (fun q53 => ?_) (fun q53 => ?_)
          · -- pc 49: taken
            refine Wk.iloadN (pc' := 59) C d_prog_36m9_58 rfl rfl ?_
            refine Wk.bipush (pc' := 61) C d_prog_36m9_59 (v := (97 : Int32)) rfl rfl ?_
            refine Wk.icmp_lt C d_prog_36m9_61 (by decide) (pcT := 74) (by decide) (pc' := 64) rfl (fun q54 => ?_) (fun q54 => ?_)
            · -- pc 61: taken
              refine Wk.iconst (pc' := 75) C d_prog_36m9_74 (v := (0 : Int32)) rfl rfl ?_
              exact J20 (fun t => t.elim (fun z => z.2 q52) (fun t => t.elim (fun z => z.1 q53) (fun z => z.1 q54)))
            · -- pc 61: not taken
              refine Wk.iloadN (pc' := 65) C d_prog_36m9_64 rfl rfl ?_
              refine Wk.bipush (pc' := 67) C d_prog_36m9_65 (v := (122 : Int32)) rfl rfl ?_
              refine Wk.icmp_gt C d_prog_36m9_67 (by decide) (pcT := 74) (by decide) (pc' := 70) rfl (fun q55 => ?_) (fun q55 => ?_)
              · -- pc 67: taken
                refine Wk.iconst (pc' := 75) C d_prog_36m9_74 (v := (0 : Int32)) rfl rfl ?_
                exact J20 (fun t => t.elim (fun z => z.2 q52) (fun t => t.elim (fun z => z.1 q53) (fun z => z.2 q55)))
              · -- pc 67: not taken
                refine Wk.iconst (pc' := 71) C d_prog_36m9_70 (v := (1 : Int32)) rfl rfl ?_
                refine Wk.goto C d_prog_36m9_71 (by decide) (pc' := 75) (by decide) ?_
                exact J21 (Or.inr (Or.inr ⟨q54, q55⟩))
          · -- pc 49: not taken
            refine Wk.iloadN (pc' := 53) C d_prog_36m9_52 rfl rfl ?_
            refine Wk.bipush (pc' := 55) C d_prog_36m9_53 (v := (90 : Int32)) rfl rfl ?_
            refine Wk.icmp_le C d_prog_36m9_55 (by decide) (pcT := 70) (by decide) (pc' := 58) rfl (fun q56 => ?_) (fun q56 => ?_)
            · -- pc 55: taken
              refine Wk.iconst (pc' := 71) C d_prog_36m9_70 (v := (1 : Int32)) rfl rfl ?_
              refine Wk.goto C d_prog_36m9_71 (by decide) (pc' := 75) (by decide) ?_
              exact J21 (Or.inr (Or.inl ⟨q53, q56⟩))
            · -- pc 55: not taken
              refine Wk.iloadN (pc' := 59) C d_prog_36m9_58 rfl rfl ?_
              refine Wk.bipush (pc' := 61) C d_prog_36m9_59 (v := (97 : Int32)) rfl rfl ?_
              refine Wk.icmp_lt C d_prog_36m9_61 (by decide) (pcT := 74) (by decide) (pc' := 64) rfl (fun q57 => ?_) (fun q57 => ?_)
              · -- pc 61: taken
                refine Wk.iconst (pc' := 75) C d_prog_36m9_74 (v := (0 : Int32)) rfl rfl ?_
                exact J20 (fun t => t.elim (fun z => z.2 q52) (fun t => t.elim (fun z => z.2 q56) (fun z => z.1 q57)))
              · -- pc 61: not taken
                refine Wk.iloadN (pc' := 65) C d_prog_36m9_64 rfl rfl ?_
                refine Wk.bipush (pc' := 67) C d_prog_36m9_65 (v := (122 : Int32)) rfl rfl ?_
                refine Wk.icmp_gt C d_prog_36m9_67 (by decide) (pcT := 74) (by decide) (pc' := 70) rfl (fun q58 => ?_) (fun q58 => ?_)
                · -- pc 67: taken
                  refine Wk.iconst (pc' := 75) C d_prog_36m9_74 (v := (0 : Int32)) rfl rfl ?_
                  exact J20 (fun t => t.elim (fun z => z.2 q52) (fun t => t.elim (fun z => z.2 q56) (fun z => z.2 q58)))
                · -- pc 67: not taken
                  refine Wk.iconst (pc' := 71) C d_prog_36m9_70 (v := (1 : Int32)) rfl rfl ?_
                  refine Wk.goto C d_prog_36m9_71 (by decide) (pc' := 75) (by decide) ?_
                  exact J21 (Or.inr (Or.inr ⟨q57, q58⟩))
    have J10 : ¬ Tg c1 → Wk.Run l ({ frames := 5, cells := 0, slots := 0, locals := 76 } : Room) Z W (fun v h' => ((v = some (.int 1) ∧ Tg c0 ∧ Tg c1 ∧ Tg c2) ∨ (v = some (.int 0) ∧ ¬ (Tg c0 ∧ Tg c1 ∧ Tg c2))) ∧ h' = h0) h0 0 0 (mkF W.m 75 #[.val (.ref x), .val (.int (1 : Int32)), .val (.int (1 : Int32)), .val (.int c1)] [(.int (0 : Int32))]) := by
      intro T1
      refine Wk.istoreN (pc' := 76) C d_prog_36m9_75 (Ls' := #[.val (.ref x), .val (.int (0 : Int32)), .val (.int (1 : Int32)), .val (.int c1)]) rfl rfl ?_
      refine Wk.iinc (pc' := 79) C d_prog_36m9_76 rfl (v := (2 : Int32)) (by decide) (Ls' := #[.val (.ref x), .val (.int (0 : Int32)), .val (.int (2 : Int32)), .val (.int c1)]) rfl rfl ?_
      refine Wk.goto C d_prog_36m9_79 (by decide) (pc' := 16) (by decide) ?_
      refine Wk.iloadN (pc' := 17) C d_prog_36m9_16 rfl rfl ?_
      refine Wk.if_eq C d_prog_36m9_17 (by decide) (pcT := 82) (by decide) (pc' := 20) rfl (fun q59 => ?_) (fun q => absurd q (by decide))
      refine Wk.iloadN (pc' := 83) C d_prog_36m9_82 rfl rfl ?_
      exact Wk.retNar (ty := .boolean) C (by simp) d_prog_36m9_83 rfl (by decide) (by decide) ⟨Or.inr ⟨rfl, fun z => T1 z.2.1⟩, rfl⟩
    refine Wk.iloadN (pc' := 35) C d_prog_36m9_34 rfl rfl ?_
    refine Wk.bipush (pc' := 37) C d_prog_36m9_35 (v := (48 : Int32)) rfl rfl ?_
    refine Wk.icmp_lt C d_prog_36m9_37 (by decide) (pcT := 46) (by decide) (pc' := 40) rfl (fun q60 => ?_) (fun q60 => ?_)
    · -- pc 37: taken
      refine Wk.iloadN (pc' := 47) C d_prog_36m9_46 rfl rfl ?_
      refine Wk.bipush (pc' := 49) C d_prog_36m9_47 (v := (65 : Int32)) rfl rfl ?_
      refine Wk.icmp_lt C d_prog_36m9_49 (by decide) (pcT := 58) (by decide) (pc' := 52) rfl (fun q61 => ?_) (fun q61 => ?_)
      · -- pc 49: taken
        refine Wk.iloadN (pc' := 59) C d_prog_36m9_58 rfl rfl ?_
        refine Wk.bipush (pc' := 61) C d_prog_36m9_59 (v := (97 : Int32)) rfl rfl ?_
        refine Wk.icmp_lt C d_prog_36m9_61 (by decide) (pcT := 74) (by decide) (pc' := 64) rfl (fun q62 => ?_) (fun q62 => ?_)
        · -- pc 61: taken
          refine Wk.iconst (pc' := 75) C d_prog_36m9_74 (v := (0 : Int32)) rfl rfl ?_
          exact J10 (fun t => t.elim (fun z => z.1 q60) (fun t => t.elim (fun z => z.1 q61) (fun z => z.1 q62)))
        · -- pc 61: not taken
          refine Wk.iloadN (pc' := 65) C d_prog_36m9_64 rfl rfl ?_
          refine Wk.bipush (pc' := 67) C d_prog_36m9_65 (v := (122 : Int32)) rfl rfl ?_
          refine Wk.icmp_gt C d_prog_36m9_67 (by decide) (pcT := 74) (by decide) (pc' := 70) rfl (fun q63 => ?_) (fun q63 => ?_)
          · -- pc 67: taken
            refine Wk.iconst (pc' := 75) C d_prog_36m9_74 (v := (0 : Int32)) rfl rfl ?_
            exact J10 (fun t => t.elim (fun z => z.1 q60) (fun t => t.elim (fun z => z.1 q61) (fun z => z.2 q63)))
          · -- pc 67: not taken
            refine Wk.iconst (pc' := 71) C d_prog_36m9_70 (v := (1 : Int32)) rfl rfl ?_
            refine Wk.goto C d_prog_36m9_71 (by decide) (pc' := 75) (by decide) ?_
            exact J11 (Or.inr (Or.inr ⟨q62, q63⟩))
      · -- pc 49: not taken
        refine Wk.iloadN (pc' := 53) C d_prog_36m9_52 rfl rfl ?_
        refine Wk.bipush (pc' := 55) C d_prog_36m9_53 (v := (90 : Int32)) rfl rfl ?_
        refine Wk.icmp_le C d_prog_36m9_55 (by decide) (pcT := 70) (by decide) (pc' := 58) rfl (fun q64 => ?_) (fun q64 => ?_)
        · -- pc 55: taken
          refine Wk.iconst (pc' := 71) C d_prog_36m9_70 (v := (1 : Int32)) rfl rfl ?_
          refine Wk.goto C d_prog_36m9_71 (by decide) (pc' := 75) (by decide) ?_
          exact J11 (Or.inr (Or.inl ⟨q61, q64⟩))
        · -- pc 55: not taken
          refine Wk.iloadN (pc' := 59) C d_prog_36m9_58 rfl rfl ?_
          refine Wk.bipush (pc' := 61) C d_prog_36m9_59 (v := (97 : Int32)) rfl rfl ?_
          refine Wk.icmp_lt C d_prog_36m9_61 (by decide) (pcT := 74) (by decide) (pc' := 64) rfl (fun q65 => ?_) (fun q65 => ?_)
          · -- pc 61: taken
            refine Wk.iconst (pc' := 75) C d_prog_36m9_74 (v := (0 : Int32)) rfl rfl ?_
            exact J10 (fun t => t.elim (fun z => z.1 q60) (fun t => t.elim (fun z => z.2 q64) (fun z => z.1 q65)))
          · -- pc 61: not taken
            refine Wk.iloadN (pc' := 65) C d_prog_36m9_64 rfl rfl ?_
            refine Wk.bipush (pc' := 67) C d_prog_36m9_65 (v := (122 : Int32)) rfl rfl ?_
            refine Wk.icmp_gt C d_prog_36m9_67 (by decide) (pcT := 74) (by decide) (pc' := 70) rfl (fun q66 => ?_) (fun q66 => ?_)
            · -- pc 67: taken
              refine Wk.iconst (pc' := 75) C d_prog_36m9_74 (v := (0 : Int32)) rfl rfl ?_
              exact J10 (fun t => t.elim (fun z => z.1 q60) (fun t => t.elim (fun z => z.2 q64) (fun z => z.2 q66)))
            · -- pc 67: not taken
              refine Wk.iconst (pc' := 71) C d_prog_36m9_70 (v := (1 : Int32)) rfl rfl ?_
              refine Wk.goto C d_prog_36m9_71 (by decide) (pc' := 75) (by decide) ?_
              exact J11 (Or.inr (Or.inr ⟨q65, q66⟩))
    · -- pc 37: not taken
      refine Wk.iloadN (pc' := 41) C d_prog_36m9_40 rfl rfl ?_
      refine Wk.bipush (pc' := 43) C d_prog_36m9_41 (v := (57 : Int32)) rfl rfl ?_
      refine Wk.icmp_le C d_prog_36m9_43 (by decide) (pcT := 70) (by decide) (pc' := 46) rfl (fun q67 => ?_) (fun q67 => ?_)
      · -- pc 43: taken
        refine Wk.iconst (pc' := 71) C d_prog_36m9_70 (v := (1 : Int32)) rfl rfl ?_
        refine Wk.goto C d_prog_36m9_71 (by decide) (pc' := 75) (by decide) ?_
        exact J11 (Or.inl ⟨q60, q67⟩)
      · -- pc 43: not taken
        refine Wk.iloadN (pc' := 47) C d_prog_36m9_46 rfl rfl ?_
        refine Wk.bipush (pc' := 49) C d_prog_36m9_47 (v := (65 : Int32)) rfl rfl ?_
        refine Wk.icmp_lt C d_prog_36m9_49 (by decide) (pcT := 58) (by decide) (pc' := 52) rfl (fun q68 => ?_) (fun q68 => ?_)
        · -- pc 49: taken
          refine Wk.iloadN (pc' := 59) C d_prog_36m9_58 rfl rfl ?_
          refine Wk.bipush (pc' := 61) C d_prog_36m9_59 (v := (97 : Int32)) rfl rfl ?_
          refine Wk.icmp_lt C d_prog_36m9_61 (by decide) (pcT := 74) (by decide) (pc' := 64) rfl (fun q69 => ?_) (fun q69 => ?_)
          · -- pc 61: taken
            refine Wk.iconst (pc' := 75) C d_prog_36m9_74 (v := (0 : Int32)) rfl rfl ?_
            exact J10 (fun t => t.elim (fun z => z.2 q67) (fun t => t.elim (fun z => z.1 q68) (fun z => z.1 q69)))
          · -- pc 61: not taken
            refine Wk.iloadN (pc' := 65) C d_prog_36m9_64 rfl rfl ?_
            refine Wk.bipush (pc' := 67) C d_prog_36m9_65 (v := (122 : Int32)) rfl rfl ?_
            refine Wk.icmp_gt C d_prog_36m9_67 (by decide) (pcT := 74) (by decide) (pc' := 70) rfl (fun q70 => ?_) (fun q70 => ?_)
            · -- pc 67: taken
              refine Wk.iconst (pc' := 75) C d_prog_36m9_74 (v := (0 : Int32)) rfl rfl ?_
              exact J10 (fun t => t.elim (fun z => z.2 q67) (fun t => t.elim (fun z => z.1 q68) (fun z => z.2 q70)))
            · -- pc 67: not taken
              refine Wk.iconst (pc' := 71) C d_prog_36m9_70 (v := (1 : Int32)) rfl rfl ?_
              refine Wk.goto C d_prog_36m9_71 (by decide) (pc' := 75) (by decide) ?_
              exact J11 (Or.inr (Or.inr ⟨q69, q70⟩))
        · -- pc 49: not taken
          refine Wk.iloadN (pc' := 53) C d_prog_36m9_52 rfl rfl ?_
          refine Wk.bipush (pc' := 55) C d_prog_36m9_53 (v := (90 : Int32)) rfl rfl ?_
          refine Wk.icmp_le C d_prog_36m9_55 (by decide) (pcT := 70) (by decide) (pc' := 58) rfl (fun q71 => ?_) (fun q71 => ?_)
          · -- pc 55: taken
            refine Wk.iconst (pc' := 71) C d_prog_36m9_70 (v := (1 : Int32)) rfl rfl ?_
            refine Wk.goto C d_prog_36m9_71 (by decide) (pc' := 75) (by decide) ?_
            exact J11 (Or.inr (Or.inl ⟨q68, q71⟩))
          · -- pc 55: not taken
            refine Wk.iloadN (pc' := 59) C d_prog_36m9_58 rfl rfl ?_
            refine Wk.bipush (pc' := 61) C d_prog_36m9_59 (v := (97 : Int32)) rfl rfl ?_
            refine Wk.icmp_lt C d_prog_36m9_61 (by decide) (pcT := 74) (by decide) (pc' := 64) rfl (fun q72 => ?_) (fun q72 => ?_)
            · -- pc 61: taken
              refine Wk.iconst (pc' := 75) C d_prog_36m9_74 (v := (0 : Int32)) rfl rfl ?_
              exact J10 (fun t => t.elim (fun z => z.2 q67) (fun t => t.elim (fun z => z.2 q71) (fun z => z.1 q72)))
            · -- pc 61: not taken
              refine Wk.iloadN (pc' := 65) C d_prog_36m9_64 rfl rfl ?_
              refine Wk.bipush (pc' := 67) C d_prog_36m9_65 (v := (122 : Int32)) rfl rfl ?_
              refine Wk.icmp_gt C d_prog_36m9_67 (by decide) (pcT := 74) (by decide) (pc' := 70) rfl (fun q73 => ?_) (fun q73 => ?_)
              · -- pc 67: taken
                refine Wk.iconst (pc' := 75) C d_prog_36m9_74 (v := (0 : Int32)) rfl rfl ?_
                exact J10 (fun t => t.elim (fun z => z.2 q67) (fun t => t.elim (fun z => z.2 q71) (fun z => z.2 q73)))
              · -- pc 67: not taken
                refine Wk.iconst (pc' := 71) C d_prog_36m9_70 (v := (1 : Int32)) rfl rfl ?_
                refine Wk.goto C d_prog_36m9_71 (by decide) (pc' := 75) (by decide) ?_
                exact J11 (Or.inr (Or.inr ⟨q72, q73⟩))
  have J00 : ¬ Tg c0 → Wk.Run l ({ frames := 5, cells := 0, slots := 0, locals := 76 } : Room) Z W (fun v h' => ((v = some (.int 1) ∧ Tg c0 ∧ Tg c1 ∧ Tg c2) ∨ (v = some (.int 0) ∧ ¬ (Tg c0 ∧ Tg c1 ∧ Tg c2))) ∧ h' = h0) h0 0 0 (mkF W.m 75 #[.val (.ref x), .val (.int (1 : Int32)), .val (.int (0 : Int32)), .val (.int c0)] [(.int (0 : Int32))]) := by
    intro T0
    refine Wk.istoreN (pc' := 76) C d_prog_36m9_75 (Ls' := #[.val (.ref x), .val (.int (0 : Int32)), .val (.int (0 : Int32)), .val (.int c0)]) rfl rfl ?_
    refine Wk.iinc (pc' := 79) C d_prog_36m9_76 rfl (v := (1 : Int32)) (by decide) (Ls' := #[.val (.ref x), .val (.int (0 : Int32)), .val (.int (1 : Int32)), .val (.int c0)]) rfl rfl ?_
    refine Wk.goto C d_prog_36m9_79 (by decide) (pc' := 16) (by decide) ?_
    refine Wk.iloadN (pc' := 17) C d_prog_36m9_16 rfl rfl ?_
    refine Wk.if_eq C d_prog_36m9_17 (by decide) (pcT := 82) (by decide) (pc' := 20) rfl (fun q74 => ?_) (fun q => absurd q (by decide))
    refine Wk.iloadN (pc' := 83) C d_prog_36m9_82 rfl rfl ?_
    exact Wk.retNar (ty := .boolean) C (by simp) d_prog_36m9_83 rfl (by decide) (by decide) ⟨Or.inr ⟨rfl, fun z => T0 z.1⟩, rfl⟩
  refine Wk.iloadN (pc' := 35) C d_prog_36m9_34 rfl rfl ?_
  refine Wk.bipush (pc' := 37) C d_prog_36m9_35 (v := (48 : Int32)) rfl rfl ?_
  refine Wk.icmp_lt C d_prog_36m9_37 (by decide) (pcT := 46) (by decide) (pc' := 40) rfl (fun q75 => ?_) (fun q75 => ?_)
  · -- pc 37: taken
    refine Wk.iloadN (pc' := 47) C d_prog_36m9_46 rfl rfl ?_
    refine Wk.bipush (pc' := 49) C d_prog_36m9_47 (v := (65 : Int32)) rfl rfl ?_
    refine Wk.icmp_lt C d_prog_36m9_49 (by decide) (pcT := 58) (by decide) (pc' := 52) rfl (fun q76 => ?_) (fun q76 => ?_)
    · -- pc 49: taken
      refine Wk.iloadN (pc' := 59) C d_prog_36m9_58 rfl rfl ?_
      refine Wk.bipush (pc' := 61) C d_prog_36m9_59 (v := (97 : Int32)) rfl rfl ?_
      refine Wk.icmp_lt C d_prog_36m9_61 (by decide) (pcT := 74) (by decide) (pc' := 64) rfl (fun q77 => ?_) (fun q77 => ?_)
      · -- pc 61: taken
        refine Wk.iconst (pc' := 75) C d_prog_36m9_74 (v := (0 : Int32)) rfl rfl ?_
        exact J00 (fun t => t.elim (fun z => z.1 q75) (fun t => t.elim (fun z => z.1 q76) (fun z => z.1 q77)))
      · -- pc 61: not taken
        refine Wk.iloadN (pc' := 65) C d_prog_36m9_64 rfl rfl ?_
        refine Wk.bipush (pc' := 67) C d_prog_36m9_65 (v := (122 : Int32)) rfl rfl ?_
        refine Wk.icmp_gt C d_prog_36m9_67 (by decide) (pcT := 74) (by decide) (pc' := 70) rfl (fun q78 => ?_) (fun q78 => ?_)
        · -- pc 67: taken
          refine Wk.iconst (pc' := 75) C d_prog_36m9_74 (v := (0 : Int32)) rfl rfl ?_
          exact J00 (fun t => t.elim (fun z => z.1 q75) (fun t => t.elim (fun z => z.1 q76) (fun z => z.2 q78)))
        · -- pc 67: not taken
          refine Wk.iconst (pc' := 71) C d_prog_36m9_70 (v := (1 : Int32)) rfl rfl ?_
          refine Wk.goto C d_prog_36m9_71 (by decide) (pc' := 75) (by decide) ?_
          exact J01 (Or.inr (Or.inr ⟨q77, q78⟩))
    · -- pc 49: not taken
      refine Wk.iloadN (pc' := 53) C d_prog_36m9_52 rfl rfl ?_
      refine Wk.bipush (pc' := 55) C d_prog_36m9_53 (v := (90 : Int32)) rfl rfl ?_
      refine Wk.icmp_le C d_prog_36m9_55 (by decide) (pcT := 70) (by decide) (pc' := 58) rfl (fun q79 => ?_) (fun q79 => ?_)
      · -- pc 55: taken
        refine Wk.iconst (pc' := 71) C d_prog_36m9_70 (v := (1 : Int32)) rfl rfl ?_
        refine Wk.goto C d_prog_36m9_71 (by decide) (pc' := 75) (by decide) ?_
        exact J01 (Or.inr (Or.inl ⟨q76, q79⟩))
      · -- pc 55: not taken
        refine Wk.iloadN (pc' := 59) C d_prog_36m9_58 rfl rfl ?_
        refine Wk.bipush (pc' := 61) C d_prog_36m9_59 (v := (97 : Int32)) rfl rfl ?_
        refine Wk.icmp_lt C d_prog_36m9_61 (by decide) (pcT := 74) (by decide) (pc' := 64) rfl (fun q80 => ?_) (fun q80 => ?_)
        · -- pc 61: taken
          refine Wk.iconst (pc' := 75) C d_prog_36m9_74 (v := (0 : Int32)) rfl rfl ?_
          exact J00 (fun t => t.elim (fun z => z.1 q75) (fun t => t.elim (fun z => z.2 q79) (fun z => z.1 q80)))
        · -- pc 61: not taken
          refine Wk.iloadN (pc' := 65) C d_prog_36m9_64 rfl rfl ?_
          refine Wk.bipush (pc' := 67) C d_prog_36m9_65 (v := (122 : Int32)) rfl rfl ?_
          refine Wk.icmp_gt C d_prog_36m9_67 (by decide) (pcT := 74) (by decide) (pc' := 70) rfl (fun q81 => ?_) (fun q81 => ?_)
          · -- pc 67: taken
            refine Wk.iconst (pc' := 75) C d_prog_36m9_74 (v := (0 : Int32)) rfl rfl ?_
            exact J00 (fun t => t.elim (fun z => z.1 q75) (fun t => t.elim (fun z => z.2 q79) (fun z => z.2 q81)))
          · -- pc 67: not taken
            refine Wk.iconst (pc' := 71) C d_prog_36m9_70 (v := (1 : Int32)) rfl rfl ?_
            refine Wk.goto C d_prog_36m9_71 (by decide) (pc' := 75) (by decide) ?_
            exact J01 (Or.inr (Or.inr ⟨q80, q81⟩))
  · -- pc 37: not taken
    refine Wk.iloadN (pc' := 41) C d_prog_36m9_40 rfl rfl ?_
    refine Wk.bipush (pc' := 43) C d_prog_36m9_41 (v := (57 : Int32)) rfl rfl ?_
    refine Wk.icmp_le C d_prog_36m9_43 (by decide) (pcT := 70) (by decide) (pc' := 46) rfl (fun q82 => ?_) (fun q82 => ?_)
    · -- pc 43: taken
      refine Wk.iconst (pc' := 71) C d_prog_36m9_70 (v := (1 : Int32)) rfl rfl ?_
      refine Wk.goto C d_prog_36m9_71 (by decide) (pc' := 75) (by decide) ?_
      exact J01 (Or.inl ⟨q75, q82⟩)
    · -- pc 43: not taken
      refine Wk.iloadN (pc' := 47) C d_prog_36m9_46 rfl rfl ?_
      refine Wk.bipush (pc' := 49) C d_prog_36m9_47 (v := (65 : Int32)) rfl rfl ?_
      refine Wk.icmp_lt C d_prog_36m9_49 (by decide) (pcT := 58) (by decide) (pc' := 52) rfl (fun q83 => ?_) (fun q83 => ?_)
      · -- pc 49: taken
        refine Wk.iloadN (pc' := 59) C d_prog_36m9_58 rfl rfl ?_
        refine Wk.bipush (pc' := 61) C d_prog_36m9_59 (v := (97 : Int32)) rfl rfl ?_
        refine Wk.icmp_lt C d_prog_36m9_61 (by decide) (pcT := 74) (by decide) (pc' := 64) rfl (fun q84 => ?_) (fun q84 => ?_)
        · -- pc 61: taken
          refine Wk.iconst (pc' := 75) C d_prog_36m9_74 (v := (0 : Int32)) rfl rfl ?_
          exact J00 (fun t => t.elim (fun z => z.2 q82) (fun t => t.elim (fun z => z.1 q83) (fun z => z.1 q84)))
        · -- pc 61: not taken
          refine Wk.iloadN (pc' := 65) C d_prog_36m9_64 rfl rfl ?_
          refine Wk.bipush (pc' := 67) C d_prog_36m9_65 (v := (122 : Int32)) rfl rfl ?_
          refine Wk.icmp_gt C d_prog_36m9_67 (by decide) (pcT := 74) (by decide) (pc' := 70) rfl (fun q85 => ?_) (fun q85 => ?_)
          · -- pc 67: taken
            refine Wk.iconst (pc' := 75) C d_prog_36m9_74 (v := (0 : Int32)) rfl rfl ?_
            exact J00 (fun t => t.elim (fun z => z.2 q82) (fun t => t.elim (fun z => z.1 q83) (fun z => z.2 q85)))
          · -- pc 67: not taken
            refine Wk.iconst (pc' := 71) C d_prog_36m9_70 (v := (1 : Int32)) rfl rfl ?_
            refine Wk.goto C d_prog_36m9_71 (by decide) (pc' := 75) (by decide) ?_
            exact J01 (Or.inr (Or.inr ⟨q84, q85⟩))
      · -- pc 49: not taken
        refine Wk.iloadN (pc' := 53) C d_prog_36m9_52 rfl rfl ?_
        refine Wk.bipush (pc' := 55) C d_prog_36m9_53 (v := (90 : Int32)) rfl rfl ?_
        refine Wk.icmp_le C d_prog_36m9_55 (by decide) (pcT := 70) (by decide) (pc' := 58) rfl (fun q86 => ?_) (fun q86 => ?_)
        · -- pc 55: taken
          refine Wk.iconst (pc' := 71) C d_prog_36m9_70 (v := (1 : Int32)) rfl rfl ?_
          refine Wk.goto C d_prog_36m9_71 (by decide) (pc' := 75) (by decide) ?_
          exact J01 (Or.inr (Or.inl ⟨q83, q86⟩))
        · -- pc 55: not taken
          refine Wk.iloadN (pc' := 59) C d_prog_36m9_58 rfl rfl ?_
          refine Wk.bipush (pc' := 61) C d_prog_36m9_59 (v := (97 : Int32)) rfl rfl ?_
          refine Wk.icmp_lt C d_prog_36m9_61 (by decide) (pcT := 74) (by decide) (pc' := 64) rfl (fun q87 => ?_) (fun q87 => ?_)
          · -- pc 61: taken
            refine Wk.iconst (pc' := 75) C d_prog_36m9_74 (v := (0 : Int32)) rfl rfl ?_
            exact J00 (fun t => t.elim (fun z => z.2 q82) (fun t => t.elim (fun z => z.2 q86) (fun z => z.1 q87)))
          · -- pc 61: not taken
            refine Wk.iloadN (pc' := 65) C d_prog_36m9_64 rfl rfl ?_
            refine Wk.bipush (pc' := 67) C d_prog_36m9_65 (v := (122 : Int32)) rfl rfl ?_
            refine Wk.icmp_gt C d_prog_36m9_67 (by decide) (pcT := 74) (by decide) (pc' := 70) rfl (fun q88 => ?_) (fun q88 => ?_)
            · -- pc 67: taken
              refine Wk.iconst (pc' := 75) C d_prog_36m9_74 (v := (0 : Int32)) rfl rfl ?_
              exact J00 (fun t => t.elim (fun z => z.2 q82) (fun t => t.elim (fun z => z.2 q86) (fun z => z.2 q88)))
            · -- pc 67: not taken
              refine Wk.iconst (pc' := 71) C d_prog_36m9_70 (v := (1 : Int32)) rfl rfl ?_
              refine Wk.goto C d_prog_36m9_71 (by decide) (pc' := 75) (by decide) ?_
              exact J01 (Or.inr (Or.inr ⟨q87, q88⟩))
set_option maxRecDepth 65536 in
set_option maxHeartbeats 40000000 in
theorem own_canEnc (l : Launch) {Z : State} {a0 : Array Value} (hw : Ws a0 Z) {h0 : Heap} (O0 : Ext Z.heap h0) (c : Int32) (hc : ¬ c < 0 ∧ ¬ (255 : Int32) < c) :
    Wk.Con l Z (⟨"java/lang/StringLatin1", "canEncode", "(C)Z"⟩ : MethodName) jdk_43_method_3_code 1 (some .boolean) ({ frames := 0, cells := 0, slots := 0, locals := 0 } : Room) #[(.int c)] h0 (fun v h' => v = some (.int 1) ∧ h' = h0) := by
  refine Wk.Con.intro (plainFor_of_name pn3) O0 (fun m => ef43 m c) ?_
  intro W C
  replace C : Wk.Cx Z W "java/lang/StringLatin1" "canEncode" jdk_43_method_3_code 1 (some .boolean) := C
  refine Wk.iloadN (pc' := 1) C d_jdk_43m3_0 rfl rfl ?_
  refine Wk.sipush (pc' := 4) C d_jdk_43m3_1 (v := (255 : Int32)) rfl rfl ?_
  refine Wk.icmp_gt C d_jdk_43m3_4 (by decide) (pcT := 11) (by decide) (pc' := 7) rfl (fun q => absurd q hc.2) (fun q11 => ?_)
  refine Wk.iconst (pc' := 8) C d_jdk_43m3_7 (v := (1 : Int32)) rfl rfl ?_
  refine Wk.goto C d_jdk_43m3_8 (by decide) (pc' := 12) (by decide) ?_
  exact Wk.retNar (ty := .boolean) C (by simp) d_jdk_43m3_12 rfl (by decide) (by decide) ⟨rfl, rfl⟩
set_option maxRecDepth 65536 in
set_option maxHeartbeats 40000000 in
theorem own_toBytes (l : Launch) {Z : State} {a0 : Array Value} (hw : Ws a0 Z) {h0 : Heap} (O0 : Ext Z.heap h0) (c : Int32)  :
    Wk.Con l Z (⟨"java/lang/StringLatin1", "toBytes", "(C)[B"⟩ : MethodName) jdk_43_method_46_code 1 (some (.array .byte)) ({ frames := 0, cells := 1, slots := 1, locals := 0 } : Room) #[(.int c)] h0 (fun v h' => ∃ b : Addr, v = some (.ref b) ∧ b = h0.size ∧ Ext h0 h' ∧ Wk.Ary Z h' b .byte [.int c.toInt8.toInt32]) := by
  refine Wk.Con.intro (plainFor_of_name pn3) O0 (fun m => ef44 m c) ?_
  intro W C
  replace C : Wk.Cx Z W "java/lang/StringLatin1" "toBytes" jdk_43_method_46_code 1 (some (.array .byte)) := C
  refine Wk.iconst (pc' := 1) C d_jdk_43m46_0 (v := (1 : Int32)) rfl rfl ?_
  refine Wk.newA (pc' := 3) C d_jdk_43m46_1 (ty := .byte) rfl (w21 hw) (by decide) (cap := 1) (by decide) (by decide) (k' := 1) rfl (n' := 1) rfl (by decide) (by decide) rfl rfl ?_
  intro a11 h12 ga11 za11 E12 Va11 O12
  have V13 : Wk.Ary Z h12 a11 .byte [(.int (0 : Int32))] := Va11
  refine Wk.dup (pc' := 4) C d_jdk_43m46_3 rfl rfl ?_
  refine Wk.iconst (pc' := 5) C d_jdk_43m46_4 (v := (0 : Int32)) rfl rfl ?_
  refine Wk.iloadN (pc' := 6) C d_jdk_43m46_5 rfl rfl ?_
  obtain ⟨v14, hv14⟩ : ∃ z : Int32, c.toInt8.toInt32 = z := ⟨_, rfl⟩
  refine Wk.i2b (pc' := 7) C d_jdk_43m46_6 hv14 rfl ?_
  refine Wk.bastore (pc' := 8) C d_jdk_43m46_7 V13 (by decide) (show _ < _ from Nat.le_of_ble_eq_true rfl) (vs' := [(.int v14)]) (by rw [Wk.nar_i2b hv14]; rfl) za11 rfl ?_
  intro h15 W15 V15 O15
  have X16 : Ext h0 h15 := Wk.Ext.wr (Z := Z) E12 W15 (Nat.le_of_eq ga11.symm)
  exact Wk.retA C rfl rfl d_jdk_43m46_8 (by decide) (by decide) ⟨_, rfl, ga11, X16, by rw [hv14]; exact V15⟩
set_option maxRecDepth 65536 in
set_option maxHeartbeats 40000000 in
theorem own_strInitB (l : Launch) {Z : State} {a0 : Array Value} (hw : Ws a0 Z) {h0 : Heap} (O0 : Ext Z.heap h0) (a1 a2 : Addr) (v0 c0 : Value) (g1 : Z.heap.size ≤ a1) (E1 : Exa Z h0 a1 "java/lang/String") (F1 : Fld Z h0 a1 "java/lang/String" "value" "[B" v0) (F2 : Fld Z h0 a1 "java/lang/String" "coder" "B" c0) :
    Wk.Con l Z (⟨"java/lang/String", "<init>", "([BB)V"⟩ : MethodName) jdk_42_method_151_code 3 none ({ frames := 1, cells := 0, slots := 0, locals := 12 } : Room) #[(.ref a1), (.ref a2), (.int (0 : Int32))] h0 (fun v h' => v = none ∧ Keep h0 h' [a1] ∧ Exa Z h' a1 "java/lang/String" ∧ Fld Z h' a1 "java/lang/String" "value" "[B" (.ref a2) ∧ Fld Z h' a1 "java/lang/String" "coder" "B" (.int 0)) := by
  refine Wk.Con.intro (plainFor_of_name pn1) O0 (fun m => ef45 m a1 a2) ?_
  intro W C
  replace C : Wk.Cx Z W "java/lang/String" "<init>" jdk_42_method_151_code 3 none := C
  refine Wk.aloadN (pc' := 1) C d_jdk_42m151_0 rfl rfl rfl ?_
  refine Wk.initO (pc' := 4) C d_jdk_42m151_1 (Wn := 0) (w17 hw) (w18 hw) (w19 hw) rfl (by decide) (Nat.le_of_eq rfl) (by decide) rfl ?_
  refine Wk.aloadN (pc' := 5) C d_jdk_42m151_4 rfl rfl rfl ?_
  refine Wk.aloadN (pc' := 6) C d_jdk_42m151_5 rfl rfl rfl ?_
  refine Wk.putF (pc' := 9) C d_jdk_42m151_6 (w26 hw) Via.refl F1 E1 (Or.inr ⟨(w22 hw), rfl, rfl⟩) (w7 hw) (ty := (.array .byte)) (by decide) rfl rfl g1 rfl ?_
  intro h11 W11 O11
  have F12 := F1.same W11
  refine Wk.aloadN (pc' := 10) C d_jdk_42m151_9 rfl rfl rfl ?_
  refine Wk.iloadN (pc' := 11) C d_jdk_42m151_10 rfl rfl ?_
  refine Wk.putF (pc' := 14) C d_jdk_42m151_11 (w27 hw) Via.refl (F2.other W11 (Or.inr (slot_ne (Or.inr (w23 hw)) (Or.inr (w22 hw)) (by decide) (t := .byte) (t' := (.array .byte)) (by decide) (by decide)))) (E1.wr W11) (Or.inr ⟨(w23 hw), rfl, rfl⟩) (w7 hw) (ty := .byte) (by decide) (by decide) (by decide) g1 rfl ?_
  intro h13 W13 O13
  have F14 := (F2.other W11 (Or.inr (slot_ne (Or.inr (w23 hw)) (Or.inr (w22 hw)) (by decide) (t := .byte) (t' := (.array .byte)) (by decide) (by decide)))).same W13
  exact Wk.retV C d_jdk_42m151_14 (by decide) (by decide) ⟨rfl, (((Keep.refl _ _).wr W11 (Or.inl (List.mem_singleton.mpr rfl))).wr W13 (Or.inl (List.mem_singleton.mpr rfl))), ((E1.wr W11).wr W13), (F12.other W13 (Or.inr (slot_ne (Or.inr (w22 hw)) (Or.inr (w23 hw)) (by decide) (t := (.array .byte)) (t' := .byte) (by decide) (by decide)))), F14⟩
set_option maxRecDepth 65536 in
set_option maxHeartbeats 40000000 in
theorem own_valueOf (l : Launch) {Z : State} {a0 : Array Value} (hw : Ws a0 Z) {h0 : Heap} (O0 : Ext Z.heap h0) (hs : Sets Z) (c : Int32) (hc : ¬ c < 0 ∧ ¬ (255 : Int32) < c) :
    Wk.Con l Z (⟨"java/lang/String", "valueOf", "(C)Ljava/lang/String;"⟩ : MethodName) jdk_42_method_139_code 1 (some (.object "java/lang/String")) ({ frames := 2, cells := 2, slots := 5, locals := 40 } : Room) #[(.int c)] h0 (fun v h' => ∃ a : Addr, v = some (.ref a) ∧ a = h0.size ∧ Ext h0 h' ∧ Str Z h' a [c]) := by
  refine Wk.Con.intro (plainFor_of_name pn1) O0 (fun m => ef46 m c) ?_
  intro W C
  replace C : Wk.Cx Z W "java/lang/String" "valueOf" jdk_42_method_139_code 1 (some (.object "java/lang/String")) := C
  obtain ⟨zc, fm, SC, hzc, -, -⟩ := hs
  refine Wk.getS (pc' := 3) C d_jdk_42m139_0 (w42 hw) Via.refl (SC.ext O0) rfl ?_
  refine Wk.if_eq C d_jdk_42m139_3 (by decide) (pcT := 26) (by decide) (pc' := 6) rfl (fun q => absurd q hzc) (fun q11 => ?_)
  refine Wk.iloadN (pc' := 7) C d_jdk_42m139_6 rfl rfl ?_
  refine Wk.callS (pc' := 10) C d_jdk_42m139_7 (Wk.Con.pays C (Wn := 0) (own_canEnc l hw O0 c hc) (w49 hw) (w48 hw) (by decide) (by decide)) Wk.cleanC (w46 hw) (w47 hw) (w48 hw) (w49 hw) (by decide) (argsL := [(.int c)]) (st := []) rfl rfl (lenOf pd16 rfl) rfl (Nat.le_of_eq rfl) (k' := 0) rfl (n' := 0) rfl (by decide) (by decide) rfl ?_
  intro r12 h13 Q13 O13
  obtain ⟨rfl, e14⟩ := Q13
  obtain rfl := e14.symm
  refine Wk.if_eq C d_jdk_42m139_10 (by decide) (pcT := 26) (by decide) (pc' := 13) rfl (fun q => absurd q (by decide)) (fun q15 => ?_)
  refine Wk.newO (pc' := 16) C d_jdk_42m139_13 (w50 hw) (w7 hw) (w8 hw) (k' := 1) rfl (n' := 4) rfl (by decide) (by decide) rfl ?_
  intro a16 h17 ga16 za16 E17 Aa16 Da16 Ua16 O17
  have F18 : Fld Z h17 a16 "java/lang/String" "value" "[B" .null := Da16 (Or.inr (w22 hw)) (ty := (.array .byte)) (by decide)
  have F19 : Fld Z h17 a16 "java/lang/String" "coder" "B" (.int (0 : Int32)) := Da16 (Or.inr (w23 hw)) (ty := .byte) (by decide)
  refine Wk.dup (pc' := 17) C d_jdk_42m139_16 rfl rfl ?_
  refine Wk.iloadN (pc' := 18) C d_jdk_42m139_17 rfl rfl ?_
  refine Wk.callS (pc' := 21) C d_jdk_42m139_18 (Wk.Con.pays C (Wn := 2) (own_toBytes l hw O17 c) (w53 hw) (w48 hw) (by decide) (by decide)) Wk.cleanC (w51 hw) (w52 hw) (w48 hw) (w53 hw) (by decide) (argsL := [(.int c)]) (st := [(.ref a16), (.ref a16)]) rfl rfl (lenOf pd17 rfl) rfl (Nat.le_of_eq rfl) (k' := 2) rfl (n' := 5) rfl (by decide) (by decide) rfl ?_
  intro r20 h21 Q21 O21
  obtain ⟨b22, rfl, gb22, Eh21, Vh21⟩ := Q21
  refine Wk.iconst (pc' := 22) C d_jdk_42m139_21 (v := (0 : Int32)) rfl rfl ?_
  refine Wk.callI (pc' := 25) C d_jdk_42m139_22 (a := a16) (Wk.Con.pays C (Wn := 1) (own_strInitB l hw O21 a16 b22 _ _ za16 (Aa16.ext Eh21) (F18.ext Eh21) (F19.ext Eh21)) (w56 hw) (w8 hw) (by decide) (by decide)) Wk.cleanC rfl (w54 hw) (w55 hw) (w56 hw) (by decide) (argsL := [(.ref b22), (.int (0 : Int32))]) (st := [(.ref a16)]) rfl rfl (lenOf pd18 rfl) rfl (Nat.le_of_eq rfl) (k' := 2) rfl (n' := 5) rfl (by decide) (by decide) rfl ?_
  intro r23 h24 Q24 O24
  obtain ⟨rfl, Kh24, Ah24, Vh24, Ch24⟩ := Q24
  have X25 : Ext h0 h21 := Wk.Ext.trans E17 Eh21
  have X26 : Ext h0 h24 := Wk.Ext.keep1 (Z := Z) X25 Kh24 (Nat.le_of_eq ga16.symm)
  exact Wk.retA C rfl rfl d_jdk_42m139_25 (by decide) (by decide) ⟨_, rfl, ga16, X26, Ah24, Ch24, ⟨_, Vh24, (Vh21.keep Kh24 (ninS (Ne.symm (Nat.ne_of_lt (Nat.lt_of_lt_of_le Aa16.lt (Nat.le_of_eq gb22.symm)))) nin0))⟩, List.forall_mem_cons.mpr ⟨hc, (fun _ h => nomatch h)⟩, (show 1 ≤ 4000 by decide)⟩
set_option maxRecDepth 65536 in
set_option maxHeartbeats 40000000 in
theorem own_strInitB1 (l : Launch) {Z : State} {a0 : Array Value} (hw : Ws a0 Z) {h0 : Heap} (O0 : Ext Z.heap h0) (a1 a2 : Addr) (v0 c0 : Value) (g1 : Z.heap.size ≤ a1) (E1 : Exa Z h0 a1 "java/lang/String") (F1 : Fld Z h0 a1 "java/lang/String" "value" "[B" v0) (F2 : Fld Z h0 a1 "java/lang/String" "coder" "B" c0) :
    Wk.Con l Z (⟨"java/lang/String", "<init>", "([BB)V"⟩ : MethodName) jdk_42_method_151_code 3 none ({ frames := 1, cells := 0, slots := 0, locals := 12 } : Room) #[(.ref a1), (.ref a2), (.int (1 : Int32))] h0 (fun v h' => v = none ∧ Keep h0 h' [a1] ∧ Exa Z h' a1 "java/lang/String" ∧ Fld Z h' a1 "java/lang/String" "value" "[B" (.ref a2) ∧ Fld Z h' a1 "java/lang/String" "coder" "B" (.int 1)) := by
  refine Wk.Con.intro (plainFor_of_name pn1) O0 (fun m => ef47 m a1 a2) ?_
  intro W C
  replace C : Wk.Cx Z W "java/lang/String" "<init>" jdk_42_method_151_code 3 none := C
  refine Wk.aloadN (pc' := 1) C d_jdk_42m151_0 rfl rfl rfl ?_
  refine Wk.initO (pc' := 4) C d_jdk_42m151_1 (Wn := 0) (w17 hw) (w18 hw) (w19 hw) rfl (by decide) (Nat.le_of_eq rfl) (by decide) rfl ?_
  refine Wk.aloadN (pc' := 5) C d_jdk_42m151_4 rfl rfl rfl ?_
  refine Wk.aloadN (pc' := 6) C d_jdk_42m151_5 rfl rfl rfl ?_
  refine Wk.putF (pc' := 9) C d_jdk_42m151_6 (w26 hw) Via.refl F1 E1 (Or.inr ⟨(w22 hw), rfl, rfl⟩) (w7 hw) (ty := (.array .byte)) (by decide) rfl rfl g1 rfl ?_
  intro h11 W11 O11
  have F12 := F1.same W11
  refine Wk.aloadN (pc' := 10) C d_jdk_42m151_9 rfl rfl rfl ?_
  refine Wk.iloadN (pc' := 11) C d_jdk_42m151_10 rfl rfl ?_
  refine Wk.putF (pc' := 14) C d_jdk_42m151_11 (w27 hw) Via.refl (F2.other W11 (Or.inr (slot_ne (Or.inr (w23 hw)) (Or.inr (w22 hw)) (by decide) (t := .byte) (t' := (.array .byte)) (by decide) (by decide)))) (E1.wr W11) (Or.inr ⟨(w23 hw), rfl, rfl⟩) (w7 hw) (ty := .byte) (by decide) (by decide) (by decide) g1 rfl ?_
  intro h13 W13 O13
  have F14 := (F2.other W11 (Or.inr (slot_ne (Or.inr (w23 hw)) (Or.inr (w22 hw)) (by decide) (t := .byte) (t' := (.array .byte)) (by decide) (by decide)))).same W13
  exact Wk.retV C d_jdk_42m151_14 (by decide) (by decide) ⟨rfl, (((Keep.refl _ _).wr W11 (Or.inl (List.mem_singleton.mpr rfl))).wr W13 (Or.inl (List.mem_singleton.mpr rfl))), ((E1.wr W11).wr W13), (F12.other W13 (Or.inr (slot_ne (Or.inr (w22 hw)) (Or.inr (w23 hw)) (by decide) (t := (.array .byte)) (t' := .byte) (by decide) (by decide)))), F14⟩
set_option maxRecDepth 65536 in
set_option maxHeartbeats 40000000 in
theorem own_canEncU (l : Launch) {Z : State} {a0 : Array Value} (hw : Ws a0 Z) {h0 : Heap} (O0 : Ext Z.heap h0) (c : Int32) (hc : (255 : Int32) < c) :
    Wk.Con l Z (⟨"java/lang/StringLatin1", "canEncode", "(C)Z"⟩ : MethodName) jdk_43_method_3_code 1 (some .boolean) ({ frames := 0, cells := 0, slots := 0, locals := 0 } : Room) #[(.int c)] h0 (fun v h' => v = some (.int 0) ∧ h' = h0) := by
  refine Wk.Con.intro (plainFor_of_name pn3) O0 (fun m => ef48 m c) ?_
  intro W C
  replace C : Wk.Cx Z W "java/lang/StringLatin1" "canEncode" jdk_43_method_3_code 1 (some .boolean) := C
  refine Wk.iloadN (pc' := 1) C d_jdk_43m3_0 rfl rfl ?_
  refine Wk.sipush (pc' := 4) C d_jdk_43m3_1 (v := (255 : Int32)) rfl rfl ?_
  refine Wk.icmp_gt C d_jdk_43m3_4 (by decide) (pcT := 11) (by decide) (pc' := 7) rfl (fun q11 => ?_) (fun q => absurd hc q)
  refine Wk.iconst (pc' := 12) C d_jdk_43m3_11 (v := (0 : Int32)) rfl rfl ?_
  exact Wk.retNar (ty := .boolean) C (by simp) d_jdk_43m3_12 rfl (by decide) (by decide) ⟨rfl, rfl⟩
set_option maxRecDepth 65536 in
set_option maxHeartbeats 40000000 in
theorem own_tb1 (l : Launch) {Z : State} {a0 : Array Value} (hw : Ws a0 Z) {h0 : Heap} (O0 : Ext Z.heap h0) (us : U16s Z) (c0 : Int32)  :
    Wk.Con l Z (⟨"java/lang/StringUTF16", "toBytes", "(C)[B"⟩ : MethodName) jdk_52_method_24_code 2 (some (.array .byte)) ({ frames := 1, cells := 1, slots := 2, locals := 16 } : Room) #[(.int c0)] h0 (fun v h' => ∃ b : Addr, v = some (.ref b) ∧ b = h0.size ∧ Ext h0 h' ∧ Wk.Ary Z h' b .byte [(.int ((c0 >>> ((0 : Int32) &&& 31)).toInt8.toInt32)), (.int ((c0 >>> ((8 : Int32) &&& 31)).toInt8.toInt32))]) := by
  refine Wk.Con.intro (plainFor_of_name pn0) O0 (fun m => ef49 m c0) ?_
  intro W C
  replace C : Wk.Cx Z W "java/lang/StringUTF16" "toBytes" jdk_52_method_24_code 2 (some (.array .byte)) := C
  refine Wk.iconst (pc' := 1) C d_jdk_52m24_0 (v := (2 : Int32)) rfl rfl ?_
  refine Wk.newA (pc' := 3) C d_jdk_52m24_1 (ty := .byte) rfl (w21 hw) (by decide) (cap := 2) (by decide) (by decide) (k' := 1) rfl (n' := 2) rfl (by decide) (by decide) rfl rfl ?_
  intro a11 h12 ga11 za11 E12 Va11 O12
  have V13 : Wk.Ary Z h12 a11 .byte [(.int (0 : Int32)), (.int (0 : Int32))] := Va11
  refine Wk.astoreN (pc' := 4) C d_jdk_52m24_3 rfl (Ls' := #[.val (.int c0), .val (.ref a11)]) rfl rfl ?_
  refine Wk.aloadN (pc' := 5) C d_jdk_52m24_4 rfl rfl rfl ?_
  refine Wk.iconst (pc' := 6) C d_jdk_52m24_5 (v := (0 : Int32)) rfl rfl ?_
  refine Wk.iloadN (pc' := 7) C d_jdk_52m24_6 rfl rfl ?_
  refine Wk.callS (pc' := 10) C d_jdk_52m24_7 (Wk.Con.pays C (Wn := 0) (own_put16 l hw O12 us a11 [(.int (0 : Int32)), (.int (0 : Int32))] 0 c0 za11 V13 (Nat.le_of_ble_eq_true rfl) (show _ < _ from Nat.le_of_ble_eq_true rfl)) (w79 hw) (w59 hw) (by decide) (by decide)) Wk.cleanC (w77 hw) (w78 hw) (w59 hw) (w79 hw) (by decide) (argsL := [(.ref a11), (.int (0 : Int32)), (.int c0)]) (st := []) rfl rfl (lenOf pd2 rfl) rfl (Nat.le_of_eq rfl) (k' := 1) rfl (n' := 2) rfl (by decide) (by decide) rfl ?_
  intro r14 h15 Q15 O15
  obtain ⟨rfl, K15, V15⟩ := Q15
  replace V15 : Wk.Ary Z h15 a11 .byte [(.int ((c0 >>> ((0 : Int32) &&& 31)).toInt8.toInt32)), (.int ((c0 >>> ((8 : Int32) &&& 31)).toInt8.toInt32))] := V15
  refine Wk.aloadN (pc' := 11) C d_jdk_52m24_10 rfl rfl rfl ?_
  have X16 : Ext h0 h15 := Wk.Ext.keep1 (Z := Z) E12 K15 (Nat.le_of_eq ga11.symm)
  exact Wk.retA C rfl rfl d_jdk_52m24_11 (by decide) (by decide) ⟨_, rfl, ga11, X16, V15⟩
set_option maxRecDepth 65536 in
set_option maxHeartbeats 40000000 in
theorem own_valueOfU (l : Launch) {Z : State} {a0 : Array Value} (hw : Ws a0 Z) {h0 : Heap} (O0 : Ext Z.heap h0) (hs : Sets Z) (us : U16s Z) (c0 : Int32) (r0 : ¬ c0 < 0 ∧ ¬ (65535 : Int32) < c0) (hU : (255 : Int32) < c0) :
    Wk.Con l Z (⟨"java/lang/String", "valueOf", "(C)Ljava/lang/String;"⟩ : MethodName) jdk_42_method_139_code 1 (some (.object "java/lang/String")) ({ frames := 3, cells := 2, slots := 6, locals := 44 } : Room) #[(.int c0)] h0 (fun v h' => ∃ a : Addr, v = some (.ref a) ∧ a = h0.size ∧ Ext h0 h' ∧ S16 Z h' a [c0]) := by
  refine Wk.Con.intro (plainFor_of_name pn1) O0 (fun m => ef50 m c0) ?_
  intro W C
  replace C : Wk.Cx Z W "java/lang/String" "valueOf" jdk_42_method_139_code 1 (some (.object "java/lang/String")) := C
  obtain ⟨zc, fm, SC, hzc, -, -⟩ := hs
  refine Wk.getS (pc' := 3) C d_jdk_42m139_0 (w42 hw) Via.refl (SC.ext O0) rfl ?_
  refine Wk.if_eq C d_jdk_42m139_3 (by decide) (pcT := 26) (by decide) (pc' := 6) rfl (fun q => absurd q hzc) (fun q11 => ?_)
  refine Wk.iloadN (pc' := 7) C d_jdk_42m139_6 rfl rfl ?_
  refine Wk.callS (pc' := 10) C d_jdk_42m139_7 (Wk.Con.pays C (Wn := 0) (own_canEncU l hw O0 c0 hU) (w49 hw) (w48 hw) (by decide) (by decide)) Wk.cleanC (w46 hw) (w47 hw) (w48 hw) (w49 hw) (by decide) (argsL := [(.int c0)]) (st := []) rfl rfl (lenOf pd16 rfl) rfl (Nat.le_of_eq rfl) (k' := 0) rfl (n' := 0) rfl (by decide) (by decide) rfl ?_
  intro r12 h13 Q13 O13
  obtain ⟨rfl, e14⟩ := Q13
  obtain rfl := e14.symm
  refine Wk.if_eq C d_jdk_42m139_10 (by decide) (pcT := 26) (by decide) (pc' := 13) rfl (fun q15 => ?_) (fun q => absurd q (by decide))
  refine Wk.newO (pc' := 29) C d_jdk_42m139_26 (w50 hw) (w7 hw) (w8 hw) (k' := 1) rfl (n' := 4) rfl (by decide) (by decide) rfl ?_
  intro a16 h17 ga16 za16 E17 Aa16 Da16 Ua16 O17
  have F18 : Fld Z h17 a16 "java/lang/String" "value" "[B" .null := Da16 (Or.inr (w22 hw)) (ty := (.array .byte)) (by decide)
  have F19 : Fld Z h17 a16 "java/lang/String" "coder" "B" (.int (0 : Int32)) := Da16 (Or.inr (w23 hw)) (ty := .byte) (by decide)
  refine Wk.dup (pc' := 30) C d_jdk_42m139_29 rfl rfl ?_
  refine Wk.iloadN (pc' := 31) C d_jdk_42m139_30 rfl rfl ?_
  refine Wk.callS (pc' := 34) C d_jdk_42m139_31 (Wk.Con.pays C (Wn := 2) (own_tb1 l hw O17 us c0) (w122 hw) (w59 hw) (by decide) (by decide)) Wk.cleanC (w120 hw) (w121 hw) (w59 hw) (w122 hw) (by decide) (argsL := [(.int c0)]) (st := [(.ref a16), (.ref a16)]) rfl rfl (lenOf pd17 rfl) rfl (Nat.le_of_eq rfl) (k' := 2) rfl (n' := 6) rfl (by decide) (by decide) rfl ?_
  intro r20 h21 Q21 O21
  obtain ⟨b22, rfl, gb22, E21, V21⟩ := Q21
  refine Wk.iconst (pc' := 35) C d_jdk_42m139_34 (v := (1 : Int32)) rfl rfl ?_
  refine Wk.callI (pc' := 38) C d_jdk_42m139_35 (a := a16) (Wk.Con.pays C (Wn := 1) (own_strInitB1 l hw O21 a16 b22 _ _ za16 (Aa16.ext E21) (F18.ext E21) (F19.ext E21)) (w56 hw) (w8 hw) (by decide) (by decide)) Wk.cleanC rfl (w54 hw) (w55 hw) (w56 hw) (by decide) (argsL := [(.ref b22), (.int (1 : Int32))]) (st := [(.ref a16)]) rfl rfl (lenOf pd18 rfl) rfl (Nat.le_of_eq rfl) (k' := 2) rfl (n' := 6) rfl (by decide) (by decide) rfl ?_
  intro r23 h24 Q24 O24
  obtain ⟨rfl, Kh24, Ah24, Vh24, Ch24⟩ := Q24
  have X25 : Ext h0 h21 := Wk.Ext.trans E17 E21
  have X26 : Ext h0 h24 := Wk.Ext.keep1 (Z := Z) X25 Kh24 (Nat.le_of_eq ga16.symm)
  exact Wk.retA C rfl rfl d_jdk_42m139_38 (by decide) (by decide) ⟨_, rfl, ga16, X26, Ah24, Ch24, ⟨_, Vh24, (V21.keep Kh24 (ninS (Ne.symm (Nat.ne_of_lt (Nat.lt_of_lt_of_le Aa16.lt (Nat.le_of_eq gb22.symm)))) nin0))⟩, List.forall_mem_cons.mpr ⟨r0, (fun _ h => nomatch h)⟩, (show 1 ≤ 4 by decide)⟩
set_option maxRecDepth 65536 in
set_option maxHeartbeats 40000000 in
theorem own_new4e (l : Launch) {Z : State} {a0 : Array Value} (hw : Ws a0 Z) (hE : EW Z a0 EL) {h0 : Heap} (O0 : Ext Z.heap h0) (a1 a2 : Addr) (g1 : Z.heap.size ≤ a1) (E1 : Exa Z h0 a1 "java/lang/String") (F1 : Fld Z h0 a1 "java/lang/String" "value" "[B" .null) (F2 : Fld Z h0 a1 "java/lang/String" "coder" "B" (.int (0 : Int32))) :
    Ww.Con l Z EL (⟨"java/lang/String", "<init>", "([CIILjava/lang/Void;)V"⟩ : MethodName) jdk_42_method_149_code 6 none ({ frames := 1, cells := 4, slots := 8, locals := 12 } : Room) #[(.ref a1), (.ref a2), (.int (0 : Int32)), (.int (0 : Int32)), .null] h0 (fun v h' => v = none ∧ Keep h0 h' [a1] ∧ Str Z h' a1 []) := by
  refine Ww.Con.intro (plainFor_of_name pn1) O0 (fun m => ef51 m a1 a2) ?_
  intro W C
  replace C : Wk.Cx Z W "java/lang/String" "<init>" jdk_42_method_149_code 6 none := C
  refine Ww.Run.safe E1.lt (Ww.SafeAt.str0 E1 F1) ?_
  refine Ww.aloadN (pc' := 1) C d_jdk_42m149_0 rfl rfl rfl ?_
  refine Ww.initO (pc' := 4) C d_jdk_42m149_1 (Wn := 0) (w17 hw) (w18 hw) (w19 hw) rfl (by decide) (Nat.le_of_eq rfl) (by decide) rfl ?_
  refine Ww.iloadN (pc' := 5) C d_jdk_42m149_4 rfl rfl ?_
  refine Ww.if_ne C d_jdk_42m149_5 (by decide) (pcT := 27) (by decide) (pc' := 8) rfl (fun q => absurd q (by decide)) (fun q11 => ?_)
  refine Ww.aloadN (pc' := 9) C d_jdk_42m149_8 rfl rfl rfl ?_
  refine Ww.ldcS (pc' := 11) C d_jdk_42m149_9 (w20 hw) (wS hw) hE (by decide) (vs := []) ⟨by decide, by decide⟩ (z := (0 : Int32)) (by decide) (by decide) (nb := 0) (by decide) (by decide) (k' := 2) rfl (n' := 4) rfl (by decide) (by decide) rfl ?_
  intro a12 b13 h14 E14 A14 C14 V14 B14 N14 O14
  refine Ww.getF (pc' := 14) C d_jdk_42m149_11 (w26 hw) Via.refl V14 rfl ?_
  refine Ww.putF (pc' := 17) C d_jdk_42m149_14 (w26 hw) Via.refl (F1.ext E14) (E1.ext E14) (Or.inr ⟨(w22 hw), rfl, rfl⟩) (w7 hw) (ty := (.array .byte)) (by decide) rfl rfl g1 (List.mem_of_getElem? (i := 0) rfl) rfl ?_
  intro h15 W15 O15
  have F16 := (F1.ext E14).same W15
  refine Ww.aloadN (pc' := 18) C d_jdk_42m149_17 rfl rfl rfl ?_
  refine Ww.ldcS (pc' := 20) C d_jdk_42m149_18 (w20 hw) (wS hw) hE (by decide) (vs := []) ⟨by decide, by decide⟩ (z := (0 : Int32)) (by decide) (by decide) (nb := 0) (by decide) (by decide) (k' := 4) rfl (n' := 8) rfl (by decide) (by decide) rfl ?_
  intro a17 b18 h19 E19 A19 C19 V19 B19 N19 O19
  refine Ww.getF (pc' := 23) C d_jdk_42m149_20 (w27 hw) Via.refl C19 rfl ?_
  refine Ww.putF (pc' := 26) C d_jdk_42m149_23 (w27 hw) Via.refl (((F2.ext E14).other W15 (Or.inr (slot_ne (Or.inr (w23 hw)) (Or.inr (w22 hw)) (by decide) (t := .byte) (t' := (.array .byte)) (by decide) (by decide)))).ext E19) (((E1.ext E14).wr W15).ext E19) (Or.inr ⟨(w23 hw), rfl, rfl⟩) (w7 hw) (ty := .byte) (by decide) (by decide) (by decide) g1 (List.mem_of_getElem? (i := 0) rfl) rfl ?_
  intro h20 W20 O20
  have F21 := (((F2.ext E14).other W15 (Or.inr (slot_ne (Or.inr (w23 hw)) (Or.inr (w22 hw)) (by decide) (t := .byte) (t' := (.array .byte)) (by decide) (by decide)))).ext E19).same W20
  exact Ww.retV C hE d_jdk_42m149_26 (by decide) (by decide) ⟨rfl, (((((Keep.refl _ _).ext E14).wr W15 (Or.inl (List.mem_singleton.mpr rfl))).ext E19).wr W20 (Or.inl (List.mem_singleton.mpr rfl))), ((((E1.ext E14).wr W15).ext E19).wr W20), F21, ⟨_, ((F16.ext E19).other W20 (Or.inr (slot_ne (Or.inr (w22 hw)) (Or.inr (w23 hw)) (by decide) (t := (.array .byte)) (t' := .byte) (by decide) (by decide)))), (((B14.other W15 (Ne.symm (N14 a1 (List.mem_of_getElem? (i := 0) rfl)).2)).ext E19).other W20 (Ne.symm (N14 a1 (List.mem_of_getElem? (i := 0) rfl)).2))⟩, (fun _ h => nomatch h), by decide⟩
set_option maxRecDepth 65536 in
set_option maxHeartbeats 40000000 in
theorem own_newE (l : Launch) {Z : State} {a0 : Array Value} (hw : Ws a0 Z) (hE : EW Z a0 EL) {h0 : Heap} (O0 : Ext Z.heap h0) (a1 a2 : Addr) (g1 : Z.heap.size ≤ a1) (E1 : Exa Z h0 a1 "java/lang/String") (F1 : Fld Z h0 a1 "java/lang/String" "value" "[B" .null) (F2 : Fld Z h0 a1 "java/lang/String" "coder" "B" (.int (0 : Int32))) (V2 : Wk.Ary Z h0 a2 .char []) :
    Ww.Con l Z EL (⟨"java/lang/String", "<init>", "([C)V"⟩ : MethodName) jdk_42_method_3_code 2 none ({ frames := 2, cells := 4, slots := 8, locals := 29 } : Room) #[(.ref a1), (.ref a2)] h0 (fun v h' => v = none ∧ Keep h0 h' [a1] ∧ Str Z h' a1 []) := by
  refine Ww.Con.intro (plainFor_of_name pn1) O0 (fun m => ef52 m a1 a2) ?_
  intro W C
  replace C : Wk.Cx Z W "java/lang/String" "<init>" jdk_42_method_3_code 2 none := C
  refine Ww.aloadN (pc' := 1) C d_jdk_42m3_0 rfl rfl rfl ?_
  refine Ww.aloadN (pc' := 2) C d_jdk_42m3_1 rfl rfl rfl ?_
  refine Ww.iconst (pc' := 3) C d_jdk_42m3_2 (v := (0 : Int32)) rfl rfl ?_
  refine Ww.aloadN (pc' := 4) C d_jdk_42m3_3 rfl rfl rfl ?_
  refine Ww.alen (pc' := 5) C d_jdk_42m3_4 V2 (z := (0 : Int32)) rfl rfl ?_
  refine Ww.aconstNull (pc' := 6) C d_jdk_42m3_5 rfl ?_
  refine Ww.callIS (pc' := 9) C d_jdk_42m3_6 (a := a1) (Ww.Con.pays hE (Wn := 0) (own_new4e l hw hE O0 a1 a2 g1 E1 F1 F2) (w16 hw) (w8 hw) (by decide) (by decide)) Wk.cleanC rfl (w13 hw) (w14 hw) (w16 hw) (by decide) (argsL := [(.ref a2), (.int (0 : Int32)), (.int (0 : Int32)), .null]) (st := []) rfl rfl (lenOf pd7 rfl) rfl (Nat.le_of_eq rfl) (k' := 4) rfl (n' := 8) rfl (by decide) (by decide) rfl ?_
  intro r11 h12 Q12 O12
  obtain ⟨rfl, Kh12, Sh12⟩ := Q12
  exact Ww.retV C hE d_jdk_42m3_9 (by decide) (by decide) ⟨rfl, ((Keep.refl _ _).trans Kh12 (allS (Or.inl (List.mem_singleton.mpr rfl)) all0)), Sh12⟩
set_option maxRecDepth 65536 in
set_option maxHeartbeats 40000000 in
theorem own_mk0 (l : Launch) {Z : State} {a0 : Array Value} (hw : Ws a0 Z) (hE : EW Z a0 EL) {h0 : Heap} (O0 : Ext Z.heap h0) (c0 c1 c2 c3 : Int32)  :
    Ww.Con l Z EL (⟨"com/example/shelfmark/shelfmark/model/MarcRecordIsTagPinLaw", "make", "(ICCCC)Ljava/lang/String;"⟩ : MethodName) method_3_code 5 (some (.object "java/lang/String")) ({ frames := 4, cells := 8, slots := 16, locals := 60 } : Room) #[(.int (0 : Int32)), (.int c0), (.int c1), (.int c2), (.int c3)] h0 (fun v h' => ∃ x : Addr, v = some (.ref x) ∧ Ext h0 h' ∧ GS Z h' x ([] : List Int32)) := by
  refine Ww.Con.intro (plainFor_of_name pn4) O0 (fun m => ef53 m c0 c1 c2 c3) ?_
  intro W C
  replace C : Wk.Cx Z W "com/example/shelfmark/shelfmark/model/MarcRecordIsTagPinLaw" "make" method_3_code 5 (some (.object "java/lang/String")) := C
  refine Ww.iloadN (pc' := 1) C d_method_3_0 rfl rfl ?_
  refine Ww.if_ne C d_method_3_1 (by decide) (pcT := 15) (by decide) (pc' := 4) rfl (fun q => absurd q (by decide)) (fun q11 => ?_)
  refine Ww.newO (pc' := 7) C d_method_3_4 (w6 hw) (w7 hw) (w8 hw) (k' := 1) rfl (n' := 4) rfl (by decide) (by decide) rfl ?_
  intro a12 h13 ga12 za12 E13 Aa12 Da12 Ua12 O13
  have F14 : Fld Z h13 a12 "java/lang/String" "value" "[B" .null := Da12 (Or.inr (w22 hw)) (ty := (.array .byte)) (by decide)
  have F15 : Fld Z h13 a12 "java/lang/String" "coder" "B" (.int (0 : Int32)) := Da12 (Or.inr (w23 hw)) (ty := .byte) (by decide)
  refine Ww.dup (pc' := 8) C d_method_3_7 rfl rfl ?_
  refine Ww.iconst (pc' := 9) C d_method_3_8 (v := (0 : Int32)) rfl rfl ?_
  refine Ww.newA (pc' := 11) C d_method_3_9 (ty := .char) rfl (w9 hw) (by decide) (cap := 0) (by decide) (by decide) (k' := 2) rfl (n' := 4) rfl (by decide) (by decide) rfl rfl ?_
  intro a16 h17 ga16 za16 E17 Va16 O17
  have V18 : Wk.Ary Z h17 a16 .char [] := Va16
  refine Ww.callIS (pc' := 14) C d_method_3_11 (a := a12) (Ww.Con.pays hE (Wn := 1) (own_newE l hw hE O17 a12 a16 za12 (Aa12.ext E17) (F14.ext E17) (F15.ext E17) V18) (w12 hw) (w8 hw) (by decide) (by decide)) Wk.cleanC rfl (w10 hw) (w11 hw) (w12 hw) (by decide) (argsL := [(.ref a16)]) (st := [(.ref a12)]) rfl rfl (lenOf pd19 rfl) rfl (Nat.le_of_eq rfl) (k' := 6) rfl (n' := 12) rfl (by decide) (by decide) rfl ?_
  intro r19 h20 Q20 O20
  obtain ⟨rfl, Kh20, Sh20⟩ := Q20
  have X21 : Ext h0 h17 := Wk.Ext.trans E13 E17
  have X22 : Ext h0 h20 := Wk.Ext.keep1 (Z := Z) X21 Kh20 (Nat.le_of_eq ga12.symm)
  exact Ww.retA C hE rfl rfl d_method_3_14 (by decide) (by decide) ⟨_, rfl, X22, Or.inl Sh20⟩
set_option maxRecDepth 65536 in
set_option maxHeartbeats 40000000 in
theorem own_mk1 (l : Launch) {Z : State} {a0 : Array Value} (hw : Ws a0 Z) {h0 : Heap} (O0 : Ext Z.heap h0) (hs : Sets Z) (us : U16s Z) (c0 c1 c2 c3 : Int32) (r0 : ¬ c0 < 0 ∧ ¬ (65535 : Int32) < c0) (r1 : ¬ c1 < 0 ∧ ¬ (65535 : Int32) < c1) (r2 : ¬ c2 < 0 ∧ ¬ (65535 : Int32) < c2) (r3 : ¬ c3 < 0 ∧ ¬ (65535 : Int32) < c3) :
    Wk.Con l Z (⟨"com/example/shelfmark/shelfmark/model/MarcRecordIsTagPinLaw", "make", "(ICCCC)Ljava/lang/String;"⟩ : MethodName) method_3_code 5 (some (.object "java/lang/String")) ({ frames := 7, cells := 6, slots := 40, locals := 120 } : Room) #[(.int (1 : Int32)), (.int c0), (.int c1), (.int c2), (.int c3)] h0 (fun v h' => ∃ x : Addr, v = some (.ref x) ∧ Ext h0 h' ∧ GS Z h' x [c0]) := by
  refine Wk.Con.intro (plainFor_of_name pn4) O0 (fun m => ef54 m c0 c1 c2 c3) ?_
  intro W C
  replace C : Wk.Cx Z W "com/example/shelfmark/shelfmark/model/MarcRecordIsTagPinLaw" "make" method_3_code 5 (some (.object "java/lang/String")) := C
  refine Wk.iloadN (pc' := 1) C d_method_3_0 rfl rfl ?_
  refine Wk.if_ne C d_method_3_1 (by decide) (pcT := 15) (by decide) (pc' := 4) rfl (fun q11 => ?_) (fun q => absurd q (by decide))
  refine Wk.iloadN (pc' := 16) C d_method_3_15 rfl rfl ?_
  refine Wk.iconst (pc' := 17) C d_method_3_16 (v := (1 : Int32)) rfl rfl ?_
  refine Wk.icmp_ne C d_method_3_17 (by decide) (pcT := 25) (by decide) (pc' := 20) rfl (fun q => absurd q (by decide)) (fun q12 => ?_)
  refine Wk.iloadN (pc' := 21) C d_method_3_20 rfl rfl ?_
  by_cases hU : (255 : Int32) < c0
  · -- UTF16
    refine Wk.callS (pc' := 24) C d_method_3_21 (Wk.Con.pays C (Wn := 0) (own_valueOfU l hw O0 hs us c0 r0 hU) (w45 hw) (w8 hw) (by decide) (by decide)) Wk.cleanC (w43 hw) (w44 hw) (w8 hw) (w45 hw) (by decide) (argsL := [(.int c0)]) (st := []) rfl rfl (lenOf pd20 rfl) rfl (Nat.le_of_eq rfl) (k' := 2) rfl (n' := 6) rfl (by decide) (by decide) rfl ?_
    intro r13 h14 Q14 O14
    obtain ⟨a15, rfl, ga15, Eh14, Sh14⟩ := Q14
    exact Wk.retA C rfl rfl d_method_3_24 (by decide) (by decide) ⟨_, rfl, Eh14, Or.inr Sh14⟩
  · -- Latin-1
    refine Wk.callS (pc' := 24) C d_method_3_21 (Wk.Con.pays C (Wn := 0) (own_valueOf l hw O0 hs c0 ⟨r0.1, hU⟩) (w45 hw) (w8 hw) (by decide) (by decide)) Wk.cleanC (w43 hw) (w44 hw) (w8 hw) (w45 hw) (by decide) (argsL := [(.int c0)]) (st := []) rfl rfl (lenOf pd20 rfl) rfl (Nat.le_of_eq rfl) (k' := 2) rfl (n' := 5) rfl (by decide) (by decide) rfl ?_
    intro r16 h17 Q17 O17
    obtain ⟨a18, rfl, ga18, Eh17, Sh17⟩ := Q17
    exact Wk.retA C rfl rfl d_method_3_24 (by decide) (by decide) ⟨_, rfl, Eh17, Or.inl Sh17⟩
set_option maxRecDepth 65536 in
set_option maxHeartbeats 40000000 in
theorem own_mk2 (l : Launch) {Z : State} {a0 : Array Value} (hw : Ws a0 Z) {h0 : Heap} (O0 : Ext Z.heap h0) (hs : Sets Z) (us : U16s Z) (c0 c1 c2 c3 : Int32) (r0 : ¬ c0 < 0 ∧ ¬ (65535 : Int32) < c0) (r1 : ¬ c1 < 0 ∧ ¬ (65535 : Int32) < c1) (r2 : ¬ c2 < 0 ∧ ¬ (65535 : Int32) < c2) (r3 : ¬ c3 < 0 ∧ ¬ (65535 : Int32) < c3) :
    Wk.Con l Z (⟨"com/example/shelfmark/shelfmark/model/MarcRecordIsTagPinLaw", "make", "(ICCCC)Ljava/lang/String;"⟩ : MethodName) method_3_code 5 (some (.object "java/lang/String")) ({ frames := 7, cells := 6, slots := 40, locals := 120 } : Room) #[(.int (2 : Int32)), (.int c0), (.int c1), (.int c2), (.int c3)] h0 (fun v h' => ∃ x : Addr, v = some (.ref x) ∧ Ext h0 h' ∧ GS Z h' x [c0, c1]) := by
  refine Wk.Con.intro (plainFor_of_name pn4) O0 (fun m => ef55 m c0 c1 c2 c3) ?_
  intro W C
  replace C : Wk.Cx Z W "com/example/shelfmark/shelfmark/model/MarcRecordIsTagPinLaw" "make" method_3_code 5 (some (.object "java/lang/String")) := C
  refine Wk.iloadN (pc' := 1) C d_method_3_0 rfl rfl ?_
  refine Wk.if_ne C d_method_3_1 (by decide) (pcT := 15) (by decide) (pc' := 4) rfl (fun q11 => ?_) (fun q => absurd q (by decide))
  refine Wk.iloadN (pc' := 16) C d_method_3_15 rfl rfl ?_
  refine Wk.iconst (pc' := 17) C d_method_3_16 (v := (1 : Int32)) rfl rfl ?_
  refine Wk.icmp_ne C d_method_3_17 (by decide) (pcT := 25) (by decide) (pc' := 20) rfl (fun q12 => ?_) (fun q => absurd q (by decide))
  refine Wk.iloadN (pc' := 26) C d_method_3_25 rfl rfl ?_
  refine Wk.iconst (pc' := 27) C d_method_3_26 (v := (2 : Int32)) rfl rfl ?_
  refine Wk.icmp_ne C d_method_3_27 (by decide) (pcT := 49) (by decide) (pc' := 30) rfl (fun q => absurd q (by decide)) (fun q13 => ?_)
  refine Wk.newO (pc' := 33) C d_method_3_30 (w6 hw) (w7 hw) (w8 hw) (k' := 1) rfl (n' := 4) rfl (by decide) (by decide) rfl ?_
  intro a14 h15 ga14 za14 E15 Aa14 Da14 Ua14 O15
  have F16 : Fld Z h15 a14 "java/lang/String" "value" "[B" .null := Da14 (Or.inr (w22 hw)) (ty := (.array .byte)) (by decide)
  have F17 : Fld Z h15 a14 "java/lang/String" "coder" "B" (.int (0 : Int32)) := Da14 (Or.inr (w23 hw)) (ty := .byte) (by decide)
  refine Wk.dup (pc' := 34) C d_method_3_33 rfl rfl ?_
  refine Wk.iconst (pc' := 35) C d_method_3_34 (v := (2 : Int32)) rfl rfl ?_
  refine Wk.newA (pc' := 37) C d_method_3_35 (ty := .char) rfl (w9 hw) (by decide) (cap := 2) (by decide) (by decide) (k' := 2) rfl (n' := 6) rfl (by decide) (by decide) rfl rfl ?_
  intro a18 h19 ga18 za18 E19 Va18 O19
  have V20 : Wk.Ary Z h19 a18 .char [(.int (0 : Int32)), (.int (0 : Int32))] := Va18
  refine Wk.dup (pc' := 38) C d_method_3_37 rfl rfl ?_
  refine Wk.iconst (pc' := 39) C d_method_3_38 (v := (0 : Int32)) rfl rfl ?_
  refine Wk.iloadN (pc' := 40) C d_method_3_39 rfl rfl ?_
  refine Wk.castore (pc' := 41) C d_method_3_40 V20 (by decide) (show _ < _ from Nat.le_of_ble_eq_true rfl) (Wk.nar_r16 r0) (vs' := [(.int c0), (.int (0 : Int32))]) rfl za18 rfl ?_
  intro h21 W21 V21 O21
  refine Wk.dup (pc' := 42) C d_method_3_41 rfl rfl ?_
  refine Wk.iconst (pc' := 43) C d_method_3_42 (v := (1 : Int32)) rfl rfl ?_
  refine Wk.iloadN (pc' := 44) C d_method_3_43 rfl rfl ?_
  refine Wk.castore (pc' := 45) C d_method_3_44 V21 (by decide) (show _ < _ from Nat.le_of_ble_eq_true rfl) (Wk.nar_r16 r1) (vs' := [(.int c0), (.int c1)]) rfl za18 rfl ?_
  intro h22 W22 V22 O22
  by_cases hU : ¬ (255 : Int32) < c0 ∧ ¬ (255 : Int32) < c1
  · -- Latin-1
    have hp23 : ∀ c ∈ ([c0, c1] : List Int32), ¬ c < 0 ∧ ¬ (255 : Int32) < c := (List.forall_mem_cons.mpr ⟨⟨r0.1, hU.1⟩, (List.forall_mem_cons.mpr ⟨⟨r1.1, hU.2⟩, (fun _ h => nomatch h)⟩)⟩)
    have X24 : Ext h15 h21 := Wk.Ext.wr (Z := Z) E19 W21 (Nat.le_of_eq ga18.symm)
    have X25 : Ext h15 h22 := Wk.Ext.wr (Z := Z) X24 W22 (Nat.le_of_eq ga18.symm)
    refine Wk.callI (pc' := 48) C d_method_3_45 (a := a14) (strNew C hw hs O22 (cs := [c0, c1]) (n := 2) (Wn := 1) za14 (Aa14.ext X25) (F16.ext X25) (F17.ext X25) V22 rfl (by decide) (by decide) hp23 (by decide) (by decide)) (strNewC (n := 2) O22 za14 rfl (by decide) hp23) rfl (w10 hw) (w11 hw) (w12 hw) (by decide) (argsL := [(.ref a18)]) (st := [(.ref a14)]) rfl rfl (lenOf pd19 rfl) rfl (Nat.le_of_eq rfl) (k' := 3) rfl (n' := 8) rfl (by decide) (by decide) rfl ?_
    intro r26 h27 Q27 O27
    obtain ⟨rfl, Kh27, Sh27⟩ := Q27
    have X28 : Ext h0 h19 := Wk.Ext.trans E15 E19
    have X29 : Ext h0 h21 := Wk.Ext.wr (Z := Z) X28 W21 (Nat.le_trans E15.1 (Nat.le_of_eq ga18.symm))
    have X30 : Ext h0 h22 := Wk.Ext.wr (Z := Z) X29 W22 (Nat.le_trans E15.1 (Nat.le_of_eq ga18.symm))
    have X31 : Ext h0 h27 := Wk.Ext.keep1 (Z := Z) X30 Kh27 (Nat.le_of_eq ga14.symm)
    exact Wk.retA C rfl rfl d_method_3_48 (by decide) (by decide) ⟨_, rfl, X31, Or.inl Sh27⟩
  · -- UTF16
    have X32 : Ext h15 h21 := Wk.Ext.wr (Z := Z) E19 W21 (Nat.le_of_eq ga18.symm)
    have X33 : Ext h15 h22 := Wk.Ext.wr (Z := Z) X32 W22 (Nat.le_of_eq ga18.symm)
    refine Wk.callI (pc' := 48) C d_method_3_45 (a := a14) (Wk.Con.pays C (Wn := 1) (own_i1u2 l hw O22 hs us a14 a18 c0 c1 za14 (Aa14.ext X33) (F16.ext X33) (F17.ext X33) (Ne.symm (Nat.ne_of_lt (Nat.lt_of_lt_of_le Aa14.lt (Nat.le_of_eq ga18.symm)))) V22 r0 r1 hU) (w12 hw) (w8 hw) (by decide) (by decide)) Wk.cleanC rfl (w10 hw) (w11 hw) (w12 hw) (by decide) (argsL := [(.ref a18)]) (st := [(.ref a14)]) rfl rfl (lenOf pd19 rfl) rfl (Nat.le_of_eq rfl) (k' := 4) rfl (n' := 12) rfl (by decide) (by decide) rfl ?_
    intro r34 h35 Q35 O35
    obtain ⟨rfl, K35, S35⟩ := Q35
    have X36 : Ext h0 h19 := Wk.Ext.trans E15 E19
    have X37 : Ext h0 h21 := Wk.Ext.wr (Z := Z) X36 W21 (Nat.le_trans E15.1 (Nat.le_of_eq ga18.symm))
    have X38 : Ext h0 h22 := Wk.Ext.wr (Z := Z) X37 W22 (Nat.le_trans E15.1 (Nat.le_of_eq ga18.symm))
    have X39 : Ext h0 h35 := Wk.Ext.keep1 (Z := Z) X38 K35 (Nat.le_of_eq ga14.symm)
    exact Wk.retA C rfl rfl d_method_3_48 (by decide) (by decide) ⟨_, rfl, X39, Or.inr S35⟩
set_option maxRecDepth 65536 in
set_option maxHeartbeats 40000000 in
theorem own_mk3 (l : Launch) {Z : State} {a0 : Array Value} (hw : Ws a0 Z) {h0 : Heap} (O0 : Ext Z.heap h0) (hs : Sets Z) (us : U16s Z) (c0 c1 c2 c3 : Int32) (r0 : ¬ c0 < 0 ∧ ¬ (65535 : Int32) < c0) (r1 : ¬ c1 < 0 ∧ ¬ (65535 : Int32) < c1) (r2 : ¬ c2 < 0 ∧ ¬ (65535 : Int32) < c2) (r3 : ¬ c3 < 0 ∧ ¬ (65535 : Int32) < c3) :
    Wk.Con l Z (⟨"com/example/shelfmark/shelfmark/model/MarcRecordIsTagPinLaw", "make", "(ICCCC)Ljava/lang/String;"⟩ : MethodName) method_3_code 5 (some (.object "java/lang/String")) ({ frames := 7, cells := 6, slots := 40, locals := 120 } : Room) #[(.int (3 : Int32)), (.int c0), (.int c1), (.int c2), (.int c3)] h0 (fun v h' => ∃ x : Addr, v = some (.ref x) ∧ Ext h0 h' ∧ GS Z h' x [c0, c1, c2]) := by
  refine Wk.Con.intro (plainFor_of_name pn4) O0 (fun m => ef56 m c0 c1 c2 c3) ?_
  intro W C
  replace C : Wk.Cx Z W "com/example/shelfmark/shelfmark/model/MarcRecordIsTagPinLaw" "make" method_3_code 5 (some (.object "java/lang/String")) := C
  refine Wk.iloadN (pc' := 1) C d_method_3_0 rfl rfl ?_
  refine Wk.if_ne C d_method_3_1 (by decide) (pcT := 15) (by decide) (pc' := 4) rfl (fun q11 => ?_) (fun q => absurd q (by decide))
  refine Wk.iloadN (pc' := 16) C d_method_3_15 rfl rfl ?_
  refine Wk.iconst (pc' := 17) C d_method_3_16 (v := (1 : Int32)) rfl rfl ?_
  refine Wk.icmp_ne C d_method_3_17 (by decide) (pcT := 25) (by decide) (pc' := 20) rfl (fun q12 => ?_) (fun q => absurd q (by decide))
  refine Wk.iloadN (pc' := 26) C d_method_3_25 rfl rfl ?_
  refine Wk.iconst (pc' := 27) C d_method_3_26 (v := (2 : Int32)) rfl rfl ?_
  refine Wk.icmp_ne C d_method_3_27 (by decide) (pcT := 49) (by decide) (pc' := 30) rfl (fun q13 => ?_) (fun q => absurd q (by decide))
  refine Wk.iloadN (pc' := 50) C d_method_3_49 rfl rfl ?_
  refine Wk.iconst (pc' := 51) C d_method_3_50 (v := (3 : Int32)) rfl rfl ?_
  refine Wk.icmp_ne C d_method_3_51 (by decide) (pcT := 77) (by decide) (pc' := 54) rfl (fun q => absurd q (by decide)) (fun q14 => ?_)
  refine Wk.newO (pc' := 57) C d_method_3_54 (w6 hw) (w7 hw) (w8 hw) (k' := 1) rfl (n' := 4) rfl (by decide) (by decide) rfl ?_
  intro a15 h16 ga15 za15 E16 Aa15 Da15 Ua15 O16
  have F17 : Fld Z h16 a15 "java/lang/String" "value" "[B" .null := Da15 (Or.inr (w22 hw)) (ty := (.array .byte)) (by decide)
  have F18 : Fld Z h16 a15 "java/lang/String" "coder" "B" (.int (0 : Int32)) := Da15 (Or.inr (w23 hw)) (ty := .byte) (by decide)
  refine Wk.dup (pc' := 58) C d_method_3_57 rfl rfl ?_
  refine Wk.iconst (pc' := 59) C d_method_3_58 (v := (3 : Int32)) rfl rfl ?_
  refine Wk.newA (pc' := 61) C d_method_3_59 (ty := .char) rfl (w9 hw) (by decide) (cap := 3) (by decide) (by decide) (k' := 2) rfl (n' := 7) rfl (by decide) (by decide) rfl rfl ?_
  intro a19 h20 ga19 za19 E20 Va19 O20
  have V21 : Wk.Ary Z h20 a19 .char [(.int (0 : Int32)), (.int (0 : Int32)), (.int (0 : Int32))] := Va19
  refine Wk.dup (pc' := 62) C d_method_3_61 rfl rfl ?_
  refine Wk.iconst (pc' := 63) C d_method_3_62 (v := (0 : Int32)) rfl rfl ?_
  refine Wk.iloadN (pc' := 64) C d_method_3_63 rfl rfl ?_
  refine Wk.castore (pc' := 65) C d_method_3_64 V21 (by decide) (show _ < _ from Nat.le_of_ble_eq_true rfl) (Wk.nar_r16 r0) (vs' := [(.int c0), (.int (0 : Int32)), (.int (0 : Int32))]) rfl za19 rfl ?_
  intro h22 W22 V22 O22
  refine Wk.dup (pc' := 66) C d_method_3_65 rfl rfl ?_
  refine Wk.iconst (pc' := 67) C d_method_3_66 (v := (1 : Int32)) rfl rfl ?_
  refine Wk.iloadN (pc' := 68) C d_method_3_67 rfl rfl ?_
  refine Wk.castore (pc' := 69) C d_method_3_68 V22 (by decide) (show _ < _ from Nat.le_of_ble_eq_true rfl) (Wk.nar_r16 r1) (vs' := [(.int c0), (.int c1), (.int (0 : Int32))]) rfl za19 rfl ?_
  intro h23 W23 V23 O23
  refine Wk.dup (pc' := 70) C d_method_3_69 rfl rfl ?_
  refine Wk.iconst (pc' := 71) C d_method_3_70 (v := (2 : Int32)) rfl rfl ?_
  refine Wk.iloadN (pc' := 72) C d_method_3_71 rfl rfl ?_
  refine Wk.castore (pc' := 73) C d_method_3_72 V23 (by decide) (show _ < _ from Nat.le_of_ble_eq_true rfl) (Wk.nar_r16 r2) (vs' := [(.int c0), (.int c1), (.int c2)]) rfl za19 rfl ?_
  intro h24 W24 V24 O24
  by_cases hU : ¬ (255 : Int32) < c0 ∧ ¬ (255 : Int32) < c1 ∧ ¬ (255 : Int32) < c2
  · -- Latin-1
    have hp25 : ∀ c ∈ ([c0, c1, c2] : List Int32), ¬ c < 0 ∧ ¬ (255 : Int32) < c := (List.forall_mem_cons.mpr ⟨⟨r0.1, hU.1⟩, (List.forall_mem_cons.mpr ⟨⟨r1.1, hU.2.1⟩, (List.forall_mem_cons.mpr ⟨⟨r2.1, hU.2.2⟩, (fun _ h => nomatch h)⟩)⟩)⟩)
    have X26 : Ext h16 h22 := Wk.Ext.wr (Z := Z) E20 W22 (Nat.le_of_eq ga19.symm)
    have X27 : Ext h16 h23 := Wk.Ext.wr (Z := Z) X26 W23 (Nat.le_of_eq ga19.symm)
    have X28 : Ext h16 h24 := Wk.Ext.wr (Z := Z) X27 W24 (Nat.le_of_eq ga19.symm)
    refine Wk.callI (pc' := 76) C d_method_3_73 (a := a15) (strNew C hw hs O24 (cs := [c0, c1, c2]) (n := 3) (Wn := 1) za15 (Aa15.ext X28) (F17.ext X28) (F18.ext X28) V24 rfl (by decide) (by decide) hp25 (by decide) (by decide)) (strNewC (n := 3) O24 za15 rfl (by decide) hp25) rfl (w10 hw) (w11 hw) (w12 hw) (by decide) (argsL := [(.ref a19)]) (st := [(.ref a15)]) rfl rfl (lenOf pd19 rfl) rfl (Nat.le_of_eq rfl) (k' := 3) rfl (n' := 10) rfl (by decide) (by decide) rfl ?_
    intro r29 h30 Q30 O30
    obtain ⟨rfl, Kh30, Sh30⟩ := Q30
    have X31 : Ext h0 h20 := Wk.Ext.trans E16 E20
    have X32 : Ext h0 h22 := Wk.Ext.wr (Z := Z) X31 W22 (Nat.le_trans E16.1 (Nat.le_of_eq ga19.symm))
    have X33 : Ext h0 h23 := Wk.Ext.wr (Z := Z) X32 W23 (Nat.le_trans E16.1 (Nat.le_of_eq ga19.symm))
    have X34 : Ext h0 h24 := Wk.Ext.wr (Z := Z) X33 W24 (Nat.le_trans E16.1 (Nat.le_of_eq ga19.symm))
    have X35 : Ext h0 h30 := Wk.Ext.keep1 (Z := Z) X34 Kh30 (Nat.le_of_eq ga15.symm)
    exact Wk.retA C rfl rfl d_method_3_76 (by decide) (by decide) ⟨_, rfl, X35, Or.inl Sh30⟩
  · -- UTF16
    have X36 : Ext h16 h22 := Wk.Ext.wr (Z := Z) E20 W22 (Nat.le_of_eq ga19.symm)
    have X37 : Ext h16 h23 := Wk.Ext.wr (Z := Z) X36 W23 (Nat.le_of_eq ga19.symm)
    have X38 : Ext h16 h24 := Wk.Ext.wr (Z := Z) X37 W24 (Nat.le_of_eq ga19.symm)
    refine Wk.callI (pc' := 76) C d_method_3_73 (a := a15) (Wk.Con.pays C (Wn := 1) (own_i1u3 l hw O24 hs us a15 a19 c0 c1 c2 za15 (Aa15.ext X38) (F17.ext X38) (F18.ext X38) (Ne.symm (Nat.ne_of_lt (Nat.lt_of_lt_of_le Aa15.lt (Nat.le_of_eq ga19.symm)))) V24 r0 r1 r2 hU) (w12 hw) (w8 hw) (by decide) (by decide)) Wk.cleanC rfl (w10 hw) (w11 hw) (w12 hw) (by decide) (argsL := [(.ref a19)]) (st := [(.ref a15)]) rfl rfl (lenOf pd19 rfl) rfl (Nat.le_of_eq rfl) (k' := 4) rfl (n' := 16) rfl (by decide) (by decide) rfl ?_
    intro r39 h40 Q40 O40
    obtain ⟨rfl, K40, S40⟩ := Q40
    have X41 : Ext h0 h20 := Wk.Ext.trans E16 E20
    have X42 : Ext h0 h22 := Wk.Ext.wr (Z := Z) X41 W22 (Nat.le_trans E16.1 (Nat.le_of_eq ga19.symm))
    have X43 : Ext h0 h23 := Wk.Ext.wr (Z := Z) X42 W23 (Nat.le_trans E16.1 (Nat.le_of_eq ga19.symm))
    have X44 : Ext h0 h24 := Wk.Ext.wr (Z := Z) X43 W24 (Nat.le_trans E16.1 (Nat.le_of_eq ga19.symm))
    have X45 : Ext h0 h40 := Wk.Ext.keep1 (Z := Z) X44 K40 (Nat.le_of_eq ga15.symm)
    exact Wk.retA C rfl rfl d_method_3_76 (by decide) (by decide) ⟨_, rfl, X45, Or.inr S40⟩
set_option maxRecDepth 65536 in
set_option maxHeartbeats 40000000 in
theorem own_mk4 (l : Launch) {Z : State} {a0 : Array Value} (hw : Ws a0 Z) {h0 : Heap} (O0 : Ext Z.heap h0) (hs : Sets Z) (us : U16s Z) (c0 c1 c2 c3 : Int32) (r0 : ¬ c0 < 0 ∧ ¬ (65535 : Int32) < c0) (r1 : ¬ c1 < 0 ∧ ¬ (65535 : Int32) < c1) (r2 : ¬ c2 < 0 ∧ ¬ (65535 : Int32) < c2) (r3 : ¬ c3 < 0 ∧ ¬ (65535 : Int32) < c3) :
    Wk.Con l Z (⟨"com/example/shelfmark/shelfmark/model/MarcRecordIsTagPinLaw", "make", "(ICCCC)Ljava/lang/String;"⟩ : MethodName) method_3_code 5 (some (.object "java/lang/String")) ({ frames := 7, cells := 6, slots := 40, locals := 120 } : Room) #[(.int (4 : Int32)), (.int c0), (.int c1), (.int c2), (.int c3)] h0 (fun v h' => ∃ x : Addr, v = some (.ref x) ∧ Ext h0 h' ∧ GS Z h' x [c0, c1, c2, c3]) := by
  refine Wk.Con.intro (plainFor_of_name pn4) O0 (fun m => ef57 m c0 c1 c2 c3) ?_
  intro W C
  replace C : Wk.Cx Z W "com/example/shelfmark/shelfmark/model/MarcRecordIsTagPinLaw" "make" method_3_code 5 (some (.object "java/lang/String")) := C
  refine Wk.iloadN (pc' := 1) C d_method_3_0 rfl rfl ?_
  refine Wk.if_ne C d_method_3_1 (by decide) (pcT := 15) (by decide) (pc' := 4) rfl (fun q11 => ?_) (fun q => absurd q (by decide))
  refine Wk.iloadN (pc' := 16) C d_method_3_15 rfl rfl ?_
  refine Wk.iconst (pc' := 17) C d_method_3_16 (v := (1 : Int32)) rfl rfl ?_
  refine Wk.icmp_ne C d_method_3_17 (by decide) (pcT := 25) (by decide) (pc' := 20) rfl (fun q12 => ?_) (fun q => absurd q (by decide))
  refine Wk.iloadN (pc' := 26) C d_method_3_25 rfl rfl ?_
  refine Wk.iconst (pc' := 27) C d_method_3_26 (v := (2 : Int32)) rfl rfl ?_
  refine Wk.icmp_ne C d_method_3_27 (by decide) (pcT := 49) (by decide) (pc' := 30) rfl (fun q13 => ?_) (fun q => absurd q (by decide))
  refine Wk.iloadN (pc' := 50) C d_method_3_49 rfl rfl ?_
  refine Wk.iconst (pc' := 51) C d_method_3_50 (v := (3 : Int32)) rfl rfl ?_
  refine Wk.icmp_ne C d_method_3_51 (by decide) (pcT := 77) (by decide) (pc' := 54) rfl (fun q14 => ?_) (fun q => absurd q (by decide))
  refine Wk.newO (pc' := 80) C d_method_3_77 (w6 hw) (w7 hw) (w8 hw) (k' := 1) rfl (n' := 4) rfl (by decide) (by decide) rfl ?_
  intro a15 h16 ga15 za15 E16 Aa15 Da15 Ua15 O16
  have F17 : Fld Z h16 a15 "java/lang/String" "value" "[B" .null := Da15 (Or.inr (w22 hw)) (ty := (.array .byte)) (by decide)
  have F18 : Fld Z h16 a15 "java/lang/String" "coder" "B" (.int (0 : Int32)) := Da15 (Or.inr (w23 hw)) (ty := .byte) (by decide)
  refine Wk.dup (pc' := 81) C d_method_3_80 rfl rfl ?_
  refine Wk.iconst (pc' := 82) C d_method_3_81 (v := (4 : Int32)) rfl rfl ?_
  refine Wk.newA (pc' := 84) C d_method_3_82 (ty := .char) rfl (w9 hw) (by decide) (cap := 4) (by decide) (by decide) (k' := 2) rfl (n' := 8) rfl (by decide) (by decide) rfl rfl ?_
  intro a19 h20 ga19 za19 E20 Va19 O20
  have V21 : Wk.Ary Z h20 a19 .char [(.int (0 : Int32)), (.int (0 : Int32)), (.int (0 : Int32)), (.int (0 : Int32))] := Va19
  refine Wk.dup (pc' := 85) C d_method_3_84 rfl rfl ?_
  refine Wk.iconst (pc' := 86) C d_method_3_85 (v := (0 : Int32)) rfl rfl ?_
  refine Wk.iloadN (pc' := 87) C d_method_3_86 rfl rfl ?_
  refine Wk.castore (pc' := 88) C d_method_3_87 V21 (by decide) (show _ < _ from Nat.le_of_ble_eq_true rfl) (Wk.nar_r16 r0) (vs' := [(.int c0), (.int (0 : Int32)), (.int (0 : Int32)), (.int (0 : Int32))]) rfl za19 rfl ?_
  intro h22 W22 V22 O22
  refine Wk.dup (pc' := 89) C d_method_3_88 rfl rfl ?_
  refine Wk.iconst (pc' := 90) C d_method_3_89 (v := (1 : Int32)) rfl rfl ?_
  refine Wk.iloadN (pc' := 91) C d_method_3_90 rfl rfl ?_
  refine Wk.castore (pc' := 92) C d_method_3_91 V22 (by decide) (show _ < _ from Nat.le_of_ble_eq_true rfl) (Wk.nar_r16 r1) (vs' := [(.int c0), (.int c1), (.int (0 : Int32)), (.int (0 : Int32))]) rfl za19 rfl ?_
  intro h23 W23 V23 O23
  refine Wk.dup (pc' := 93) C d_method_3_92 rfl rfl ?_
  refine Wk.iconst (pc' := 94) C d_method_3_93 (v := (2 : Int32)) rfl rfl ?_
  refine Wk.iloadN (pc' := 95) C d_method_3_94 rfl rfl ?_
  refine Wk.castore (pc' := 96) C d_method_3_95 V23 (by decide) (show _ < _ from Nat.le_of_ble_eq_true rfl) (Wk.nar_r16 r2) (vs' := [(.int c0), (.int c1), (.int c2), (.int (0 : Int32))]) rfl za19 rfl ?_
  intro h24 W24 V24 O24
  refine Wk.dup (pc' := 97) C d_method_3_96 rfl rfl ?_
  refine Wk.iconst (pc' := 98) C d_method_3_97 (v := (3 : Int32)) rfl rfl ?_
  refine Wk.iload (pc' := 100) C d_method_3_98 rfl rfl ?_
  refine Wk.castore (pc' := 101) C d_method_3_100 V24 (by decide) (show _ < _ from Nat.le_of_ble_eq_true rfl) (Wk.nar_r16 r3) (vs' := [(.int c0), (.int c1), (.int c2), (.int c3)]) rfl za19 rfl ?_
  intro h25 W25 V25 O25
  by_cases hU : ¬ (255 : Int32) < c0 ∧ ¬ (255 : Int32) < c1 ∧ ¬ (255 : Int32) < c2 ∧ ¬ (255 : Int32) < c3
  · -- Latin-1
    have hp26 : ∀ c ∈ ([c0, c1, c2, c3] : List Int32), ¬ c < 0 ∧ ¬ (255 : Int32) < c := (List.forall_mem_cons.mpr ⟨⟨r0.1, hU.1⟩, (List.forall_mem_cons.mpr ⟨⟨r1.1, hU.2.1⟩, (List.forall_mem_cons.mpr ⟨⟨r2.1, hU.2.2.1⟩, (List.forall_mem_cons.mpr ⟨⟨r3.1, hU.2.2.2⟩, (fun _ h => nomatch h)⟩)⟩)⟩)⟩)
    have X27 : Ext h16 h22 := Wk.Ext.wr (Z := Z) E20 W22 (Nat.le_of_eq ga19.symm)
    have X28 : Ext h16 h23 := Wk.Ext.wr (Z := Z) X27 W23 (Nat.le_of_eq ga19.symm)
    have X29 : Ext h16 h24 := Wk.Ext.wr (Z := Z) X28 W24 (Nat.le_of_eq ga19.symm)
    have X30 : Ext h16 h25 := Wk.Ext.wr (Z := Z) X29 W25 (Nat.le_of_eq ga19.symm)
    refine Wk.callI (pc' := 104) C d_method_3_101 (a := a15) (strNew C hw hs O25 (cs := [c0, c1, c2, c3]) (n := 4) (Wn := 1) za15 (Aa15.ext X30) (F17.ext X30) (F18.ext X30) V25 rfl (by decide) (by decide) hp26 (by decide) (by decide)) (strNewC (n := 4) O25 za15 rfl (by decide) hp26) rfl (w10 hw) (w11 hw) (w12 hw) (by decide) (argsL := [(.ref a19)]) (st := [(.ref a15)]) rfl rfl (lenOf pd19 rfl) rfl (Nat.le_of_eq rfl) (k' := 3) rfl (n' := 12) rfl (by decide) (by decide) rfl ?_
    intro r31 h32 Q32 O32
    obtain ⟨rfl, Kh32, Sh32⟩ := Q32
    have X33 : Ext h0 h20 := Wk.Ext.trans E16 E20
    have X34 : Ext h0 h22 := Wk.Ext.wr (Z := Z) X33 W22 (Nat.le_trans E16.1 (Nat.le_of_eq ga19.symm))
    have X35 : Ext h0 h23 := Wk.Ext.wr (Z := Z) X34 W23 (Nat.le_trans E16.1 (Nat.le_of_eq ga19.symm))
    have X36 : Ext h0 h24 := Wk.Ext.wr (Z := Z) X35 W24 (Nat.le_trans E16.1 (Nat.le_of_eq ga19.symm))
    have X37 : Ext h0 h25 := Wk.Ext.wr (Z := Z) X36 W25 (Nat.le_trans E16.1 (Nat.le_of_eq ga19.symm))
    have X38 : Ext h0 h32 := Wk.Ext.keep1 (Z := Z) X37 Kh32 (Nat.le_of_eq ga15.symm)
    exact Wk.retA C rfl rfl d_method_3_104 (by decide) (by decide) ⟨_, rfl, X38, Or.inl Sh32⟩
  · -- UTF16
    have X39 : Ext h16 h22 := Wk.Ext.wr (Z := Z) E20 W22 (Nat.le_of_eq ga19.symm)
    have X40 : Ext h16 h23 := Wk.Ext.wr (Z := Z) X39 W23 (Nat.le_of_eq ga19.symm)
    have X41 : Ext h16 h24 := Wk.Ext.wr (Z := Z) X40 W24 (Nat.le_of_eq ga19.symm)
    have X42 : Ext h16 h25 := Wk.Ext.wr (Z := Z) X41 W25 (Nat.le_of_eq ga19.symm)
    refine Wk.callI (pc' := 104) C d_method_3_101 (a := a15) (Wk.Con.pays C (Wn := 1) (own_i1u4 l hw O25 hs us a15 a19 c0 c1 c2 c3 za15 (Aa15.ext X42) (F17.ext X42) (F18.ext X42) (Ne.symm (Nat.ne_of_lt (Nat.lt_of_lt_of_le Aa15.lt (Nat.le_of_eq ga19.symm)))) V25 r0 r1 r2 r3 hU) (w12 hw) (w8 hw) (by decide) (by decide)) Wk.cleanC rfl (w10 hw) (w11 hw) (w12 hw) (by decide) (argsL := [(.ref a19)]) (st := [(.ref a15)]) rfl rfl (lenOf pd19 rfl) rfl (Nat.le_of_eq rfl) (k' := 4) rfl (n' := 20) rfl (by decide) (by decide) rfl ?_
    intro r43 h44 Q44 O44
    obtain ⟨rfl, K44, S44⟩ := Q44
    have X45 : Ext h0 h20 := Wk.Ext.trans E16 E20
    have X46 : Ext h0 h22 := Wk.Ext.wr (Z := Z) X45 W22 (Nat.le_trans E16.1 (Nat.le_of_eq ga19.symm))
    have X47 : Ext h0 h23 := Wk.Ext.wr (Z := Z) X46 W23 (Nat.le_trans E16.1 (Nat.le_of_eq ga19.symm))
    have X48 : Ext h0 h24 := Wk.Ext.wr (Z := Z) X47 W24 (Nat.le_trans E16.1 (Nat.le_of_eq ga19.symm))
    have X49 : Ext h0 h25 := Wk.Ext.wr (Z := Z) X48 W25 (Nat.le_trans E16.1 (Nat.le_of_eq ga19.symm))
    have X50 : Ext h0 h44 := Wk.Ext.keep1 (Z := Z) X49 K44 (Nat.le_of_eq ga15.symm)
    exact Wk.retA C rfl rfl d_method_3_104 (by decide) (by decide) ⟨_, rfl, X50, Or.inr S44⟩
set_option maxRecDepth 65536 in
set_option maxHeartbeats 80000000 in
theorem own_law (l : Launch) {Z : State} {a0 : Array Value} (hw : Ws a0 Z) (hE : EW Z a0 EL) (p0 p1 p2 : Int32) (hs : Sets Z) (us : U16s Z)  :
    Ww.Con l Z EL x code maxLocals ret room_1 #[(.int p0), (.int p1), (.int p2)] Z.heap (fun v _ => v = some (.int 1)) := by
  refine Ww.Con.intro (plainFor_of_name pn4) (Wk.Ext.refl _) (fun m => ef58 m p0 p1 p2) ?_
  intro W C
  replace C : Wk.Cx Z W "com/example/shelfmark/shelfmark/model/MarcRecordIsTagPinLaw" "law" code 10 (some .boolean) := C
  have O0 : Ext Z.heap Z.heap := Wk.Ext.refl _
  refine Ww.iloadN (pc' := 1) C at_0 rfl rfl ?_
  refine Ww.ldcI (pc' := 3) C at_1 (w0 hw) rfl ?_
  obtain ⟨v11, hv11⟩ : ∃ z : Int32, p0 &&& (2147483647 : Int32) = z := ⟨_, rfl⟩
  refine Ww.iand (pc' := 4) C at_3 hv11 rfl ?_
  refine Ww.iconst (pc' := 5) C at_4 (v := (5 : Int32)) rfl rfl ?_
  obtain ⟨v12, hv12⟩ : ∃ z : Int32, v11 % (5 : Int32) = z := ⟨_, rfl⟩
  refine Ww.irem (pc' := 6) C at_5 (by decide) hv12 rfl ?_
  refine Ww.istoreN (pc' := 7) C at_6 (Ls' := #[.val (.int p0), .val (.int p1), .val (.int p2), .val (.int v12), .unset, .unset, .unset, .unset, .unset, .unset]) rfl rfl ?_
  refine Ww.iloadN (pc' := 8) C at_7 rfl rfl ?_
  refine Ww.ldcI (pc' := 10) C at_8 (w1 hw) rfl ?_
  obtain ⟨v13, hv13⟩ : ∃ z : Int32, p1 &&& (65535 : Int32) = z := ⟨_, rfl⟩
  refine Ww.iand (pc' := 11) C at_10 hv13 rfl ?_
  obtain ⟨v14, hv14⟩ : ∃ z : Int32, v13.toUInt32.toUInt16.toUInt32.toInt32 = z := ⟨_, rfl⟩
  refine Ww.i2c (pc' := 12) C at_11 hv14 rfl ?_
  refine Ww.istore (pc' := 14) C at_12 (Ls' := #[.val (.int p0), .val (.int p1), .val (.int p2), .val (.int v12), .val (.int v14), .unset, .unset, .unset, .unset, .unset]) rfl rfl ?_
  refine Ww.iloadN (pc' := 15) C at_14 rfl rfl ?_
  refine Ww.bipush (pc' := 17) C at_15 (v := (16 : Int32)) rfl rfl ?_
  obtain ⟨v15, hv15⟩ : ∃ z : Int32, (p1.toUInt32 >>> ((16 : Int32) &&& 31).toUInt32).toInt32 = z := ⟨_, rfl⟩
  refine Ww.iushr (pc' := 18) C at_17 hv15 rfl ?_
  obtain ⟨v16, hv16⟩ : ∃ z : Int32, v15.toUInt32.toUInt16.toUInt32.toInt32 = z := ⟨_, rfl⟩
  refine Ww.i2c (pc' := 19) C at_18 hv16 rfl ?_
  refine Ww.istore (pc' := 21) C at_19 (Ls' := #[.val (.int p0), .val (.int p1), .val (.int p2), .val (.int v12), .val (.int v14), .val (.int v16), .unset, .unset, .unset, .unset]) rfl rfl ?_
  refine Ww.iloadN (pc' := 22) C at_21 rfl rfl ?_
  refine Ww.ldcI (pc' := 24) C at_22 (w1 hw) rfl ?_
  obtain ⟨v17, hv17⟩ : ∃ z : Int32, p2 &&& (65535 : Int32) = z := ⟨_, rfl⟩
  refine Ww.iand (pc' := 25) C at_24 hv17 rfl ?_
  obtain ⟨v18, hv18⟩ : ∃ z : Int32, v17.toUInt32.toUInt16.toUInt32.toInt32 = z := ⟨_, rfl⟩
  refine Ww.i2c (pc' := 26) C at_25 hv18 rfl ?_
  refine Ww.istore (pc' := 28) C at_26 (Ls' := #[.val (.int p0), .val (.int p1), .val (.int p2), .val (.int v12), .val (.int v14), .val (.int v16), .val (.int v18), .unset, .unset, .unset]) rfl rfl ?_
  refine Ww.iloadN (pc' := 29) C at_28 rfl rfl ?_
  refine Ww.bipush (pc' := 31) C at_29 (v := (16 : Int32)) rfl rfl ?_
  obtain ⟨v19, hv19⟩ : ∃ z : Int32, (p2.toUInt32 >>> ((16 : Int32) &&& 31).toUInt32).toInt32 = z := ⟨_, rfl⟩
  refine Ww.iushr (pc' := 32) C at_31 hv19 rfl ?_
  obtain ⟨v20, hv20⟩ : ∃ z : Int32, v19.toUInt32.toUInt16.toUInt32.toInt32 = z := ⟨_, rfl⟩
  refine Ww.i2c (pc' := 33) C at_32 hv20 rfl ?_
  refine Ww.istore (pc' := 35) C at_33 (Ls' := #[.val (.int p0), .val (.int p1), .val (.int p2), .val (.int v12), .val (.int v14), .val (.int v16), .val (.int v18), .val (.int v20), .unset, .unset]) rfl rfl ?_
  have t0 : 0 ≤ v12.toInt ∧ v12.toInt < 5 := by
    have a := Wk.modr (Wk.mask31 hv11) (by decide) hv12
    have c5 : (5 : Int32).toInt = 5 := by decide
    omega
  have hl5 : v12 = 0 ∨ v12 = 1 ∨ v12 = 2 ∨ v12 = 3 ∨ v12 = 4 := by
    have c0 : (0 : Int32).toInt = 0 := by decide
    have c1 : (1 : Int32).toInt = 1 := by decide
    have c2 : (2 : Int32).toInt = 2 := by decide
    have c3 : (3 : Int32).toInt = 3 := by decide
    have c4 : (4 : Int32).toInt = 4 := by decide
    have a : v12.toInt = 0 ∨ v12.toInt = 1 ∨ v12.toInt = 2 ∨ v12.toInt = 3 ∨ v12.toInt = 4 := by omega
    rcases a with a | a | a | a | a
    · exact Or.inl (Wk.eqI (a.trans c0.symm))
    · exact Or.inr (Or.inl (Wk.eqI (a.trans c1.symm)))
    · exact Or.inr (Or.inr (Or.inl (Wk.eqI (a.trans c2.symm))))
    · exact Or.inr (Or.inr (Or.inr (Or.inl (Wk.eqI (a.trans c3.symm)))))
    · exact Or.inr (Or.inr (Or.inr (Or.inr ((Wk.eqI (a.trans c4.symm))))))
  rcases hl5 with hl5 | hl5 | hl5 | hl5 | hl5
  · -- the length is 0
    subst hl5
    refine Ww.iloadN (pc' := 36) C at_35 rfl rfl ?_
    refine Ww.iload (pc' := 38) C at_36 rfl rfl ?_
    refine Ww.iload (pc' := 40) C at_38 rfl rfl ?_
    refine Ww.iload (pc' := 42) C at_40 rfl rfl ?_
    refine Ww.iload (pc' := 44) C at_42 rfl rfl ?_
    refine Ww.callSS (pc' := 47) C at_44 (Ww.Con.pays hE (Wn := 0) (own_mk0 l hw hE O0 v14 v16 v18 v20) (w5 hw) (w4 hw) (by decide) (by decide)) Wk.cleanC (w2 hw) (w3 hw) (w4 hw) (w5 hw) (by decide) (argsL := [(.int (0 : Int32)), (.int v14), (.int v16), (.int v18), (.int v20)]) (st := []) rfl rfl (lenOf pd21 rfl) rfl (Nat.le_of_eq rfl) (k' := 8) rfl (n' := 16) rfl (by decide) (by decide) rfl ?_
    intro r21 h22 Q22 O22
    obtain ⟨x23, rfl, E22, S22⟩ := Q22
    refine Ww.astore (pc' := 49) C at_47 rfl (Ls' := #[.val (.int p0), .val (.int p1), .val (.int p2), .val (.int (0 : Int32)), .val (.int v14), .val (.int v16), .val (.int v18), .val (.int v20), .val (.ref x23), .unset]) rfl rfl ?_
    refine Ww.iloadN (pc' := 50) C at_49 rfl rfl ?_
    refine Ww.iconst (pc' := 51) C at_50 (v := (3 : Int32)) rfl rfl ?_
    refine Ww.icmp_ne C at_51 (by decide) (pcT := 82) (by decide) (pc' := 54) rfl (fun q24 => ?_) (fun q => absurd q (by decide))
    refine Ww.iconst (pc' := 83) C at_82 (v := (0 : Int32)) rfl rfl ?_
    refine Ww.istore (pc' := 85) C at_83 (Ls' := #[.val (.int p0), .val (.int p1), .val (.int p2), .val (.int (0 : Int32)), .val (.int v14), .val (.int v16), .val (.int v18), .val (.int v20), .val (.ref x23), .val (.int (0 : Int32))]) rfl rfl ?_
    refine Ww.aload (pc' := 87) C at_85 rfl rfl rfl ?_
    refine Ww.callS (pc' := 90) C at_87 (fun vm0 C => (Wk.Con.pays C (Wn := 0) (own_tagN l hw O22 hs x23 ([] : List Int32) S22 (show ¬ (0 : Nat) = 3 by decide)) (w31 hw) (w30 hw) (by decide) (by decide))) Wk.cleanC (fun v h' q => Or.inl q.2) (w28 hw) (w29 hw) (w30 hw) (w31 hw) (by decide) (argsL := [(.ref x23)]) (st := []) rfl rfl (lenOf pd22 rfl) rfl (Nat.le_of_eq rfl) (k' := 8) rfl (n' := 16) rfl (by decide) (by decide) rfl ?_
    intro r25 h26 Q26 O26
    obtain ⟨rfl, e27⟩ := Q26
    obtain rfl := e27.symm
    refine Ww.iload (pc' := 92) C at_90 rfl rfl ?_
    refine Ww.icmp_ne C at_92 (by decide) (pcT := 99) (by decide) (pc' := 95) rfl (fun q => absurd q (by decide)) (fun q28 => ?_)
    refine Ww.iconst (pc' := 96) C at_95 (v := (1 : Int32)) rfl rfl ?_
    refine Ww.goto C at_96 (by decide) (pc' := 100) (by decide) ?_
    exact Ww.retNar (ty := .boolean) C hE (by simp) at_100 rfl (by decide) (by decide) rfl
  · -- the length is 1
    subst hl5
    refine Ww.iloadN (pc' := 36) C at_35 rfl rfl ?_
    refine Ww.iload (pc' := 38) C at_36 rfl rfl ?_
    refine Ww.iload (pc' := 40) C at_38 rfl rfl ?_
    refine Ww.iload (pc' := 42) C at_40 rfl rfl ?_
    refine Ww.iload (pc' := 44) C at_42 rfl rfl ?_
    refine Ww.callS (pc' := 47) C at_44 (fun vm0 C => (Wk.Con.pays C (Wn := 0) (own_mk1 l hw O0 hs us v14 v16 v18 v20 (own_r16 hv14) (own_r16 hv16) (own_r16 hv18) (own_r16 hv20)) (w5 hw) (w4 hw) (by decide) (by decide))) Wk.cleanC (fun v h' q => by obtain ⟨_, -, E, -⟩ := q; exact Or.inr (Or.inl E)) (w2 hw) (w3 hw) (w4 hw) (w5 hw) (by decide) (argsL := [(.int (1 : Int32)), (.int v14), (.int v16), (.int v18), (.int v20)]) (st := []) rfl rfl (lenOf pd21 rfl) rfl (Nat.le_of_eq rfl) (k' := 6) rfl (n' := 40) rfl (by decide) (by decide) rfl ?_
    intro r29 h30 Q30 O30
    obtain ⟨x31, rfl, E30, S30⟩ := Q30
    refine Ww.astore (pc' := 49) C at_47 rfl (Ls' := #[.val (.int p0), .val (.int p1), .val (.int p2), .val (.int (1 : Int32)), .val (.int v14), .val (.int v16), .val (.int v18), .val (.int v20), .val (.ref x31), .unset]) rfl rfl ?_
    refine Ww.iloadN (pc' := 50) C at_49 rfl rfl ?_
    refine Ww.iconst (pc' := 51) C at_50 (v := (3 : Int32)) rfl rfl ?_
    refine Ww.icmp_ne C at_51 (by decide) (pcT := 82) (by decide) (pc' := 54) rfl (fun q32 => ?_) (fun q => absurd q (by decide))
    refine Ww.iconst (pc' := 83) C at_82 (v := (0 : Int32)) rfl rfl ?_
    refine Ww.istore (pc' := 85) C at_83 (Ls' := #[.val (.int p0), .val (.int p1), .val (.int p2), .val (.int (1 : Int32)), .val (.int v14), .val (.int v16), .val (.int v18), .val (.int v20), .val (.ref x31), .val (.int (0 : Int32))]) rfl rfl ?_
    refine Ww.aload (pc' := 87) C at_85 rfl rfl rfl ?_
    refine Ww.callS (pc' := 90) C at_87 (fun vm0 C => (Wk.Con.pays C (Wn := 0) (own_tagN l hw O30 hs x31 [v14] S30 (show ¬ (1 : Nat) = 3 by decide)) (w31 hw) (w30 hw) (by decide) (by decide))) Wk.cleanC (fun v h' q => Or.inl q.2) (w28 hw) (w29 hw) (w30 hw) (w31 hw) (by decide) (argsL := [(.ref x31)]) (st := []) rfl rfl (lenOf pd22 rfl) rfl (Nat.le_of_eq rfl) (k' := 6) rfl (n' := 40) rfl (by decide) (by decide) rfl ?_
    intro r33 h34 Q34 O34
    obtain ⟨rfl, e35⟩ := Q34
    obtain rfl := e35.symm
    refine Ww.iload (pc' := 92) C at_90 rfl rfl ?_
    refine Ww.icmp_ne C at_92 (by decide) (pcT := 99) (by decide) (pc' := 95) rfl (fun q => absurd q (by decide)) (fun q36 => ?_)
    refine Ww.iconst (pc' := 96) C at_95 (v := (1 : Int32)) rfl rfl ?_
    refine Ww.goto C at_96 (by decide) (pc' := 100) (by decide) ?_
    exact Ww.retNar (ty := .boolean) C hE (by simp) at_100 rfl (by decide) (by decide) rfl
  · -- the length is 2
    subst hl5
    refine Ww.iloadN (pc' := 36) C at_35 rfl rfl ?_
    refine Ww.iload (pc' := 38) C at_36 rfl rfl ?_
    refine Ww.iload (pc' := 40) C at_38 rfl rfl ?_
    refine Ww.iload (pc' := 42) C at_40 rfl rfl ?_
    refine Ww.iload (pc' := 44) C at_42 rfl rfl ?_
    refine Ww.callS (pc' := 47) C at_44 (fun vm0 C => (Wk.Con.pays C (Wn := 0) (own_mk2 l hw O0 hs us v14 v16 v18 v20 (own_r16 hv14) (own_r16 hv16) (own_r16 hv18) (own_r16 hv20)) (w5 hw) (w4 hw) (by decide) (by decide))) Wk.cleanC (fun v h' q => by obtain ⟨_, -, E, -⟩ := q; exact Or.inr (Or.inl E)) (w2 hw) (w3 hw) (w4 hw) (w5 hw) (by decide) (argsL := [(.int (2 : Int32)), (.int v14), (.int v16), (.int v18), (.int v20)]) (st := []) rfl rfl (lenOf pd21 rfl) rfl (Nat.le_of_eq rfl) (k' := 6) rfl (n' := 40) rfl (by decide) (by decide) rfl ?_
    intro r37 h38 Q38 O38
    obtain ⟨x39, rfl, E38, S38⟩ := Q38
    refine Ww.astore (pc' := 49) C at_47 rfl (Ls' := #[.val (.int p0), .val (.int p1), .val (.int p2), .val (.int (2 : Int32)), .val (.int v14), .val (.int v16), .val (.int v18), .val (.int v20), .val (.ref x39), .unset]) rfl rfl ?_
    refine Ww.iloadN (pc' := 50) C at_49 rfl rfl ?_
    refine Ww.iconst (pc' := 51) C at_50 (v := (3 : Int32)) rfl rfl ?_
    refine Ww.icmp_ne C at_51 (by decide) (pcT := 82) (by decide) (pc' := 54) rfl (fun q40 => ?_) (fun q => absurd q (by decide))
    refine Ww.iconst (pc' := 83) C at_82 (v := (0 : Int32)) rfl rfl ?_
    refine Ww.istore (pc' := 85) C at_83 (Ls' := #[.val (.int p0), .val (.int p1), .val (.int p2), .val (.int (2 : Int32)), .val (.int v14), .val (.int v16), .val (.int v18), .val (.int v20), .val (.ref x39), .val (.int (0 : Int32))]) rfl rfl ?_
    refine Ww.aload (pc' := 87) C at_85 rfl rfl rfl ?_
    refine Ww.callS (pc' := 90) C at_87 (fun vm0 C => (Wk.Con.pays C (Wn := 0) (own_tagN l hw O38 hs x39 [v14, v16] S38 (show ¬ (2 : Nat) = 3 by decide)) (w31 hw) (w30 hw) (by decide) (by decide))) Wk.cleanC (fun v h' q => Or.inl q.2) (w28 hw) (w29 hw) (w30 hw) (w31 hw) (by decide) (argsL := [(.ref x39)]) (st := []) rfl rfl (lenOf pd22 rfl) rfl (Nat.le_of_eq rfl) (k' := 6) rfl (n' := 40) rfl (by decide) (by decide) rfl ?_
    intro r41 h42 Q42 O42
    obtain ⟨rfl, e43⟩ := Q42
    obtain rfl := e43.symm
    refine Ww.iload (pc' := 92) C at_90 rfl rfl ?_
    refine Ww.icmp_ne C at_92 (by decide) (pcT := 99) (by decide) (pc' := 95) rfl (fun q => absurd q (by decide)) (fun q44 => ?_)
    refine Ww.iconst (pc' := 96) C at_95 (v := (1 : Int32)) rfl rfl ?_
    refine Ww.goto C at_96 (by decide) (pc' := 100) (by decide) ?_
    exact Ww.retNar (ty := .boolean) C hE (by simp) at_100 rfl (by decide) (by decide) rfl
  · -- the length is 3
    subst hl5
    refine Ww.iloadN (pc' := 36) C at_35 rfl rfl ?_
    refine Ww.iload (pc' := 38) C at_36 rfl rfl ?_
    refine Ww.iload (pc' := 40) C at_38 rfl rfl ?_
    refine Ww.iload (pc' := 42) C at_40 rfl rfl ?_
    refine Ww.iload (pc' := 44) C at_42 rfl rfl ?_
    refine Ww.callS (pc' := 47) C at_44 (fun vm0 C => (Wk.Con.pays C (Wn := 0) (own_mk3 l hw O0 hs us v14 v16 v18 v20 (own_r16 hv14) (own_r16 hv16) (own_r16 hv18) (own_r16 hv20)) (w5 hw) (w4 hw) (by decide) (by decide))) Wk.cleanC (fun v h' q => by obtain ⟨_, -, E, -⟩ := q; exact Or.inr (Or.inl E)) (w2 hw) (w3 hw) (w4 hw) (w5 hw) (by decide) (argsL := [(.int (3 : Int32)), (.int v14), (.int v16), (.int v18), (.int v20)]) (st := []) rfl rfl (lenOf pd21 rfl) rfl (Nat.le_of_eq rfl) (k' := 6) rfl (n' := 40) rfl (by decide) (by decide) rfl ?_
    intro r45 h46 Q46 O46
    obtain ⟨x47, rfl, E46, S46⟩ := Q46
    refine Ww.astore (pc' := 49) C at_47 rfl (Ls' := #[.val (.int p0), .val (.int p1), .val (.int p2), .val (.int (3 : Int32)), .val (.int v14), .val (.int v16), .val (.int v18), .val (.int v20), .val (.ref x47), .unset]) rfl rfl ?_
    refine Ww.iloadN (pc' := 50) C at_49 rfl rfl ?_
    refine Ww.iconst (pc' := 51) C at_50 (v := (3 : Int32)) rfl rfl ?_
    refine Ww.icmp_ne C at_51 (by decide) (pcT := 82) (by decide) (pc' := 54) rfl (fun q => absurd q (by decide)) (fun q48 => ?_)
    refine Ww.iload (pc' := 56) C at_54 rfl rfl ?_
    refine Ww.callS (pc' := 59) C at_56 (fun vm0 C => (Wk.Con.pays C (Wn := 0) (own_alnum l hw O46 v14 (own_r16 hv14)) (w88 hw) (w4 hw) (by decide) (by decide))) Wk.cleanC (fun v h' q => Or.inl q.2) (w86 hw) (w87 hw) (w4 hw) (w88 hw) (by decide) (argsL := [(.int v14)]) (st := []) rfl rfl (lenOf pd16 rfl) rfl (Nat.le_of_eq rfl) (k' := 6) rfl (n' := 40) rfl (by decide) (by decide) rfl ?_
    intro r49 h50 Q50 O50
    obtain ⟨q52, e51⟩ := Q50
    obtain rfl := e51.symm
    rcases q52 with ⟨rfl, q52⟩ | ⟨rfl, q52⟩
    · -- alnum: True
      refine Ww.if_eq C at_59 (by decide) (pcT := 82) (by decide) (pc' := 62) rfl (fun q => absurd q (by decide)) (fun q53 => ?_)
      refine Ww.iload (pc' := 64) C at_62 rfl rfl ?_
      refine Ww.callS (pc' := 67) C at_64 (fun vm0 C => (Wk.Con.pays C (Wn := 0) (own_alnum l hw O46 v16 (own_r16 hv16)) (w88 hw) (w4 hw) (by decide) (by decide))) Wk.cleanC (fun v h' q => Or.inl q.2) (w86 hw) (w87 hw) (w4 hw) (w88 hw) (by decide) (argsL := [(.int v16)]) (st := []) rfl rfl (lenOf pd16 rfl) rfl (Nat.le_of_eq rfl) (k' := 6) rfl (n' := 40) rfl (by decide) (by decide) rfl ?_
      intro r54 h55 Q55 O55
      obtain ⟨q57, e56⟩ := Q55
      obtain rfl := e56.symm
      rcases q57 with ⟨rfl, q57⟩ | ⟨rfl, q57⟩
      · -- alnum: True
        refine Ww.if_eq C at_67 (by decide) (pcT := 82) (by decide) (pc' := 70) rfl (fun q => absurd q (by decide)) (fun q58 => ?_)
        refine Ww.iload (pc' := 72) C at_70 rfl rfl ?_
        refine Ww.callS (pc' := 75) C at_72 (fun vm0 C => (Wk.Con.pays C (Wn := 0) (own_alnum l hw O46 v18 (own_r16 hv18)) (w88 hw) (w4 hw) (by decide) (by decide))) Wk.cleanC (fun v h' q => Or.inl q.2) (w86 hw) (w87 hw) (w4 hw) (w88 hw) (by decide) (argsL := [(.int v18)]) (st := []) rfl rfl (lenOf pd16 rfl) rfl (Nat.le_of_eq rfl) (k' := 6) rfl (n' := 40) rfl (by decide) (by decide) rfl ?_
        intro r59 h60 Q60 O60
        obtain ⟨q62, e61⟩ := Q60
        obtain rfl := e61.symm
        rcases q62 with ⟨rfl, q62⟩ | ⟨rfl, q62⟩
        · -- alnum: True
          refine Ww.if_eq C at_75 (by decide) (pcT := 82) (by decide) (pc' := 78) rfl (fun q => absurd q (by decide)) (fun q63 => ?_)
          refine Ww.iconst (pc' := 79) C at_78 (v := (1 : Int32)) rfl rfl ?_
          refine Ww.goto C at_79 (by decide) (pc' := 83) (by decide) ?_
          refine Ww.istore (pc' := 85) C at_83 (Ls' := #[.val (.int p0), .val (.int p1), .val (.int p2), .val (.int (3 : Int32)), .val (.int v14), .val (.int v16), .val (.int v18), .val (.int v20), .val (.ref x47), .val (.int (1 : Int32))]) rfl rfl ?_
          refine Ww.aload (pc' := 87) C at_85 rfl rfl rfl ?_
          refine Ww.callS (pc' := 90) C at_87 (fun vm0 C => (Wk.Con.pays C (Wn := 0) (own_tag3 l hw O46 hs us x47 v14 v16 v18 S46) (w31 hw) (w30 hw) (by decide) (by decide))) Wk.cleanC (fun v h' q => Or.inl q.2) (w28 hw) (w29 hw) (w30 hw) (w31 hw) (by decide) (argsL := [(.ref x47)]) (st := []) rfl rfl (lenOf pd22 rfl) rfl (Nat.le_of_eq rfl) (k' := 6) rfl (n' := 40) rfl (by decide) (by decide) rfl ?_
          intro r64 h65 Q65 O65
          obtain ⟨q67, e66⟩ := Q65
          obtain rfl := e66.symm
          rcases q67 with ⟨rfl, q67⟩ | ⟨rfl, q67⟩
          · -- isTag: 1
            refine Ww.iload (pc' := 92) C at_90 rfl rfl ?_
            refine Ww.icmp_ne C at_92 (by decide) (pcT := 99) (by decide) (pc' := 95) rfl (fun q => absurd q (by decide)) (fun q68 => ?_)
            refine Ww.iconst (pc' := 96) C at_95 (v := (1 : Int32)) rfl rfl ?_
            refine Ww.goto C at_96 (by decide) (pc' := 100) (by decide) ?_
            exact Ww.retNar (ty := .boolean) C hE (by simp) at_100 rfl (by decide) (by decide) rfl
          · -- isTag: 0
            exact absurd ⟨q52, q57, q62⟩ q67
        · -- alnum: False
          refine Ww.if_eq C at_75 (by decide) (pcT := 82) (by decide) (pc' := 78) rfl (fun q69 => ?_) (fun q => absurd q (by decide))
          refine Ww.iconst (pc' := 83) C at_82 (v := (0 : Int32)) rfl rfl ?_
          refine Ww.istore (pc' := 85) C at_83 (Ls' := #[.val (.int p0), .val (.int p1), .val (.int p2), .val (.int (3 : Int32)), .val (.int v14), .val (.int v16), .val (.int v18), .val (.int v20), .val (.ref x47), .val (.int (0 : Int32))]) rfl rfl ?_
          refine Ww.aload (pc' := 87) C at_85 rfl rfl rfl ?_
          refine Ww.callS (pc' := 90) C at_87 (fun vm0 C => (Wk.Con.pays C (Wn := 0) (own_tag3 l hw O46 hs us x47 v14 v16 v18 S46) (w31 hw) (w30 hw) (by decide) (by decide))) Wk.cleanC (fun v h' q => Or.inl q.2) (w28 hw) (w29 hw) (w30 hw) (w31 hw) (by decide) (argsL := [(.ref x47)]) (st := []) rfl rfl (lenOf pd22 rfl) rfl (Nat.le_of_eq rfl) (k' := 6) rfl (n' := 40) rfl (by decide) (by decide) rfl ?_
          intro r70 h71 Q71 O71
          obtain ⟨q73, e72⟩ := Q71
          obtain rfl := e72.symm
          rcases q73 with ⟨rfl, q73⟩ | ⟨rfl, q73⟩
          · -- isTag: 1
            exact absurd q73.2.2 q62
          · -- isTag: 0
            refine Ww.iload (pc' := 92) C at_90 rfl rfl ?_
            refine Ww.icmp_ne C at_92 (by decide) (pcT := 99) (by decide) (pc' := 95) rfl (fun q => absurd q (by decide)) (fun q74 => ?_)
            refine Ww.iconst (pc' := 96) C at_95 (v := (1 : Int32)) rfl rfl ?_
            refine Ww.goto C at_96 (by decide) (pc' := 100) (by decide) ?_
            exact Ww.retNar (ty := .boolean) C hE (by simp) at_100 rfl (by decide) (by decide) rfl
      · -- alnum: False
        refine Ww.if_eq C at_67 (by decide) (pcT := 82) (by decide) (pc' := 70) rfl (fun q75 => ?_) (fun q => absurd q (by decide))
        refine Ww.iconst (pc' := 83) C at_82 (v := (0 : Int32)) rfl rfl ?_
        refine Ww.istore (pc' := 85) C at_83 (Ls' := #[.val (.int p0), .val (.int p1), .val (.int p2), .val (.int (3 : Int32)), .val (.int v14), .val (.int v16), .val (.int v18), .val (.int v20), .val (.ref x47), .val (.int (0 : Int32))]) rfl rfl ?_
        refine Ww.aload (pc' := 87) C at_85 rfl rfl rfl ?_
        refine Ww.callS (pc' := 90) C at_87 (fun vm0 C => (Wk.Con.pays C (Wn := 0) (own_tag3 l hw O46 hs us x47 v14 v16 v18 S46) (w31 hw) (w30 hw) (by decide) (by decide))) Wk.cleanC (fun v h' q => Or.inl q.2) (w28 hw) (w29 hw) (w30 hw) (w31 hw) (by decide) (argsL := [(.ref x47)]) (st := []) rfl rfl (lenOf pd22 rfl) rfl (Nat.le_of_eq rfl) (k' := 6) rfl (n' := 40) rfl (by decide) (by decide) rfl ?_
        intro r76 h77 Q77 O77
        obtain ⟨q79, e78⟩ := Q77
        obtain rfl := e78.symm
        rcases q79 with ⟨rfl, q79⟩ | ⟨rfl, q79⟩
        · -- isTag: 1
          exact absurd q79.2.1 q57
        · -- isTag: 0
          refine Ww.iload (pc' := 92) C at_90 rfl rfl ?_
          refine Ww.icmp_ne C at_92 (by decide) (pcT := 99) (by decide) (pc' := 95) rfl (fun q => absurd q (by decide)) (fun q80 => ?_)
          refine Ww.iconst (pc' := 96) C at_95 (v := (1 : Int32)) rfl rfl ?_
          refine Ww.goto C at_96 (by decide) (pc' := 100) (by decide) ?_
          exact Ww.retNar (ty := .boolean) C hE (by simp) at_100 rfl (by decide) (by decide) rfl
    · -- alnum: False
      refine Ww.if_eq C at_59 (by decide) (pcT := 82) (by decide) (pc' := 62) rfl (fun q81 => ?_) (fun q => absurd q (by decide))
      refine Ww.iconst (pc' := 83) C at_82 (v := (0 : Int32)) rfl rfl ?_
      refine Ww.istore (pc' := 85) C at_83 (Ls' := #[.val (.int p0), .val (.int p1), .val (.int p2), .val (.int (3 : Int32)), .val (.int v14), .val (.int v16), .val (.int v18), .val (.int v20), .val (.ref x47), .val (.int (0 : Int32))]) rfl rfl ?_
      refine Ww.aload (pc' := 87) C at_85 rfl rfl rfl ?_
      refine Ww.callS (pc' := 90) C at_87 (fun vm0 C => (Wk.Con.pays C (Wn := 0) (own_tag3 l hw O46 hs us x47 v14 v16 v18 S46) (w31 hw) (w30 hw) (by decide) (by decide))) Wk.cleanC (fun v h' q => Or.inl q.2) (w28 hw) (w29 hw) (w30 hw) (w31 hw) (by decide) (argsL := [(.ref x47)]) (st := []) rfl rfl (lenOf pd22 rfl) rfl (Nat.le_of_eq rfl) (k' := 6) rfl (n' := 40) rfl (by decide) (by decide) rfl ?_
      intro r82 h83 Q83 O83
      obtain ⟨q85, e84⟩ := Q83
      obtain rfl := e84.symm
      rcases q85 with ⟨rfl, q85⟩ | ⟨rfl, q85⟩
      · -- isTag: 1
        exact absurd q85.1 q52
      · -- isTag: 0
        refine Ww.iload (pc' := 92) C at_90 rfl rfl ?_
        refine Ww.icmp_ne C at_92 (by decide) (pcT := 99) (by decide) (pc' := 95) rfl (fun q => absurd q (by decide)) (fun q86 => ?_)
        refine Ww.iconst (pc' := 96) C at_95 (v := (1 : Int32)) rfl rfl ?_
        refine Ww.goto C at_96 (by decide) (pc' := 100) (by decide) ?_
        exact Ww.retNar (ty := .boolean) C hE (by simp) at_100 rfl (by decide) (by decide) rfl
  · -- the length is 4
    subst hl5
    refine Ww.iloadN (pc' := 36) C at_35 rfl rfl ?_
    refine Ww.iload (pc' := 38) C at_36 rfl rfl ?_
    refine Ww.iload (pc' := 40) C at_38 rfl rfl ?_
    refine Ww.iload (pc' := 42) C at_40 rfl rfl ?_
    refine Ww.iload (pc' := 44) C at_42 rfl rfl ?_
    refine Ww.callS (pc' := 47) C at_44 (fun vm0 C => (Wk.Con.pays C (Wn := 0) (own_mk4 l hw O0 hs us v14 v16 v18 v20 (own_r16 hv14) (own_r16 hv16) (own_r16 hv18) (own_r16 hv20)) (w5 hw) (w4 hw) (by decide) (by decide))) Wk.cleanC (fun v h' q => by obtain ⟨_, -, E, -⟩ := q; exact Or.inr (Or.inl E)) (w2 hw) (w3 hw) (w4 hw) (w5 hw) (by decide) (argsL := [(.int (4 : Int32)), (.int v14), (.int v16), (.int v18), (.int v20)]) (st := []) rfl rfl (lenOf pd21 rfl) rfl (Nat.le_of_eq rfl) (k' := 6) rfl (n' := 40) rfl (by decide) (by decide) rfl ?_
    intro r87 h88 Q88 O88
    obtain ⟨x89, rfl, E88, S88⟩ := Q88
    refine Ww.astore (pc' := 49) C at_47 rfl (Ls' := #[.val (.int p0), .val (.int p1), .val (.int p2), .val (.int (4 : Int32)), .val (.int v14), .val (.int v16), .val (.int v18), .val (.int v20), .val (.ref x89), .unset]) rfl rfl ?_
    refine Ww.iloadN (pc' := 50) C at_49 rfl rfl ?_
    refine Ww.iconst (pc' := 51) C at_50 (v := (3 : Int32)) rfl rfl ?_
    refine Ww.icmp_ne C at_51 (by decide) (pcT := 82) (by decide) (pc' := 54) rfl (fun q90 => ?_) (fun q => absurd q (by decide))
    refine Ww.iconst (pc' := 83) C at_82 (v := (0 : Int32)) rfl rfl ?_
    refine Ww.istore (pc' := 85) C at_83 (Ls' := #[.val (.int p0), .val (.int p1), .val (.int p2), .val (.int (4 : Int32)), .val (.int v14), .val (.int v16), .val (.int v18), .val (.int v20), .val (.ref x89), .val (.int (0 : Int32))]) rfl rfl ?_
    refine Ww.aload (pc' := 87) C at_85 rfl rfl rfl ?_
    refine Ww.callS (pc' := 90) C at_87 (fun vm0 C => (Wk.Con.pays C (Wn := 0) (own_tagN l hw O88 hs x89 [v14, v16, v18, v20] S88 (show ¬ (4 : Nat) = 3 by decide)) (w31 hw) (w30 hw) (by decide) (by decide))) Wk.cleanC (fun v h' q => Or.inl q.2) (w28 hw) (w29 hw) (w30 hw) (w31 hw) (by decide) (argsL := [(.ref x89)]) (st := []) rfl rfl (lenOf pd22 rfl) rfl (Nat.le_of_eq rfl) (k' := 6) rfl (n' := 40) rfl (by decide) (by decide) rfl ?_
    intro r91 h92 Q92 O92
    obtain ⟨rfl, e93⟩ := Q92
    obtain rfl := e93.symm
    refine Ww.iload (pc' := 92) C at_90 rfl rfl ?_
    refine Ww.icmp_ne C at_92 (by decide) (pcT := 99) (by decide) (pc' := 95) rfl (fun q => absurd q (by decide)) (fun q94 => ?_)
    refine Ww.iconst (pc' := 96) C at_95 (v := (1 : Int32)) rfl rfl ?_
    refine Ww.goto C at_96 (by decide) (pc' := 100) (by decide) ?_
    exact Ww.retNar (ty := .boolean) C hE (by simp) at_100 rfl (by decide) (by decide) rfl
theorem Wk.staI {args : Array Value} {s : State} {C n d : String} {k : Int32} (h : (Jvm.Cond.eq (.static C n d) (.int k)).value args s none s [] = some true) (hi : (Cond.initializedFor C n d).before args s = true ∨ ((Cond.initialized C).before args s = true ∧ (Cond.laysStatic C n d).before args s = true)) : Sta s s.heap C n d (.int k) := by
  obtain ⟨x, y, e1, e2, -, kin⟩ := cmp_v (Or.inl h)
  cases (Term.int_eval k).symm.trans e2
  obtain ⟨z, rfl⟩ := kin
  cases gotT (Cond.eq_ints e1 e2) h
  exact Sta.start e1 hi
set_option maxRecDepth 65536 in
set_option maxHeartbeats 40000000 in
theorem comes_1 {Post : Tables → Env → Array Value → State → Outcome → State → Prop} (hpost : ∀ tb e args s v u, (limb_1_1.after args s (.returned v) u = true ∧ limb_1_2.after args s (.returned v) u = true ∧ True) → ReturnedEndW s (.returned v) u (Jvm.fieldLocs frame_1_writes args s ++ Jvm.arrayLocs frame_1_arrays args s ++ Jvm.staticLocs frame_1_statics s) 24 1152 → Post tb e args s (.returned v) u) :
    ArmFor flags0 classFile x code maxLocals ret World_1 tables_1 room_1 Calls_1 rest_1 Pre_1 Post := by
  intro l hfl _ _ p e ha hc hk s m args below hf hA hF happ hP
  obtain ⟨hcalls, hrest, hpre⟩ := hP
  obtain ⟨-, -, -, hnamed, -, -, -, hat⟩ := (Spec.applies_iff hf).mp happ
  obtain ⟨hg, hn⟩ := and_e (Cond.before_iff.mp (show (Jvm.Cond.and given_1 narrow_1).before args s = true from hpre))
  obtain ⟨gc0, gr0⟩ := and_e hg
  obtain ⟨gc1, gr1⟩ := and_e gr0
  obtain ⟨gc2, gr2⟩ := and_e gr1
  obtain ⟨w0, w1, w2, rfl⟩ : ∃ w0 w1 w2 : Value, args = #[w0, w1, w2] := by
    have hs : args.size = 3 := by simpa [Cond.value, given_1] using gc0
    obtain ⟨L⟩ := args
    match L, hs with
    | [w0, w1, w2], _ => exact ⟨w0, w1, w2, rfl⟩
  have hw : Ws _ s := fun d (hd : d ∈ tables_1) => atoms_spec (ws := Jvm.Cond.code x code maxLocals ret :: tables_1) hat d (List.mem_cons_of_mem _ hd)
  have hfit : Fit s := fun {y c} hc i hi => by
    obtain ⟨ha, rfl⟩ := Array.getElem?_eq_some_iff.mp hc
    have q := List.all_eq_true.mp ((Array.all_eq_true_iff_forall_mem.mp hF) _ (Array.getElem_mem ha)) i (List.mem_range.mpr hi)
    simpa [Array.getElem?_eq_getElem hi] using q
  obtain ⟨i0, ei0⟩ := is_v gc1
  obtain rfl : w0 = (.int i0) := Option.some.inj ei0
  obtain ⟨i1, ei1⟩ := is_v gc2
  obtain rfl : w1 = (.int i1) := Option.some.inj ei1
  obtain ⟨i2, ei2⟩ := is_v gr2
  obtain rfl : w2 = (.int i2) := Option.some.inj ei2
  obtain ⟨hsets, hown0⟩ := atoms_of _ (rest_1_c_eq ▸ (show rest_1_c.before _ s = true from hrest))
  have hS : Sets s := by
    have n5 := not_v (Cond.before_iff.mp (hsets _ (List.mem_of_getElem? (i := 2) rfl)))
    obtain ⟨zc, ez⟩ := is_v (Cond.before_iff.mp (hsets _ (List.mem_of_getElem? (i := 1) rfl)))
    obtain ⟨fm, ef, rf⟩ := isR_v (Cond.before_iff.mp (hsets _ (List.mem_of_getElem? (i := 8) rfl)))
    exact ⟨zc, fm, Sta.start ez (Or.inl (hsets _ (List.mem_of_getElem? (i := 0) rfl))), gotF (Cond.eq_ints ez (Term.int_eval (0))) n5, Sta.start ef (Or.inl (hsets _ (List.mem_of_getElem? (i := 7) rfl))), rf⟩
  have hU : U16s s := ⟨Wk.staI (Cond.before_iff.mp (hsets _ (List.mem_of_getElem? (i := 12) rfl))) (Or.inl (hsets _ (List.mem_of_getElem? (i := 11) rfl))), Wk.staI (Cond.before_iff.mp (hsets _ (List.mem_of_getElem? (i := 15) rfl))) (Or.inl (hsets _ (List.mem_of_getElem? (i := 14) rfl))), Wk.staI (Cond.before_iff.mp (hsets _ (List.mem_of_getElem? (i := 18) rfl))) (Or.inl (hsets _ (List.mem_of_getElem? (i := 17) rfl)))⟩
  have hE := own_EW hw
  have hCH : CHv s EL s.vm s.heap := CHv.start hE hcalls.1 (hsets _ (List.mem_of_getElem? (i := 2) rfl)) (w21 hw) (w7 hw)
  obtain ⟨n, o, h1, h2, h3, _, L, rfl, ⟨rfl, -, N⟩, -, hq⟩ := own_law l hw hE i0 i1 i2 hS hU tables_1 p e ha hc hk s m _ below hf ((Spec.applies_iff_loose hf).mp happ).1 ⟨rfl, State.Warmed39.refl s, rfl, hCH⟩ trivial
  refine ⟨n, _, h1, h2, h3, hpost _ _ _ _ _ _ ⟨Cond.after_iff.mpr rfl, Cond.after_iff.mpr (eq_i res_at (Term.int_eval (1)) rfl), trivial⟩ ⟨hq.1, hq.2.1, hq.2.2.1, (hq.2.2.2.sift fun y hy => Or.inr (N y hy)).mono (by decide) (by decide)⟩⟩
theorem main_1_1 : Claimed_1_1 := comes_1 fun _ _ _ _ _ _ h hF => ⟨h.1, hF⟩
theorem main_1_2 : Claimed_1_2 := comes_1 fun _ _ _ _ _ _ h hF => ⟨h.2.1, hF⟩
end Jvm.Pilot.@@N@@
namespace Jvm.Pilot.@@N@@
open Jvm Jvm.ClassFile Sem Op Lib Jvm.Free Jvm.Stand Jvm.Pilot.@@N@@.Jvm.D
/-! MADE BY PROGRAM (witnessworld.py) out of the Statement's table words and the real class files: 20 classes; the members and pool entries that the words name. The judged class is class 1, her method 1. -/
namespace start1
open Jvm.ClassFile
def u (s : String) : CpInfo := .utf8 (stringToUtf16 s)
/-- a pool by its gaps: so many unusable entries, then the entry; so many at the end -/
def gap : Nat → List CpInfo → List CpInfo
  | 0, r => r
  | n + 1, r => .unusable :: gap n r
def poolList (es : List (Nat × CpInfo)) (last : Nat) : List CpInfo := es.foldr (fun e r => gap e.1 (e.2 :: r)) (gap last [])
def pool (es : List (Nat × CpInfo)) (last : Nat) : Array CpInfo := ⟨poolList es last⟩
def fileOf (pool : Array CpInfo) (this : Nat) (attrs : Array Attribute := #[]) (ms : Array MethodInfo := #[]) (fl : Nat := 33) (sup : Nat := 0) (ifs : Array Nat := #[]) (fds : Array FieldInfo := #[]) : ClassFile where
  minorVersion := 0
  majorVersion := 65
  constantPool := pool
  accessFlags := fl
  thisClass := this
  superClass := sup
  interfaces := ifs
  fields := fds
  methods := ms
  attributes := attrs
def plain (name : String) (sup : Option ClassId) : Class where
  name := name
  kind := .ordinary
  loader := none
  accessFlags := 33
  super := sup
  interfaces := #[]
  cf := none
  fields := #[]
  methods := #[]
  instanceTypes := #[]
  staticTypes := #[]
  resolved := #[]
  callSites := []
  init := .initialized
  statics := none
  mirror := none

def pool0 : Array CpInfo := pool [(5, u "<init>"), (0, u "()V"), (1, .class_ 10), (1, u "java/lang/Object")] 113

def k0c0 : Code := { maxStack := 0, maxLocals := 1, code := object_method_1_code, exceptionTable := #[], attributes := #[] }
def k0m0 : Method := { name := "<init>", desc := "()V", sig := { parameters := [], returnType := none }, accessFlags := 1, code := some k0c0 }
/-- java/lang/Object -/
def k0 : Class := { plain "java/lang/Object" none with
  accessFlags := 33
  interfaces := #[]
  cf := some (fileOf pool0 8 #[] #[{ accessFlags := 1, nameIndex := 5, descriptorIndex := 6, attributes := #[] }] 33 0 #[] #[])
  fields := #[]
  methods := #[k0m0]
  instanceTypes := #[]
  staticTypes := #[]
  resolved := Array.replicate 124 none
  statics := none }

def pool1 : Array CpInfo := pool [(2, .class_ 4), (1, u "java/lang/Object"), (0, u "<init>"), (0, u "()V"), (0, .integer 2147483647), (0, .integer 65535), (0, .methodref 10 11), (0, .class_ 12), (0, .nameAndType 13 14), (0, u "com/example/shelfmark/shelfmark/model/MarcRecordIsTagPinLaw"), (0, u "make"), (0, u "(ICCCC)Ljava/lang/String;"), (0, .methodref 10 16), (0, .nameAndType 17 18), (0, u "alnum"), (0, u "(C)Z"), (0, .methodref 20 21), (0, .class_ 22), (0, .nameAndType 23 24), (0, u "com/example/shelfmark/shelfmark/model/MarcRecord"), (0, u "isTag"), (0, u "(Ljava/lang/String;)Z"), (0, .class_ 26), (0, u "java/lang/String"), (0, .methodref 25 28), (0, .nameAndType 5 29), (0, u "([C)V"), (0, .methodref 25 31), (0, .nameAndType 32 33), (0, u "valueOf"), (0, u "(C)Ljava/lang/String;"), (2, u "law"), (0, u "(III)Z")] 3

def k1m0 : Method := { name := "<init>", desc := "()V", sig := { parameters := [], returnType := none }, accessFlags := 1, code := none }
def k1c1 : Code := { maxStack := 5, maxLocals := 10, code := code, exceptionTable := #[], attributes := #[] }
def k1m1 : Method := { name := "law", desc := "(III)Z", sig := { parameters := [.int, .int, .int], returnType := some .boolean }, accessFlags := 9, code := some k1c1 }
def k1c2 : Code := { maxStack := 6, maxLocals := 5, code := method_3_code, exceptionTable := #[], attributes := #[] }
def k1m2 : Method := { name := "make", desc := "(ICCCC)Ljava/lang/String;", sig := { parameters := [.int, .char, .char, .char, .char], returnType := some (.object "java/lang/String") }, accessFlags := 10, code := some k1c2 }
def k1c3 : Code := { maxStack := 2, maxLocals := 3, code := method_4_code, exceptionTable := #[], attributes := #[] }
def k1m3 : Method := { name := "alnum", desc := "(C)Z", sig := { parameters := [.char], returnType := some .boolean }, accessFlags := 10, code := some k1c3 }
/-- com/example/shelfmark/shelfmark/model/MarcRecordIsTagPinLaw -/
def k1 : Class := { plain "com/example/shelfmark/shelfmark/model/MarcRecordIsTagPinLaw" (some 0) with
  accessFlags := 49
  interfaces := #[]
  cf := some (fileOf pool1 10 #[] #[{ accessFlags := 1, nameIndex := 5, descriptorIndex := 6, attributes := #[] }, { accessFlags := 9, nameIndex := 36, descriptorIndex := 37, attributes := #[] }, { accessFlags := 10, nameIndex := 13, descriptorIndex := 14, attributes := #[] }, { accessFlags := 10, nameIndex := 17, descriptorIndex := 18, attributes := #[] }] 49 2 #[] #[])
  fields := #[]
  methods := #[k1m0, k1m1, k1m2, k1m3]
  instanceTypes := #[]
  staticTypes := #[]
  resolved := Array.replicate 41 none
  statics := none }

def pool2 : Array CpInfo := pool [(1, .class_ 2), (0, u "java/io/Serializable"), (0, .class_ 4), (0, u "java/lang/Object")] 2

/-- java/io/Serializable -/
def k2 : Class := { plain "java/io/Serializable" (some 0) with
  accessFlags := 1537
  interfaces := #[]
  cf := some (fileOf pool2 1 #[] #[] 1537 3 #[] #[])
  fields := #[]
  methods := #[]
  instanceTypes := #[]
  staticTypes := #[]
  resolved := Array.replicate 7 none
  statics := none }

def pool3 : Array CpInfo := pool [(1, .class_ 2), (0, u "java/lang/Comparable"), (0, .class_ 4), (0, u "java/lang/Object")] 7

/-- java/lang/Comparable -/
def k3 : Class := { plain "java/lang/Comparable" (some 0) with
  accessFlags := 1537
  interfaces := #[]
  cf := some (fileOf pool3 1 #[] #[] 1537 3 #[] #[])
  fields := #[]
  methods := #[]
  instanceTypes := #[]
  staticTypes := #[]
  resolved := Array.replicate 12 none
  statics := none }

def pool4 : Array CpInfo := pool [(2, .class_ 4), (1, u "java/lang/CharSequence"), (42, .class_ 48), (0, u "java/lang/CharSequence$1CodePointIterator"), (10, .class_ 60), (0, u "java/lang/CharSequence$1CharIterator"), (5, .class_ 67), (0, u "java/lang/Object")] 63

/-- java/lang/CharSequence -/
def k4 : Class := { plain "java/lang/CharSequence" (some 0) with
  accessFlags := 1537
  interfaces := #[]
  cf := some (fileOf pool4 2 #[.nestMembers #[47, 59]] #[] 1537 66 #[] #[])
  fields := #[]
  methods := #[]
  instanceTypes := #[]
  staticTypes := #[]
  resolved := Array.replicate 131 none
  statics := none }

def pool5 : Array CpInfo := pool [(1, .class_ 2), (0, u "java/lang/constant/Constable"), (0, .class_ 4), (0, u "java/lang/Object")] 6

/-- java/lang/constant/Constable -/
def k5 : Class := { plain "java/lang/constant/Constable" (some 0) with
  accessFlags := 1537
  interfaces := #[]
  cf := some (fileOf pool5 1 #[] #[] 1537 3 #[] #[])
  fields := #[]
  methods := #[]
  instanceTypes := #[]
  staticTypes := #[]
  resolved := Array.replicate 11 none
  statics := none }

def pool6 : Array CpInfo := pool [(1, .class_ 2), (0, u "java/lang/constant/ConstantDesc"), (0, .class_ 4), (0, u "java/lang/Object")] 32

/-- java/lang/constant/ConstantDesc -/
def k6 : Class := { plain "java/lang/constant/ConstantDesc" (some 0) with
  accessFlags := 1537
  interfaces := #[]
  cf := some (fileOf pool6 1 #[] #[] 1537 3 #[] #[])
  fields := #[]
  methods := #[]
  instanceTypes := #[]
  staticTypes := #[]
  resolved := Array.replicate 37 none
  statics := none }

def pool7 : Array CpInfo := pool [(1, .methodref 2 3), (0, .class_ 4), (0, .nameAndType 5 6), (0, u "java/lang/Object"), (0, u "<init>"), (0, u "()V"), (0, .string 8), (0, u ""), (0, .fieldref 10 11), (0, .class_ 12), (0, .nameAndType 13 14), (0, u "java/lang/String"), (0, u "value"), (0, u "[B"), (0, .fieldref 10 16), (0, .nameAndType 17 18), (0, u "coder"), (0, u "B"), (2, u "hash"), (0, u "I"), (2, u "hashIsZero"), (0, u "Z"), (0, .methodref 10 28), (0, .nameAndType 5 29), (0, u "([CIILjava/lang/Void;)V"), (8, .fieldref 10 39), (0, .nameAndType 40 26), (0, u "COMPACT_STRINGS"), (1, .class_ 44), (1, u "java/lang/StringUTF16"), (0, u "compress"), (1, .methodref 42 48), (0, .nameAndType 49 50), (0, u "coderFromArrayLen"), (0, u "([BI)B"), (2, u "toBytes"), (53, .class_ 109), (1, u "java/lang/StringLatin1"), (32, u "()Z"), (34, .methodref 42 178), (0, .nameAndType 45 179), (0, u "([CII)[B"), (29, .methodref 10 210), (0, .nameAndType 5 211), (0, u "([BB)V"), (122, u "()I"), (0, .methodref 10 336), (0, .nameAndType 17 337), (0, u "()B"), (25, u "([BI)C"), (5, u "(C)Z"), (21, u "(II)V"), (35, u "(I)C"), (64, .methodref 10 493), (0, .nameAndType 494 142), (0, u "isLatin1"), (0, .methodref 107 496), (0, .nameAndType 497 363), (0, u "charAt"), (0, .methodref 42 496), (2, u "checkIndex"), (5, u "length"), (67, .class_ 576), (0, u "java/lang/CharSequence"), (22, u "CASE_INSENSITIVE_ORDER"), (0, u "Ljava/util/Comparator;"), (181, u "valueOf"), (0, u "(C)Ljava/lang/String;"), (226, u "([C)V"), (4, .methodref 107 1016), (0, .nameAndType 1017 369), (0, u "canEncode"), (0, .methodref 107 1019), (0, .nameAndType 53 1020), (0, u "(C)[B"), (0, .methodref 42 1019), (31, .fieldref 1054 1055), (0, .class_ 1056), (0, .nameAndType 1057 1058), (0, u "jdk/internal/util/Preconditions"), (0, u "SIOOBE_FORMATTER"), (0, u "Ljava/util/function/BiFunction;"), (0, .methodref 1054 1060), (0, .nameAndType 501 1061), (0, u "(IILjava/util/function/BiFunction;)I"), (39, u "serialPersistentFields"), (0, u "[Ljava/io/ObjectStreamField;"), (0, .class_ 1104), (0, u "java/lang/String$CaseInsensitiveComparator"), (1, .class_ 1107), (0, u "java/io/Serializable"), (0, .class_ 1109), (0, u "java/lang/Comparable"), (0, .class_ 1111), (0, u "java/lang/constant/Constable"), (0, .class_ 1113), (0, u "java/lang/constant/ConstantDesc"), (2, u "serialVersionUID"), (0, u "J"), (3, u "REPL"), (0, u "C"), (2, u "LATIN1"), (1, u "UTF16")] 323

def k7m0 : Method := { name := "<init>", desc := "()V", sig := { parameters := [], returnType := none }, accessFlags := 1, code := none }
def k7c1 : Code := { maxStack := 5, maxLocals := 2, code := jdk_42_method_3_code, exceptionTable := #[], attributes := #[] }
def k7m1 : Method := { name := "<init>", desc := "([C)V", sig := { parameters := [(.array .char)], returnType := none }, accessFlags := 1, code := some k7c1 }
def k7c2 : Code := { maxStack := 2, maxLocals := 1, code := jdk_42_method_54_code, exceptionTable := #[], attributes := #[] }
def k7m2 : Method := { name := "length", desc := "()I", sig := { parameters := [], returnType := some .int }, accessFlags := 1, code := some k7c2 }
def k7c3 : Code := { maxStack := 2, maxLocals := 2, code := jdk_42_method_56_code, exceptionTable := #[], attributes := #[] }
def k7m3 : Method := { name := "charAt", desc := "(I)C", sig := { parameters := [.int], returnType := some .char }, accessFlags := 1, code := some k7c3 }
def k7c4 : Code := { maxStack := 4, maxLocals := 1, code := jdk_42_method_139_code, exceptionTable := #[], attributes := #[] }
def k7m4 : Method := { name := "valueOf", desc := "(C)Ljava/lang/String;", sig := { parameters := [.char], returnType := some (.object "java/lang/String") }, accessFlags := 9, code := some k7c4 }
def k7c5 : Code := { maxStack := 4, maxLocals := 6, code := jdk_42_method_149_code, exceptionTable := #[], attributes := #[] }
def k7m5 : Method := { name := "<init>", desc := "([CIILjava/lang/Void;)V", sig := { parameters := [(.array .char), .int, .int, (.object "java/lang/Void")], returnType := none }, accessFlags := 2, code := some k7c5 }
def k7c6 : Code := { maxStack := 2, maxLocals := 3, code := jdk_42_method_151_code, exceptionTable := #[], attributes := #[] }
def k7m6 : Method := { name := "<init>", desc := "([BB)V", sig := { parameters := [(.array .byte), .byte], returnType := none }, accessFlags := 0, code := some k7c6 }
def k7c7 : Code := { maxStack := 1, maxLocals := 1, code := jdk_42_method_152_code, exceptionTable := #[], attributes := #[] }
def k7m7 : Method := { name := "coder", desc := "()B", sig := { parameters := [], returnType := some .byte }, accessFlags := 0, code := some k7c7 }
def k7c8 : Code := { maxStack := 1, maxLocals := 1, code := jdk_42_method_154_code, exceptionTable := #[], attributes := #[] }
def k7m8 : Method := { name := "isLatin1", desc := "()Z", sig := { parameters := [], returnType := some .boolean }, accessFlags := 0, code := some k7c8 }
def k7c9 : Code := { maxStack := 3, maxLocals := 2, code := jdk_42_method_155_code, exceptionTable := #[], attributes := #[] }
def k7m9 : Method := { name := "checkIndex", desc := "(II)V", sig := { parameters := [.int, .int], returnType := none }, accessFlags := 8, code := some k7c9 }
/-- java/lang/String -/
def k7 : Class := { plain "java/lang/String" (some 0) with
  accessFlags := 49
  interfaces := #[2, 3, 4, 5, 6]
  cf := some (fileOf pool7 10 #[.nestMembers #[1103]] #[{ accessFlags := 1, nameIndex := 5, descriptorIndex := 6, attributes := #[] }, { accessFlags := 1, nameIndex := 5, descriptorIndex := 1010, attributes := #[] }, { accessFlags := 1, nameIndex := 507, descriptorIndex := 334, attributes := #[] }, { accessFlags := 1, nameIndex := 497, descriptorIndex := 427, attributes := #[] }, { accessFlags := 9, nameIndex := 782, descriptorIndex := 783, attributes := #[] }, { accessFlags := 2, nameIndex := 5, descriptorIndex := 29, attributes := #[] }, { accessFlags := 0, nameIndex := 5, descriptorIndex := 211, attributes := #[] }, { accessFlags := 0, nameIndex := 17, descriptorIndex := 337, attributes := #[] }, { accessFlags := 0, nameIndex := 494, descriptorIndex := 142, attributes := #[] }, { accessFlags := 8, nameIndex := 501, descriptorIndex := 391, attributes := #[] }] 49 2 #[1106, 1108, 575, 1110, 1112] #[{ accessFlags := 18, nameIndex := 13, descriptorIndex := 14, attributes := #[] }, { accessFlags := 18, nameIndex := 17, descriptorIndex := 18, attributes := #[] }, { accessFlags := 2, nameIndex := 21, descriptorIndex := 22, attributes := #[] }, { accessFlags := 2, nameIndex := 25, descriptorIndex := 26, attributes := #[] }, { accessFlags := 26, nameIndex := 1116, descriptorIndex := 1117, attributes := #[] }, { accessFlags := 24, nameIndex := 40, descriptorIndex := 26, attributes := #[] }, { accessFlags := 26, nameIndex := 1101, descriptorIndex := 1102, attributes := #[] }, { accessFlags := 26, nameIndex := 1121, descriptorIndex := 1122, attributes := #[] }, { accessFlags := 25, nameIndex := 599, descriptorIndex := 600, attributes := #[] }, { accessFlags := 24, nameIndex := 1125, descriptorIndex := 18, attributes := #[] }, { accessFlags := 24, nameIndex := 1127, descriptorIndex := 18, attributes := #[] }])
  fields := #[{ name := "value", type := (.array .byte), accessFlags := 18, slot := 0, constantValue := 0 }, { name := "coder", type := .byte, accessFlags := 18, slot := 1, constantValue := 0 }, { name := "hash", type := .int, accessFlags := 2, slot := 2, constantValue := 0 }, { name := "hashIsZero", type := .boolean, accessFlags := 2, slot := 3, constantValue := 0 }, { name := "serialVersionUID", type := .long, accessFlags := 26, slot := 0, constantValue := 0 }, { name := "COMPACT_STRINGS", type := .boolean, accessFlags := 24, slot := 1, constantValue := 0 }, { name := "serialPersistentFields", type := (.array (.object "java/io/ObjectStreamField")), accessFlags := 26, slot := 2, constantValue := 0 }, { name := "REPL", type := .char, accessFlags := 26, slot := 3, constantValue := 0 }, { name := "CASE_INSENSITIVE_ORDER", type := (.object "java/util/Comparator"), accessFlags := 25, slot := 4, constantValue := 0 }, { name := "LATIN1", type := .byte, accessFlags := 24, slot := 5, constantValue := 0 }, { name := "UTF16", type := .byte, accessFlags := 24, slot := 6, constantValue := 0 }]
  methods := #[k7m0, k7m1, k7m2, k7m3, k7m4, k7m5, k7m6, k7m7, k7m8, k7m9]
  instanceTypes := #[(.array .byte), .byte, .int, .boolean]
  staticTypes := #[.long, .boolean, (.array (.object "java/io/ObjectStreamField")), .char, (.object "java/util/Comparator"), .byte, .byte]
  resolved := Array.replicate 1451 none
  statics := some 0 }

def pool8 : Array CpInfo := pool [(2, .class_ 4), (1, u "java/lang/Object"), (3, .class_ 10), (1, u "com/example/shelfmark/shelfmark/model/MarcRecord"), (0, u "iso2709"), (0, u "[B"), (2, u "leader"), (0, u "Ljava/lang/String;"), (8, u "controlFields"), (0, u "Ljava/util/List;"), (2, u "dataFields"), (6, u "dataFieldsByDigit"), (6, u "identity"), (38, .class_ 84), (1, u "java/lang/String"), (16, .methodref 82 102), (0, .nameAndType 103 104), (0, u "length"), (0, u "()I"), (0, .methodref 82 106), (0, .nameAndType 107 108), (0, u "charAt"), (0, u "(I)C"), (5, u "(Ljava/lang/String;)Z"), (24, .class_ 140), (0, u "com/example/shelfmark/shelfmark/model/MarcRecord$DataField"), (25, .class_ 167), (0, u "com/example/shelfmark/shelfmark/model/MarcRecord$ControlField"), (0, u "IDENTITY_TAG"), (18, u "isTag"), (9, .class_ 198), (0, u "com/example/shelfmark/shelfmark/model/MarcRecord$Subfield")] 42

def k8c0 : Code := { maxStack := 2, maxLocals := 4, code := prog_36_method_9_code, exceptionTable := #[], attributes := #[] }
def k8m0 : Method := { name := "isTag", desc := "(Ljava/lang/String;)Z", sig := { parameters := [(.object "java/lang/String")], returnType := some .boolean }, accessFlags := 9, code := some k8c0 }
/-- com/example/shelfmark/shelfmark/model/MarcRecord -/
def k8 : Class := { plain "com/example/shelfmark/shelfmark/model/MarcRecord" (some 0) with
  accessFlags := 49
  interfaces := #[]
  cf := some (fileOf pool8 8 #[.nestMembers #[197, 139, 166]] #[{ accessFlags := 9, nameIndex := 187, descriptorIndex := 114, attributes := #[] }] 49 2 #[] #[{ accessFlags := 25, nameIndex := 168, descriptorIndex := 16, attributes := #[] }, { accessFlags := 18, nameIndex := 11, descriptorIndex := 12, attributes := #[] }, { accessFlags := 18, nameIndex := 15, descriptorIndex := 16, attributes := #[] }, { accessFlags := 18, nameIndex := 25, descriptorIndex := 26, attributes := #[] }, { accessFlags := 18, nameIndex := 29, descriptorIndex := 26, attributes := #[] }, { accessFlags := 18, nameIndex := 36, descriptorIndex := 26, attributes := #[] }, { accessFlags := 18, nameIndex := 43, descriptorIndex := 16, attributes := #[] }])
  fields := #[{ name := "IDENTITY_TAG", type := (.object "java/lang/String"), accessFlags := 25, slot := 0, constantValue := 0 }, { name := "iso2709", type := (.array .byte), accessFlags := 18, slot := 0, constantValue := 0 }, { name := "leader", type := (.object "java/lang/String"), accessFlags := 18, slot := 1, constantValue := 0 }, { name := "controlFields", type := (.object "java/util/List"), accessFlags := 18, slot := 2, constantValue := 0 }, { name := "dataFields", type := (.object "java/util/List"), accessFlags := 18, slot := 3, constantValue := 0 }, { name := "dataFieldsByDigit", type := (.object "java/util/List"), accessFlags := 18, slot := 4, constantValue := 0 }, { name := "identity", type := (.object "java/lang/String"), accessFlags := 18, slot := 5, constantValue := 0 }]
  methods := #[k8m0]
  instanceTypes := #[(.array .byte), (.object "java/lang/String"), (.object "java/util/List"), (.object "java/util/List"), (.object "java/util/List"), (.object "java/lang/String")]
  staticTypes := #[(.object "java/lang/String")]
  resolved := Array.replicate 241 none
  statics := none }

def pool9 : Array CpInfo := pool [(1, .class_ 2), (0, u "java/lang/String"), (1, .class_ 6), (1, u "java/lang/Object"), (0, u "<init>"), (0, u "()V"), (0, .methodref 1 10), (0, .nameAndType 11 12), (0, u "checkIndex"), (0, u "(II)V"), (1, .class_ 16), (1, u "java/lang/StringLatin1"), (36, u "([BI)C"), (36, u "canEncode"), (14, u "(C)Z"), (15, u "$assertionsDisabled"), (0, u "Z"), (98, .class_ 223), (1, u "java/lang/StringLatin1$LinesSpliterator"), (28, u "charAt"), (127, u "toBytes"), (1, u "(C)[B"), (7, .class_ 391), (0, u "java/lang/StringLatin1$CharsSpliterator")] 3

def k9m0 : Method := { name := "<init>", desc := "()V", sig := { parameters := [], returnType := none }, accessFlags := 0, code := none }
def k9c1 : Code := { maxStack := 2, maxLocals := 2, code := jdk_43_method_2_code, exceptionTable := #[], attributes := #[] }
def k9m1 : Method := { name := "charAt", desc := "([BI)C", sig := { parameters := [(.array .byte), .int], returnType := some .char }, accessFlags := 9, code := some k9c1 }
def k9c2 : Code := { maxStack := 2, maxLocals := 1, code := jdk_43_method_3_code, exceptionTable := #[], attributes := #[] }
def k9m2 : Method := { name := "canEncode", desc := "(C)Z", sig := { parameters := [.char], returnType := some .boolean }, accessFlags := 9, code := some k9c2 }
def k9c3 : Code := { maxStack := 4, maxLocals := 1, code := jdk_43_method_46_code, exceptionTable := #[], attributes := #[] }
def k9m3 : Method := { name := "toBytes", desc := "(C)[B", sig := { parameters := [.char], returnType := some (.array .byte) }, accessFlags := 9, code := some k9c3 }
/-- java/lang/StringLatin1 -/
def k9 : Class := { plain "java/lang/StringLatin1" (some 0) with
  accessFlags := 48
  interfaces := #[]
  cf := some (fileOf pool9 14 #[.nestMembers #[390, 221]] #[{ accessFlags := 0, nameIndex := 7, descriptorIndex := 8, attributes := #[] }, { accessFlags := 9, nameIndex := 252, descriptorIndex := 53, attributes := #[] }, { accessFlags := 9, nameIndex := 90, descriptorIndex := 105, attributes := #[] }, { accessFlags := 9, nameIndex := 380, descriptorIndex := 382, attributes := #[] }] 48 4 #[] #[{ accessFlags := 4120, nameIndex := 121, descriptorIndex := 122, attributes := #[] }])
  fields := #[{ name := "$assertionsDisabled", type := .boolean, accessFlags := 4120, slot := 0, constantValue := 0 }]
  methods := #[k9m0, k9m1, k9m2, k9m3]
  instanceTypes := #[]
  staticTypes := #[.boolean]
  resolved := Array.replicate 395 none
  statics := none }

def pool10 : Array CpInfo := pool [(3, .class_ 4), (0, u "java/lang/String"), (1, .class_ 8), (1, u "java/lang/Object"), (0, u "<init>"), (0, u "()V"), (0, .methodref 12 13), (0, .class_ 14), (0, .nameAndType 15 16), (0, u "java/lang/StringUTF16"), (0, u "newBytesLength"), (0, u "(I)I"), (3, .integer 1073741823), (23, .fieldref 12 45), (0, .nameAndType 46 47), (0, u "$assertionsDisabled"), (0, u "Z"), (0, .methodref 12 49), (0, .nameAndType 50 51), (0, u "length"), (0, u "([B)I"), (7, .fieldref 12 60), (0, .nameAndType 61 62), (0, u "HI_BYTE_SHIFT"), (0, u "I"), (0, .fieldref 12 64), (0, .nameAndType 65 62), (0, u "LO_BYTE_SHIFT"), (1, .methodref 12 68), (0, .nameAndType 69 70), (0, u "checkIndex"), (0, u "(I[B)V"), (0, .methodref 12 72), (0, .nameAndType 73 74), (0, u "getChar"), (0, u "([BI)C"), (32, .methodref 12 108), (0, .nameAndType 109 110), (0, u "newBytesFor"), (0, u "(I)[B"), (0, .methodref 12 112), (0, .nameAndType 113 114), (0, u "putChar"), (0, u "([BII)V"), (0, .methodref 12 116), (0, .nameAndType 117 118), (0, u "compress"), (0, u "([CI[BII)I"), (0, .methodref 12 120), (0, .nameAndType 121 122), (0, u "toBytes"), (0, u "([CII)[B"), (138, u "coderFromArrayLen"), (0, u "([BI)B"), (106, .class_ 371), (1, u "java/lang/StringUTF16$LinesSpliterator"), (20, u "charAt"), (21, .methodref 3 415), (0, .nameAndType 69 416), (0, u "(II)V"), (13, u "MAX_LENGTH"), (44, u "(C)[B"), (151, .class_ 628), (0, u "java/lang/StringUTF16$CodePointsSpliterator"), (0, .class_ 630), (0, u "java/lang/StringUTF16$CharsSpliterator")] 4

def k10m0 : Method := { name := "<init>", desc := "()V", sig := { parameters := [], returnType := none }, accessFlags := 0, code := none }
def k10c1 : Code := { maxStack := 1, maxLocals := 1, code := jdk_52_method_2_code, exceptionTable := #[], attributes := #[] }
def k10m1 : Method := { name := "newBytesFor", desc := "(I)[B", sig := { parameters := [.int], returnType := some (.array .byte) }, accessFlags := 9, code := some k10c1 }
def k10c2 : Code := { maxStack := 4, maxLocals := 1, code := jdk_52_method_3_code, exceptionTable := #[], attributes := #[] }
def k10m2 : Method := { name := "newBytesLength", desc := "(I)I", sig := { parameters := [.int], returnType := some .int }, accessFlags := 9, code := some k10c2 }
def k10c3 : Code := { maxStack := 4, maxLocals := 3, code := jdk_52_method_4_code, exceptionTable := #[], attributes := #[] }
def k10m3 : Method := { name := "putChar", desc := "([BII)V", sig := { parameters := [(.array .byte), .int, .int], returnType := none }, accessFlags := 8, code := some k10c3 }
def k10c4 : Code := { maxStack := 3, maxLocals := 2, code := jdk_52_method_5_code, exceptionTable := #[], attributes := #[] }
def k10m4 : Method := { name := "getChar", desc := "([BI)C", sig := { parameters := [(.array .byte), .int], returnType := some .char }, accessFlags := 8, code := some k10c4 }
def k10c5 : Code := { maxStack := 2, maxLocals := 1, code := jdk_52_method_6_code, exceptionTable := #[], attributes := #[] }
def k10m5 : Method := { name := "length", desc := "([B)I", sig := { parameters := [(.array .byte)], returnType := some .int }, accessFlags := 9, code := some k10c5 }
def k10c6 : Code := { maxStack := 4, maxLocals := 5, code := jdk_52_method_14_code, exceptionTable := #[], attributes := #[] }
def k10m6 : Method := { name := "toBytes", desc := "([CII)[B", sig := { parameters := [(.array .char), .int, .int], returnType := some (.array .byte) }, accessFlags := 9, code := some k10c6 }
def k10c7 : Code := { maxStack := 2, maxLocals := 2, code := jdk_52_method_15_code, exceptionTable := #[], attributes := #[] }
def k10m7 : Method := { name := "coderFromArrayLen", desc := "([BI)B", sig := { parameters := [(.array .byte), .int], returnType := some .byte }, accessFlags := 8, code := some k10c7 }
def k10c8 : Code := { maxStack := 5, maxLocals := 6, code := jdk_52_method_16_code, exceptionTable := #[], attributes := #[] }
def k10m8 : Method := { name := "compress", desc := "([CII)[B", sig := { parameters := [(.array .char), .int, .int], returnType := some (.array .byte) }, accessFlags := 9, code := some k10c8 }
def k10c9 : Code := { maxStack := 3, maxLocals := 7, code := jdk_52_method_21_code, exceptionTable := #[], attributes := #[] }
def k10m9 : Method := { name := "compress", desc := "([CI[BII)I", sig := { parameters := [(.array .char), .int, (.array .byte), .int, .int], returnType := some .int }, accessFlags := 9, code := some k10c9 }
def k10c10 : Code := { maxStack := 3, maxLocals := 2, code := jdk_52_method_24_code, exceptionTable := #[], attributes := #[] }
def k10m10 : Method := { name := "toBytes", desc := "(C)[B", sig := { parameters := [.char], returnType := some (.array .byte) }, accessFlags := 9, code := some k10c10 }
def k10c11 : Code := { maxStack := 2, maxLocals := 2, code := jdk_52_method_83_code, exceptionTable := #[], attributes := #[] }
def k10m11 : Method := { name := "charAt", desc := "([BI)C", sig := { parameters := [(.array .byte), .int], returnType := some .char }, accessFlags := 9, code := some k10c11 }
def k10c12 : Code := { maxStack := 2, maxLocals := 2, code := jdk_52_method_91_code, exceptionTable := #[], attributes := #[] }
def k10m12 : Method := { name := "checkIndex", desc := "(I[B)V", sig := { parameters := [.int, (.array .byte)], returnType := none }, accessFlags := 9, code := some k10c12 }
/-- java/lang/StringUTF16 -/
def k10 : Class := { plain "java/lang/StringUTF16" (some 0) with
  accessFlags := 48
  interfaces := #[]
  cf := some (fileOf pool10 12 #[.nestMembers #[627, 629, 369]] #[{ accessFlags := 0, nameIndex := 9, descriptorIndex := 10, attributes := #[] }, { accessFlags := 9, nameIndex := 109, descriptorIndex := 110, attributes := #[] }, { accessFlags := 9, nameIndex := 15, descriptorIndex := 16, attributes := #[] }, { accessFlags := 8, nameIndex := 113, descriptorIndex := 114, attributes := #[] }, { accessFlags := 8, nameIndex := 73, descriptorIndex := 74, attributes := #[] }, { accessFlags := 9, nameIndex := 50, descriptorIndex := 51, attributes := #[] }, { accessFlags := 9, nameIndex := 121, descriptorIndex := 122, attributes := #[] }, { accessFlags := 8, nameIndex := 261, descriptorIndex := 262, attributes := #[] }, { accessFlags := 9, nameIndex := 117, descriptorIndex := 122, attributes := #[] }, { accessFlags := 9, nameIndex := 117, descriptorIndex := 118, attributes := #[] }, { accessFlags := 9, nameIndex := 121, descriptorIndex := 475, attributes := #[] }, { accessFlags := 9, nameIndex := 392, descriptorIndex := 74, attributes := #[] }, { accessFlags := 9, nameIndex := 69, descriptorIndex := 70, attributes := #[] }] 48 6 #[] #[{ accessFlags := 26, nameIndex := 61, descriptorIndex := 62, attributes := #[] }, { accessFlags := 26, nameIndex := 65, descriptorIndex := 62, attributes := #[] }, { accessFlags := 24, nameIndex := 430, descriptorIndex := 62, attributes := #[] }, { accessFlags := 4120, nameIndex := 46, descriptorIndex := 47, attributes := #[] }])
  fields := #[{ name := "HI_BYTE_SHIFT", type := .int, accessFlags := 26, slot := 0, constantValue := 0 }, { name := "LO_BYTE_SHIFT", type := .int, accessFlags := 26, slot := 1, constantValue := 0 }, { name := "MAX_LENGTH", type := .int, accessFlags := 24, slot := 2, constantValue := 0 }, { name := "$assertionsDisabled", type := .boolean, accessFlags := 4120, slot := 3, constantValue := 0 }]
  methods := #[k10m0, k10m1, k10m2, k10m3, k10m4, k10m5, k10m6, k10m7, k10m8, k10m9, k10m10, k10m11, k10m12]
  instanceTypes := #[]
  staticTypes := #[.int, .int, .int, .boolean]
  resolved := Array.replicate 635 none
  statics := some 1 }

def pool11 : Array CpInfo := pool [(2, .class_ 4), (1, u "java/lang/Object"), (0, u "<init>"), (0, u "()V"), (17, .class_ 26), (1, u "jdk/internal/util/Preconditions"), (6, u "checkIndex"), (21, .class_ 56), (0, u "jdk/internal/util/Preconditions$4"), (57, .class_ 115), (0, u "jdk/internal/util/Preconditions$1"), (7, u "SIOOBE_FORMATTER"), (0, u "Ljava/util/function/BiFunction;"), (0, .class_ 126), (0, u "jdk/internal/util/Preconditions$2"), (3, u "AIOOBE_FORMATTER"), (0, .class_ 132), (0, u "jdk/internal/util/Preconditions$3"), (3, u "IOOBE_FORMATTER"), (41, u "(IILjava/util/function/BiFunction;)I")] 15

def k11m0 : Method := { name := "<init>", desc := "()V", sig := { parameters := [], returnType := none }, accessFlags := 1, code := none }
def k11c1 : Code := { maxStack := 3, maxLocals := 3, code := jdk_41_method_11_code, exceptionTable := #[], attributes := #[] }
def k11m1 : Method := { name := "checkIndex", desc := "(IILjava/util/function/BiFunction;)I", sig := { parameters := [.int, .int, (.object "java/util/function/BiFunction")], returnType := some .int }, accessFlags := 9, code := some k11c1 }
/-- jdk/internal/util/Preconditions -/
def k11 : Class := { plain "jdk/internal/util/Preconditions" (some 0) with
  accessFlags := 33
  interfaces := #[]
  cf := some (fileOf pool11 24 #[.nestMembers #[55, 131, 125, 114]] #[{ accessFlags := 1, nameIndex := 5, descriptorIndex := 6, attributes := #[] }, { accessFlags := 9, nameIndex := 33, descriptorIndex := 178, attributes := #[] }] 33 2 #[] #[{ accessFlags := 25, nameIndex := 123, descriptorIndex := 124, attributes := #[] }, { accessFlags := 25, nameIndex := 130, descriptorIndex := 124, attributes := #[] }, { accessFlags := 25, nameIndex := 136, descriptorIndex := 124, attributes := #[] }])
  fields := #[{ name := "SIOOBE_FORMATTER", type := (.object "java/util/function/BiFunction"), accessFlags := 25, slot := 0, constantValue := 0 }, { name := "AIOOBE_FORMATTER", type := (.object "java/util/function/BiFunction"), accessFlags := 25, slot := 1, constantValue := 0 }, { name := "IOOBE_FORMATTER", type := (.object "java/util/function/BiFunction"), accessFlags := 25, slot := 2, constantValue := 0 }]
  methods := #[k11m0, k11m1]
  instanceTypes := #[]
  staticTypes := #[(.object "java/util/function/BiFunction"), (.object "java/util/function/BiFunction"), (.object "java/util/function/BiFunction")]
  resolved := Array.replicate 194 none
  statics := some 2 }

def pool12 : Array CpInfo := pool [(9, u "<init>"), (6, .class_ 18), (1, u "java/lang/Object"), (0, u "()V"), (1, .class_ 23), (1, u "jdk/internal/util/ArraysSupport"), (0, u "LOG2_ARRAY_LONG_INDEX_SCALE"), (0, u "I"), (2, u "U"), (0, u "Ljdk/internal/misc/Unsafe;"), (8, u "BIG_ENDIAN"), (0, u "Z"), (8, u "LOG2_BYTE_BIT_SIZE"), (4, u "LOG2_ARRAY_INT_INDEX_SCALE"), (54, u "JLA"), (0, u "Ljdk/internal/access/JavaLangAccess;"), (11, u "LOG2_ARRAY_BOOLEAN_INDEX_SCALE"), (9, u "LOG2_ARRAY_BYTE_INDEX_SCALE"), (5, u "LOG2_ARRAY_CHAR_INDEX_SCALE"), (5, u "LOG2_ARRAY_SHORT_INDEX_SCALE"), (18, u "LOG2_ARRAY_FLOAT_INDEX_SCALE"), (24, u "LOG2_ARRAY_DOUBLE_INDEX_SCALE"), (89, u "T_BOOLEAN"), (2, u "T_CHAR"), (1, u "T_FLOAT"), (1, u "T_DOUBLE"), (1, u "T_BYTE"), (1, u "T_SHORT"), (1, u "T_INT"), (1, u "T_LONG"), (1, u "SOFT_MAX_ARRAY_LENGTH")] 83

def k12m0 : Method := { name := "<init>", desc := "()V", sig := { parameters := [], returnType := none }, accessFlags := 2, code := none }
/-- jdk/internal/util/ArraysSupport -/
def k12 : Class := { plain "jdk/internal/util/ArraysSupport" (some 0) with
  accessFlags := 33
  interfaces := #[]
  cf := some (fileOf pool12 21 #[] #[{ accessFlags := 2, nameIndex := 9, descriptorIndex := 19, attributes := #[] }] 33 16 #[] #[{ accessFlags := 24, nameIndex := 28, descriptorIndex := 29, attributes := #[] }, { accessFlags := 26, nameIndex := 38, descriptorIndex := 39, attributes := #[] }, { accessFlags := 25, nameIndex := 121, descriptorIndex := 25, attributes := #[] }, { accessFlags := 25, nameIndex := 131, descriptorIndex := 25, attributes := #[] }, { accessFlags := 25, nameIndex := 137, descriptorIndex := 25, attributes := #[] }, { accessFlags := 25, nameIndex := 143, descriptorIndex := 25, attributes := #[] }, { accessFlags := 25, nameIndex := 53, descriptorIndex := 25, attributes := #[] }, { accessFlags := 25, nameIndex := 24, descriptorIndex := 25, attributes := #[] }, { accessFlags := 25, nameIndex := 162, descriptorIndex := 25, attributes := #[] }, { accessFlags := 25, nameIndex := 187, descriptorIndex := 25, attributes := #[] }, { accessFlags := 26, nameIndex := 48, descriptorIndex := 25, attributes := #[] }, { accessFlags := 25, nameIndex := 277, descriptorIndex := 25, attributes := #[] }, { accessFlags := 25, nameIndex := 280, descriptorIndex := 25, attributes := #[] }, { accessFlags := 25, nameIndex := 282, descriptorIndex := 25, attributes := #[] }, { accessFlags := 25, nameIndex := 284, descriptorIndex := 25, attributes := #[] }, { accessFlags := 25, nameIndex := 286, descriptorIndex := 25, attributes := #[] }, { accessFlags := 25, nameIndex := 288, descriptorIndex := 25, attributes := #[] }, { accessFlags := 25, nameIndex := 290, descriptorIndex := 25, attributes := #[] }, { accessFlags := 25, nameIndex := 292, descriptorIndex := 25, attributes := #[] }, { accessFlags := 26, nameIndex := 108, descriptorIndex := 109, attributes := #[] }, { accessFlags := 25, nameIndex := 294, descriptorIndex := 25, attributes := #[] }])
  fields := #[{ name := "U", type := (.object "jdk/internal/misc/Unsafe"), accessFlags := 24, slot := 0, constantValue := 0 }, { name := "BIG_ENDIAN", type := .boolean, accessFlags := 26, slot := 1, constantValue := 0 }, { name := "LOG2_ARRAY_BOOLEAN_INDEX_SCALE", type := .int, accessFlags := 25, slot := 2, constantValue := 0 }, { name := "LOG2_ARRAY_BYTE_INDEX_SCALE", type := .int, accessFlags := 25, slot := 3, constantValue := 0 }, { name := "LOG2_ARRAY_CHAR_INDEX_SCALE", type := .int, accessFlags := 25, slot := 4, constantValue := 0 }, { name := "LOG2_ARRAY_SHORT_INDEX_SCALE", type := .int, accessFlags := 25, slot := 5, constantValue := 0 }, { name := "LOG2_ARRAY_INT_INDEX_SCALE", type := .int, accessFlags := 25, slot := 6, constantValue := 0 }, { name := "LOG2_ARRAY_LONG_INDEX_SCALE", type := .int, accessFlags := 25, slot := 7, constantValue := 0 }, { name := "LOG2_ARRAY_FLOAT_INDEX_SCALE", type := .int, accessFlags := 25, slot := 8, constantValue := 0 }, { name := "LOG2_ARRAY_DOUBLE_INDEX_SCALE", type := .int, accessFlags := 25, slot := 9, constantValue := 0 }, { name := "LOG2_BYTE_BIT_SIZE", type := .int, accessFlags := 26, slot := 10, constantValue := 0 }, { name := "T_BOOLEAN", type := .int, accessFlags := 25, slot := 11, constantValue := 0 }, { name := "T_CHAR", type := .int, accessFlags := 25, slot := 12, constantValue := 0 }, { name := "T_FLOAT", type := .int, accessFlags := 25, slot := 13, constantValue := 0 }, { name := "T_DOUBLE", type := .int, accessFlags := 25, slot := 14, constantValue := 0 }, { name := "T_BYTE", type := .int, accessFlags := 25, slot := 15, constantValue := 0 }, { name := "T_SHORT", type := .int, accessFlags := 25, slot := 16, constantValue := 0 }, { name := "T_INT", type := .int, accessFlags := 25, slot := 17, constantValue := 0 }, { name := "T_LONG", type := .int, accessFlags := 25, slot := 18, constantValue := 0 }, { name := "JLA", type := (.object "jdk/internal/access/JavaLangAccess"), accessFlags := 26, slot := 19, constantValue := 0 }, { name := "SOFT_MAX_ARRAY_LENGTH", type := .int, accessFlags := 25, slot := 20, constantValue := 0 }]
  methods := #[k12m0]
  instanceTypes := #[]
  staticTypes := #[(.object "jdk/internal/misc/Unsafe"), .boolean, .int, .int, .int, .int, .int, .int, .int, .int, .int, .int, .int, .int, .int, .int, .int, .int, .int, (.object "jdk/internal/access/JavaLangAccess"), .int]
  resolved := Array.replicate 378 none
  statics := none }

def pool13 : Array CpInfo := pool [(1, u "java/lang/Cloneable"), (0, .class_ 1), (0, u "java/lang/Object"), (0, .class_ 3)] 3

/-- java/lang/Cloneable -/
def k13 : Class := { plain "java/lang/Cloneable" (some 0) with
  accessFlags := 1537
  interfaces := #[]
  cf := some (fileOf pool13 2 #[] #[] 1537 4 #[] #[])
  fields := #[]
  methods := #[]
  instanceTypes := #[]
  staticTypes := #[]
  resolved := Array.replicate 8 none
  statics := none }

/-- the primitive byte -/
def k14 : Class := { plain "byte" none with kind := .primitive 'B', accessFlags := 0x411 }
/-- [B -/
def k15 : Class := { plain "[B" (some 0) with kind := .array 14 .byte, interfaces := #[13, 2], accessFlags := 1041 }

/-- the primitive char -/
def k16 : Class := { plain "char" none with kind := .primitive 'C', accessFlags := 0x411 }
/-- [C -/
def k17 : Class := { plain "[C" (some 0) with kind := .array 16 .char, interfaces := #[13, 2], accessFlags := 1041 }

/-- the primitive int -/
def k18 : Class := { plain "int" none with kind := .primitive 'I', accessFlags := 0x411 }
/-- [I -/
def k19 : Class := { plain "[I" (some 0) with kind := .array 18 .int, interfaces := #[13, 2], accessFlags := 1041 }

def heap : Heap := #[{ cls := 7, slots := #[.long 0, .int 1, .null, .int 0, .null, .int 0, .int 0], vm := .statics 7 },
  { cls := 10, slots := #[.int 0, .int 8, .int 0, .int 1], vm := .statics 10 },
  { cls := 11, slots := #[.null, .null, .null], vm := .statics 11 }]
def classes : Array Class := #[k0, k1, k2, k3, k4, k5, k6, k7, k8, k9, k10, k11, k12, k13, k14, k15, k16, k17, k18, k19]
def interned : List (Array UInt16 × Addr) := []
def slotsUsed : Nat := 14
def theMethod : MethodId := ⟨1, 1⟩
def args0 : Array Value := #[.int 3, .int 4259905, .int 300]
def aboutOver (below : List Frame) : State where
  vm := { classes := classes, interned := interned.toArray }
  heap := heap
  slotsUsed := slotsUsed
  threads := #[{ frames := .invoking theMethod args0 :: below }]
def below0 : List Frame := [.native { method := ⟨0, 0⟩, args := #[] }]
def about1 : State := aboutOver below0
def p0 : Program := .bare "" "" ""
def e0 : Env := launch0.env 0 0 0
theorem w_frames : about1.frames = Frame.invoking theMethod args0 :: below0 := rfl
set_option maxRecDepth 65536 in
theorem w_args : argsFit about1.vm theMethod args0 = true := by decide +kernel
set_option maxRecDepth 65536 in
theorem w_heap : heapFits about1 = true := by decide +kernel
set_option maxRecDepth 65536 in
theorem w_runnable : about1.curStatus? = some .runnable := by decide +kernel
set_option maxRecDepth 65536 in
theorem w_alone : about1.alone = true := by decide +kernel
set_option maxRecDepth 65536 in
theorem w_named : about1.methodNamed? x = some theMethod := by decide +kernel
set_option maxRecDepth 65536 in
theorem w_hears : about1.hears theMethod below0 = true := by decide +kernel
set_option maxRecDepth 65536 in
theorem w_ripe : about1.ripe theMethod args0 below0 = true := by decide +kernel
theorem w_running : about1.status = .running := rfl
set_option maxRecDepth 65536 in
theorem w_room : about1.hasRoom e0.platform room_1 = true :=
  launch0.hasRoom_least _ room_1 (by decide +kernel) (by decide +kernel) (by decide +kernel) (by decide +kernel) (by decide +kernel) (by decide +kernel)
theorem allAtoms_all (ts : List Jvm.Cond) (a : Array Jvm.Value) (st : Jvm.State) : (allAtoms ts).before a st = ts.all (fun c => c.before a st) := by
  induction ts with
  | nil => rfl
  | cons c t ih =>
    show (Jvm.Cond.and c (allAtoms t)).before a st = _
    rw [Jvm.Cond.before_and, ih, List.all_cons]
def words1 : List Jvm.Cond := Jvm.Cond.code x code maxLocals ret :: tables_1
/-- a 'code' word, met by the world's own term for the bytes: nothing is compared byte by byte -/
theorem code_word {y : MethodName} {bytes : ByteArray} {mx : Nat} {rt : Option FieldType} {a : Array Value} {s : State} {m : MethodId} {meth : Method} {c : Code} (h1 : s.methodNamed? y = some m) (h2 : s.vm.method? m = some meth) (h3 : meth.code = some c) (h4 : c.code = bytes)
    (h5 : (c.maxLocals == mx && c.exceptionTable.isEmpty && decide (c.maxStack ≤ mostOperands) && decide (meth.sig.returnType = rt) && !meth.locks && decide (parseMethodDescriptor y.desc = some meth.sig)) = true) : (Jvm.Cond.code y bytes mx rt).before a s = true := by
  simp only [Bool.and_eq_true, beq_iff_eq, Bool.not_eq_true', decide_eq_true_eq] at h5
  obtain ⟨⟨⟨⟨⟨g1, g2⟩, g3⟩, g4⟩, g5⟩, g6⟩ := h5
  simp [Cond.before, Cond.holds, Cond.value, h1, h2, h3, h4, g1, g2, g3, g4, g5, g6]
def isCode : Jvm.Cond → Bool
  | .code _ _ _ _ => true
  | _ => false
theorem all_split {L : List Jvm.Cond} {P : Jvm.Cond → Bool} (h1 : L.all (fun c => isCode c || P c) = true) (h2 : ∀ c ∈ L.filter isCode, P c = true) : L.all P = true := by
  refine List.all_eq_true.mpr fun c hc => ?_
  have h := List.all_eq_true.mp h1 c hc
  rcases Bool.eq_false_or_eq_true (isCode c) with hi | hi
  · exact h2 c (List.mem_filter.mpr ⟨hc, hi⟩)
  · simpa [hi] using h
set_option maxRecDepth 65536 in
theorem w_c0 : (Jvm.Cond.code x code maxLocals ret).before args0 about1 = true := code_word (m := ⟨1, 1⟩) (meth := k1m1) (c := k1c1) (by decide +kernel) rfl rfl rfl (by decide +kernel)
set_option maxRecDepth 65536 in
theorem w_c1 : (Jvm.Cond.code ({ cls := "com/example/shelfmark/shelfmark/model/MarcRecordIsTagPinLaw", name := "make", desc := "(ICCCC)Ljava/lang/String;" } : Jvm.MethodName) method_3_code (5 : Nat) (Option.some (Jvm.ClassFile.FieldType.object "java/lang/String"))).before args0 about1 = true := code_word (m := ⟨1, 2⟩) (meth := k1m2) (c := k1c2) (by decide +kernel) rfl rfl rfl (by decide +kernel)
set_option maxRecDepth 65536 in
theorem w_c2 : (Jvm.Cond.code ({ cls := "java/lang/String", name := "<init>", desc := "([C)V" } : Jvm.MethodName) jdk_42_method_3_code (2 : Nat) (Option.none : Option Jvm.ClassFile.FieldType)).before args0 about1 = true := code_word (m := ⟨7, 1⟩) (meth := k7m1) (c := k7c1) (by decide +kernel) rfl rfl rfl (by decide +kernel)
set_option maxRecDepth 65536 in
theorem w_c3 : (Jvm.Cond.code ({ cls := "java/lang/String", name := "<init>", desc := "([CIILjava/lang/Void;)V" } : Jvm.MethodName) jdk_42_method_149_code (6 : Nat) (Option.none : Option Jvm.ClassFile.FieldType)).before args0 about1 = true := code_word (m := ⟨7, 5⟩) (meth := k7m5) (c := k7c5) (by decide +kernel) rfl rfl rfl (by decide +kernel)
set_option maxRecDepth 65536 in
theorem w_c4 : (Jvm.Cond.code ({ cls := "java/lang/Object", name := "<init>", desc := "()V" } : Jvm.MethodName) object_method_1_code (1 : Nat) (Option.none : Option Jvm.ClassFile.FieldType)).before args0 about1 = true := code_word (m := ⟨0, 0⟩) (meth := k0m0) (c := k0c0) (by decide +kernel) rfl rfl rfl (by decide +kernel)
set_option maxRecDepth 65536 in
theorem w_c5 : (Jvm.Cond.code ({ cls := "com/example/shelfmark/shelfmark/model/MarcRecord", name := "isTag", desc := "(Ljava/lang/String;)Z" } : Jvm.MethodName) prog_36_method_9_code (4 : Nat) (Option.some Jvm.ClassFile.FieldType.boolean)).before args0 about1 = true := code_word (m := ⟨8, 0⟩) (meth := k8m0) (c := k8c0) (by decide +kernel) rfl rfl rfl (by decide +kernel)
set_option maxRecDepth 65536 in
theorem w_c6 : (Jvm.Cond.code ({ cls := "java/lang/String", name := "length", desc := "()I" } : Jvm.MethodName) jdk_42_method_54_code (1 : Nat) (Option.some Jvm.ClassFile.FieldType.int)).before args0 about1 = true := code_word (m := ⟨7, 2⟩) (meth := k7m2) (c := k7c2) (by decide +kernel) rfl rfl rfl (by decide +kernel)
set_option maxRecDepth 65536 in
theorem w_c7 : (Jvm.Cond.code ({ cls := "java/lang/String", name := "coder", desc := "()B" } : Jvm.MethodName) jdk_42_method_152_code (1 : Nat) (Option.some Jvm.ClassFile.FieldType.byte)).before args0 about1 = true := code_word (m := ⟨7, 7⟩) (meth := k7m7) (c := k7c7) (by decide +kernel) rfl rfl rfl (by decide +kernel)
set_option maxRecDepth 65536 in
theorem w_c8 : (Jvm.Cond.code ({ cls := "java/lang/String", name := "valueOf", desc := "(C)Ljava/lang/String;" } : Jvm.MethodName) jdk_42_method_139_code (1 : Nat) (Option.some (Jvm.ClassFile.FieldType.object "java/lang/String"))).before args0 about1 = true := code_word (m := ⟨7, 4⟩) (meth := k7m4) (c := k7c4) (by decide +kernel) rfl rfl rfl (by decide +kernel)
set_option maxRecDepth 65536 in
theorem w_c9 : (Jvm.Cond.code ({ cls := "java/lang/StringLatin1", name := "canEncode", desc := "(C)Z" } : Jvm.MethodName) jdk_43_method_3_code (1 : Nat) (Option.some Jvm.ClassFile.FieldType.boolean)).before args0 about1 = true := code_word (m := ⟨9, 2⟩) (meth := k9m2) (c := k9c2) (by decide +kernel) rfl rfl rfl (by decide +kernel)
set_option maxRecDepth 65536 in
theorem w_c10 : (Jvm.Cond.code ({ cls := "java/lang/StringLatin1", name := "toBytes", desc := "(C)[B" } : Jvm.MethodName) jdk_43_method_46_code (1 : Nat) (Option.some (Jvm.ClassFile.FieldType.array Jvm.ClassFile.FieldType.byte))).before args0 about1 = true := code_word (m := ⟨9, 3⟩) (meth := k9m3) (c := k9c3) (by decide +kernel) rfl rfl rfl (by decide +kernel)
set_option maxRecDepth 65536 in
theorem w_c11 : (Jvm.Cond.code ({ cls := "java/lang/String", name := "<init>", desc := "([BB)V" } : Jvm.MethodName) jdk_42_method_151_code (3 : Nat) (Option.none : Option Jvm.ClassFile.FieldType)).before args0 about1 = true := code_word (m := ⟨7, 6⟩) (meth := k7m6) (c := k7c6) (by decide +kernel) rfl rfl rfl (by decide +kernel)
set_option maxRecDepth 65536 in
theorem w_c12 : (Jvm.Cond.code ({ cls := "java/lang/StringUTF16", name := "compress", desc := "([CII)[B" } : Jvm.MethodName) jdk_52_method_16_code (6 : Nat) (Option.some (Jvm.ClassFile.FieldType.array Jvm.ClassFile.FieldType.byte))).before args0 about1 = true := code_word (m := ⟨10, 8⟩) (meth := k10m8) (c := k10c8) (by decide +kernel) rfl rfl rfl (by decide +kernel)
set_option maxRecDepth 65536 in
theorem w_c13 : (Jvm.Cond.code ({ cls := "java/lang/StringUTF16", name := "compress", desc := "([CI[BII)I" } : Jvm.MethodName) jdk_52_method_21_code (7 : Nat) (Option.some Jvm.ClassFile.FieldType.int)).before args0 about1 = true := code_word (m := ⟨10, 9⟩) (meth := k10m9) (c := k10c9) (by decide +kernel) rfl rfl rfl (by decide +kernel)
set_option maxRecDepth 65536 in
theorem w_c14 : (Jvm.Cond.code ({ cls := "java/lang/StringUTF16", name := "coderFromArrayLen", desc := "([BI)B" } : Jvm.MethodName) jdk_52_method_15_code (2 : Nat) (Option.some Jvm.ClassFile.FieldType.byte)).before args0 about1 = true := code_word (m := ⟨10, 7⟩) (meth := k10m7) (c := k10c7) (by decide +kernel) rfl rfl rfl (by decide +kernel)
set_option maxRecDepth 65536 in
theorem w_c15 : (Jvm.Cond.code ({ cls := "java/lang/StringUTF16", name := "toBytes", desc := "([CII)[B" } : Jvm.MethodName) jdk_52_method_14_code (5 : Nat) (Option.some (Jvm.ClassFile.FieldType.array Jvm.ClassFile.FieldType.byte))).before args0 about1 = true := code_word (m := ⟨10, 6⟩) (meth := k10m6) (c := k10c6) (by decide +kernel) rfl rfl rfl (by decide +kernel)
set_option maxRecDepth 65536 in
theorem w_c16 : (Jvm.Cond.code ({ cls := "java/lang/StringUTF16", name := "newBytesFor", desc := "(I)[B" } : Jvm.MethodName) jdk_52_method_2_code (1 : Nat) (Option.some (Jvm.ClassFile.FieldType.array Jvm.ClassFile.FieldType.byte))).before args0 about1 = true := code_word (m := ⟨10, 1⟩) (meth := k10m1) (c := k10c1) (by decide +kernel) rfl rfl rfl (by decide +kernel)
set_option maxRecDepth 65536 in
theorem w_c17 : (Jvm.Cond.code ({ cls := "java/lang/StringUTF16", name := "newBytesLength", desc := "(I)I" } : Jvm.MethodName) jdk_52_method_3_code (1 : Nat) (Option.some Jvm.ClassFile.FieldType.int)).before args0 about1 = true := code_word (m := ⟨10, 2⟩) (meth := k10m2) (c := k10c2) (by decide +kernel) rfl rfl rfl (by decide +kernel)
set_option maxRecDepth 65536 in
theorem w_c18 : (Jvm.Cond.code ({ cls := "java/lang/StringUTF16", name := "putChar", desc := "([BII)V" } : Jvm.MethodName) jdk_52_method_4_code (3 : Nat) (Option.none : Option Jvm.ClassFile.FieldType)).before args0 about1 = true := code_word (m := ⟨10, 3⟩) (meth := k10m3) (c := k10c3) (by decide +kernel) rfl rfl rfl (by decide +kernel)
set_option maxRecDepth 65536 in
theorem w_c19 : (Jvm.Cond.code ({ cls := "java/lang/StringUTF16", name := "getChar", desc := "([BI)C" } : Jvm.MethodName) jdk_52_method_5_code (2 : Nat) (Option.some Jvm.ClassFile.FieldType.char)).before args0 about1 = true := code_word (m := ⟨10, 4⟩) (meth := k10m4) (c := k10c4) (by decide +kernel) rfl rfl rfl (by decide +kernel)
set_option maxRecDepth 65536 in
theorem w_c20 : (Jvm.Cond.code ({ cls := "com/example/shelfmark/shelfmark/model/MarcRecordIsTagPinLaw", name := "alnum", desc := "(C)Z" } : Jvm.MethodName) method_4_code (3 : Nat) (Option.some Jvm.ClassFile.FieldType.boolean)).before args0 about1 = true := code_word (m := ⟨1, 3⟩) (meth := k1m3) (c := k1c3) (by decide +kernel) rfl rfl rfl (by decide +kernel)
set_option maxRecDepth 65536 in
theorem w_c21 : (Jvm.Cond.code ({ cls := "java/lang/String", name := "charAt", desc := "(I)C" } : Jvm.MethodName) jdk_42_method_56_code (2 : Nat) (Option.some Jvm.ClassFile.FieldType.char)).before args0 about1 = true := code_word (m := ⟨7, 3⟩) (meth := k7m3) (c := k7c3) (by decide +kernel) rfl rfl rfl (by decide +kernel)
set_option maxRecDepth 65536 in
theorem w_c22 : (Jvm.Cond.code ({ cls := "java/lang/String", name := "isLatin1", desc := "()Z" } : Jvm.MethodName) jdk_42_method_154_code (1 : Nat) (Option.some Jvm.ClassFile.FieldType.boolean)).before args0 about1 = true := code_word (m := ⟨7, 8⟩) (meth := k7m8) (c := k7c8) (by decide +kernel) rfl rfl rfl (by decide +kernel)
set_option maxRecDepth 65536 in
theorem w_c23 : (Jvm.Cond.code ({ cls := "java/lang/StringUTF16", name := "charAt", desc := "([BI)C" } : Jvm.MethodName) jdk_52_method_83_code (2 : Nat) (Option.some Jvm.ClassFile.FieldType.char)).before args0 about1 = true := code_word (m := ⟨10, 11⟩) (meth := k10m11) (c := k10c11) (by decide +kernel) rfl rfl rfl (by decide +kernel)
set_option maxRecDepth 65536 in
theorem w_c24 : (Jvm.Cond.code ({ cls := "java/lang/StringUTF16", name := "checkIndex", desc := "(I[B)V" } : Jvm.MethodName) jdk_52_method_91_code (2 : Nat) (Option.none : Option Jvm.ClassFile.FieldType)).before args0 about1 = true := code_word (m := ⟨10, 12⟩) (meth := k10m12) (c := k10c12) (by decide +kernel) rfl rfl rfl (by decide +kernel)
set_option maxRecDepth 65536 in
theorem w_c25 : (Jvm.Cond.code ({ cls := "java/lang/StringUTF16", name := "length", desc := "([B)I" } : Jvm.MethodName) jdk_52_method_6_code (1 : Nat) (Option.some Jvm.ClassFile.FieldType.int)).before args0 about1 = true := code_word (m := ⟨10, 5⟩) (meth := k10m5) (c := k10c5) (by decide +kernel) rfl rfl rfl (by decide +kernel)
set_option maxRecDepth 65536 in
theorem w_c26 : (Jvm.Cond.code ({ cls := "java/lang/String", name := "checkIndex", desc := "(II)V" } : Jvm.MethodName) jdk_42_method_155_code (2 : Nat) (Option.none : Option Jvm.ClassFile.FieldType)).before args0 about1 = true := code_word (m := ⟨7, 9⟩) (meth := k7m9) (c := k7c9) (by decide +kernel) rfl rfl rfl (by decide +kernel)
set_option maxRecDepth 65536 in
theorem w_c27 : (Jvm.Cond.code ({ cls := "jdk/internal/util/Preconditions", name := "checkIndex", desc := "(IILjava/util/function/BiFunction;)I" } : Jvm.MethodName) jdk_41_method_11_code (3 : Nat) (Option.some Jvm.ClassFile.FieldType.int)).before args0 about1 = true := code_word (m := ⟨11, 1⟩) (meth := k11m1) (c := k11c1) (by decide +kernel) rfl rfl rfl (by decide +kernel)
set_option maxRecDepth 65536 in
theorem w_c28 : (Jvm.Cond.code ({ cls := "java/lang/StringLatin1", name := "charAt", desc := "([BI)C" } : Jvm.MethodName) jdk_43_method_2_code (2 : Nat) (Option.some Jvm.ClassFile.FieldType.char)).before args0 about1 = true := code_word (m := ⟨9, 1⟩) (meth := k9m1) (c := k9c1) (by decide +kernel) rfl rfl rfl (by decide +kernel)
set_option maxRecDepth 65536 in
theorem w_c29 : (Jvm.Cond.code ({ cls := "java/lang/StringUTF16", name := "toBytes", desc := "(C)[B" } : Jvm.MethodName) jdk_52_method_24_code (2 : Nat) (Option.some (Jvm.ClassFile.FieldType.array Jvm.ClassFile.FieldType.byte))).before args0 about1 = true := code_word (m := ⟨10, 10⟩) (meth := k10m10) (c := k10c10) (by decide +kernel) rfl rfl rfl (by decide +kernel)
def codes1 : List Jvm.Cond := [Jvm.Cond.code x code maxLocals ret, Jvm.Cond.code ({ cls := "com/example/shelfmark/shelfmark/model/MarcRecordIsTagPinLaw", name := "make", desc := "(ICCCC)Ljava/lang/String;" } : Jvm.MethodName) method_3_code (5 : Nat) (Option.some (Jvm.ClassFile.FieldType.object "java/lang/String")), Jvm.Cond.code ({ cls := "java/lang/String", name := "<init>", desc := "([C)V" } : Jvm.MethodName) jdk_42_method_3_code (2 : Nat) (Option.none : Option Jvm.ClassFile.FieldType), Jvm.Cond.code ({ cls := "java/lang/String", name := "<init>", desc := "([CIILjava/lang/Void;)V" } : Jvm.MethodName) jdk_42_method_149_code (6 : Nat) (Option.none : Option Jvm.ClassFile.FieldType), Jvm.Cond.code ({ cls := "java/lang/Object", name := "<init>", desc := "()V" } : Jvm.MethodName) object_method_1_code (1 : Nat) (Option.none : Option Jvm.ClassFile.FieldType), Jvm.Cond.code ({ cls := "com/example/shelfmark/shelfmark/model/MarcRecord", name := "isTag", desc := "(Ljava/lang/String;)Z" } : Jvm.MethodName) prog_36_method_9_code (4 : Nat) (Option.some Jvm.ClassFile.FieldType.boolean), Jvm.Cond.code ({ cls := "java/lang/String", name := "length", desc := "()I" } : Jvm.MethodName) jdk_42_method_54_code (1 : Nat) (Option.some Jvm.ClassFile.FieldType.int), Jvm.Cond.code ({ cls := "java/lang/String", name := "coder", desc := "()B" } : Jvm.MethodName) jdk_42_method_152_code (1 : Nat) (Option.some Jvm.ClassFile.FieldType.byte), Jvm.Cond.code ({ cls := "java/lang/String", name := "valueOf", desc := "(C)Ljava/lang/String;" } : Jvm.MethodName) jdk_42_method_139_code (1 : Nat) (Option.some (Jvm.ClassFile.FieldType.object "java/lang/String")), Jvm.Cond.code ({ cls := "java/lang/StringLatin1", name := "canEncode", desc := "(C)Z" } : Jvm.MethodName) jdk_43_method_3_code (1 : Nat) (Option.some Jvm.ClassFile.FieldType.boolean), Jvm.Cond.code ({ cls := "java/lang/StringLatin1", name := "toBytes", desc := "(C)[B" } : Jvm.MethodName) jdk_43_method_46_code (1 : Nat) (Option.some (Jvm.ClassFile.FieldType.array Jvm.ClassFile.FieldType.byte)), Jvm.Cond.code ({ cls := "java/lang/String", name := "<init>", desc := "([BB)V" } : Jvm.MethodName) jdk_42_method_151_code (3 : Nat) (Option.none : Option Jvm.ClassFile.FieldType), Jvm.Cond.code ({ cls := "java/lang/StringUTF16", name := "compress", desc := "([CII)[B" } : Jvm.MethodName) jdk_52_method_16_code (6 : Nat) (Option.some (Jvm.ClassFile.FieldType.array Jvm.ClassFile.FieldType.byte)), Jvm.Cond.code ({ cls := "java/lang/StringUTF16", name := "compress", desc := "([CI[BII)I" } : Jvm.MethodName) jdk_52_method_21_code (7 : Nat) (Option.some Jvm.ClassFile.FieldType.int), Jvm.Cond.code ({ cls := "java/lang/StringUTF16", name := "coderFromArrayLen", desc := "([BI)B" } : Jvm.MethodName) jdk_52_method_15_code (2 : Nat) (Option.some Jvm.ClassFile.FieldType.byte), Jvm.Cond.code ({ cls := "java/lang/StringUTF16", name := "toBytes", desc := "([CII)[B" } : Jvm.MethodName) jdk_52_method_14_code (5 : Nat) (Option.some (Jvm.ClassFile.FieldType.array Jvm.ClassFile.FieldType.byte)), Jvm.Cond.code ({ cls := "java/lang/StringUTF16", name := "newBytesFor", desc := "(I)[B" } : Jvm.MethodName) jdk_52_method_2_code (1 : Nat) (Option.some (Jvm.ClassFile.FieldType.array Jvm.ClassFile.FieldType.byte)), Jvm.Cond.code ({ cls := "java/lang/StringUTF16", name := "newBytesLength", desc := "(I)I" } : Jvm.MethodName) jdk_52_method_3_code (1 : Nat) (Option.some Jvm.ClassFile.FieldType.int), Jvm.Cond.code ({ cls := "java/lang/StringUTF16", name := "putChar", desc := "([BII)V" } : Jvm.MethodName) jdk_52_method_4_code (3 : Nat) (Option.none : Option Jvm.ClassFile.FieldType), Jvm.Cond.code ({ cls := "java/lang/StringUTF16", name := "getChar", desc := "([BI)C" } : Jvm.MethodName) jdk_52_method_5_code (2 : Nat) (Option.some Jvm.ClassFile.FieldType.char), Jvm.Cond.code ({ cls := "com/example/shelfmark/shelfmark/model/MarcRecordIsTagPinLaw", name := "alnum", desc := "(C)Z" } : Jvm.MethodName) method_4_code (3 : Nat) (Option.some Jvm.ClassFile.FieldType.boolean), Jvm.Cond.code ({ cls := "java/lang/String", name := "charAt", desc := "(I)C" } : Jvm.MethodName) jdk_42_method_56_code (2 : Nat) (Option.some Jvm.ClassFile.FieldType.char), Jvm.Cond.code ({ cls := "java/lang/String", name := "isLatin1", desc := "()Z" } : Jvm.MethodName) jdk_42_method_154_code (1 : Nat) (Option.some Jvm.ClassFile.FieldType.boolean), Jvm.Cond.code ({ cls := "java/lang/StringUTF16", name := "charAt", desc := "([BI)C" } : Jvm.MethodName) jdk_52_method_83_code (2 : Nat) (Option.some Jvm.ClassFile.FieldType.char), Jvm.Cond.code ({ cls := "java/lang/StringUTF16", name := "checkIndex", desc := "(I[B)V" } : Jvm.MethodName) jdk_52_method_91_code (2 : Nat) (Option.none : Option Jvm.ClassFile.FieldType), Jvm.Cond.code ({ cls := "java/lang/StringUTF16", name := "length", desc := "([B)I" } : Jvm.MethodName) jdk_52_method_6_code (1 : Nat) (Option.some Jvm.ClassFile.FieldType.int), Jvm.Cond.code ({ cls := "java/lang/String", name := "checkIndex", desc := "(II)V" } : Jvm.MethodName) jdk_42_method_155_code (2 : Nat) (Option.none : Option Jvm.ClassFile.FieldType), Jvm.Cond.code ({ cls := "jdk/internal/util/Preconditions", name := "checkIndex", desc := "(IILjava/util/function/BiFunction;)I" } : Jvm.MethodName) jdk_41_method_11_code (3 : Nat) (Option.some Jvm.ClassFile.FieldType.int), Jvm.Cond.code ({ cls := "java/lang/StringLatin1", name := "charAt", desc := "([BI)C" } : Jvm.MethodName) jdk_43_method_2_code (2 : Nat) (Option.some Jvm.ClassFile.FieldType.char), Jvm.Cond.code ({ cls := "java/lang/StringUTF16", name := "toBytes", desc := "(C)[B" } : Jvm.MethodName) jdk_52_method_24_code (2 : Nat) (Option.some (Jvm.ClassFile.FieldType.array Jvm.ClassFile.FieldType.byte))]
set_option maxRecDepth 65536 in
theorem codes_eq : words1.filter isCode = codes1 := rfl
theorem w_codes : ∀ c ∈ words1.filter isCode, c.before args0 about1 = true := by
  rw [codes_eq]
  intro c hc
  simp only [codes1, List.mem_cons, List.not_mem_nil, or_false] at hc
  rcases hc with rfl | rfl | rfl | rfl | rfl | rfl | rfl | rfl | rfl | rfl | rfl | rfl | rfl | rfl | rfl | rfl | rfl | rfl | rfl | rfl | rfl | rfl | rfl | rfl | rfl | rfl | rfl | rfl | rfl | rfl
  · exact w_c0
  · exact w_c1
  · exact w_c2
  · exact w_c3
  · exact w_c4
  · exact w_c5
  · exact w_c6
  · exact w_c7
  · exact w_c8
  · exact w_c9
  · exact w_c10
  · exact w_c11
  · exact w_c12
  · exact w_c13
  · exact w_c14
  · exact w_c15
  · exact w_c16
  · exact w_c17
  · exact w_c18
  · exact w_c19
  · exact w_c20
  · exact w_c21
  · exact w_c22
  · exact w_c23
  · exact w_c24
  · exact w_c25
  · exact w_c26
  · exact w_c27
  · exact w_c28
  · exact w_c29
set_option maxRecDepth 65536 in
theorem w_t1 : (words1.take 24).all (fun c => isCode c || c.before args0 about1) = true := by decide +kernel
set_option maxRecDepth 65536 in
theorem w_t2 : ((words1.drop 24).take 24).all (fun c => isCode c || c.before args0 about1) = true := by decide +kernel
set_option maxRecDepth 65536 in
theorem w_t3 : (((words1.drop 24).drop 24).take 24).all (fun c => isCode c || c.before args0 about1) = true := by decide +kernel
set_option maxRecDepth 65536 in
theorem w_t4 : ((((words1.drop 24).drop 24).drop 24).take 24).all (fun c => isCode c || c.before args0 about1) = true := by decide +kernel
set_option maxRecDepth 65536 in
theorem w_t5 : (((((words1.drop 24).drop 24).drop 24).drop 24).take 24).all (fun c => isCode c || c.before args0 about1) = true := by decide +kernel
set_option maxRecDepth 65536 in
theorem w_t6 : (((((words1.drop 24).drop 24).drop 24).drop 24).drop 24).all (fun c => isCode c || c.before args0 about1) = true := by decide +kernel
theorem w_tables : (allAtoms (Jvm.Cond.code x code maxLocals ret :: tables_1)).before args0 about1 = true := by
  rw [allAtoms_all]
  show words1.all (fun c => c.before args0 about1) = true
  refine all_split ?_ w_codes
  rw [← List.take_append_drop 24 words1, List.all_append, w_t1, ← List.take_append_drop 24 (words1.drop 24), List.all_append, w_t2, ← List.take_append_drop 24 ((words1.drop 24).drop 24), List.all_append, w_t3, ← List.take_append_drop 24 (((words1.drop 24).drop 24).drop 24), List.all_append, w_t4, ← List.take_append_drop 24 ((((words1.drop 24).drop 24).drop 24).drop 24), List.all_append, w_t5, w_t6]
  rfl
set_option maxRecDepth 65536 in
theorem w_rest : rest_1_c.before args0 about1 = true := by decide +kernel
set_option maxRecDepth 65536 in
theorem w_case : (Jvm.Cond.and given_1 narrow_1).before args0 about1 = true := by decide +kernel
set_option maxRecDepth 65536 in
theorem w_consts : constsHeld consts_1 about1 := Jvm.Lit.constsHeldB_iff.mp (by decide +kernel)
theorem w_applies : (headSpec (Jvm.Cond.code x code maxLocals ret :: tables_1) room_1).applies x e0.platform about1 = true :=
  (Spec.applies_iff w_frames).mpr ⟨w_running, w_runnable, w_alone, w_named, w_hears, w_ripe, w_room, w_tables⟩
theorem atStart : AtStart classFile x code maxLocals ret World_1 tables_1 room_1 Calls_1 rest_1 Pre_1 launch0 p0 e0 about1 theMethod args0 below0 :=
  ⟨lists_1, trivial, launch0.admits_env _ _ _, launch0.least_env, fairChoices_fair.cas, fairChoices_fair.clock, w_frames, w_args, w_heap, w_applies, ⟨w_consts, trivial⟩, w_rest, w_case⟩
end start1
theorem witness_1 : WitnessClaimed_1 := ⟨start1.p0, start1.e0, start1.about1, start1.theMethod, start1.args0, start1.below0, start1.atStart⟩
end Jvm.Pilot.@@N@@
