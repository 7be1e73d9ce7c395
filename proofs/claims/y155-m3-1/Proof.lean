import JvmDerived
import JvmDerived.Pilot.@@N@@Statement
import JvmDerived.Pilot.@@N@@Code
set_option linter.unusedVariables false
set_option linter.unusedSimpArgs false
/- laws to paste: Road.backV (cut by pick.py; bodies as the Statement names them) -/
namespace Jvm.Pilot.@@N@@
namespace StrChars
open Jvm Sem ClassFile Op Lib Jvm.Stand Jvm.Free.XT Jvm.Free.ALB Jvm.Free.JM Jvm.Free
open Jvm.Lib.Cold (StaticIs)
/-- a char array whose places are chars -/
def Ch (a : Addr) (A : Cell) (U : State) : Prop := Arr .char a A U ∧ Typed .char A
theorem Ch.mv {a : Addr} {A : Cell} {U U' : State} (h : Ch a A U) (hal : U.vm.Alike U'.vm) (hh : U'.heap = U.heap) : Ch a A U' := ⟨h.1.mv hal hh, h.2⟩
theorem Ch.keep {a : Addr} {A : Cell} {U U' : State} (h : Ch a A U) (hal : U.vm.Alike U'.vm) (hk : U'.heap[a]? = some A) : Ch a A U' := ⟨h.1.keep hal hk, h.2⟩
/-- what place i of a char[]'s cell holds -/
def cv (A : Cell) (i : Nat) : Int32 := match A.slots[i]? with | some (.int x) => x | _ => 0
theorem Ch.get {a : Addr} {A : Cell} {U : State} (h : Ch a A U) {i : Nat} (hi : i < A.slots.size) : A.slots[i]? = some (.int (cv A i)) := by
  have e := Array.getElem?_eq_getElem hi
  have f := h.2 i _ e
  unfold cv; rw [e]
  generalize A.slots[i] = v at f
  cases v <;> simp [fits] at f ⊢
/-- the byte that i2b leaves of a char -/
def lo8 (x : Int32) : Int32 := x.toInt8.toInt32
theorem fits_lo8 (y : Int32) : fits .byte (.int (lo8 y)) = true := by
  have h1 := y.toInt8.le_toInt
  have h2 := y.toInt8.toInt_lt
  simp only [lo8, fits, Bool.and_eq_true, decide_eq_true_eq, Int32.le_iff_toInt_le, Int8.toInt_toInt32, show (-128 : Int32).toInt = -128 from by decide, show (127 : Int32).toInt = 127 from by decide]
  omega
/-- A' is A but that each place j of lo .. hi - 1 holds f j -/
def Laid (A A' : Cell) (lo hi : Nat) (f : Nat → Value) : Prop := A'.cls = A.cls ∧ A'.vm = A.vm ∧ A'.slots.size = A.slots.size ∧ ∀ i, A'.slots[i]? = if lo ≤ i ∧ i < hi then some (f i) else A.slots[i]?
theorem Laid.zero (A : Cell) (lo : Nat) (f : Nat → Value) : Laid A A lo (lo + 0) f := ⟨rfl, rfl, rfl, fun i => by rw [if_neg (by omega)]⟩
theorem Laid.step {A Ak : Cell} {lo k : Nat} {f : Nat → Value} {v : Value} (h : Laid A Ak lo k f) (hlo : lo ≤ k) (hk : k < Ak.slots.size) (hv : v = f k) : Laid A (Ak.setSlot k v) lo (k + 1) f := by
  refine ⟨h.1, h.2.1, by simpa [Cell.setSlot] using h.2.2.1, fun i => ?_⟩
  by_cases e : k = i
  · subst e; rw [Cell.slots_setSlot_self v hk, if_pos (by omega), hv]
  · rw [Cell.slots_setSlot_ne v e, h.2.2.2 i]
    by_cases q : lo ≤ i ∧ i < k
    · rw [if_pos q, if_pos (by omega)]
    · rw [if_neg q, if_neg (by omega)]
def U16 : String := "java/lang/StringUTF16"
namespace Cmp5
def yN : MethodName := ⟨"java/lang/StringUTF16", "compress", "([CI[BII)I"⟩
abbrev yB : ByteArray := jdk_52_method_21_code
theorem d0 : decode yB 0 = .ok (.iconst 0, 1) := by decide +kernel
theorem d1 : decode yB 1 = .ok (.istore 5, 2) := by decide +kernel
theorem d3 : decode yB 3 = .ok (.iload 5, 2) := by decide +kernel
theorem d5 : decode yB 5 = .ok (.iload 4, 2) := by decide +kernel
theorem d7 : decode yB 7 = .ok (.if_icmp (.ge) 37, 3) := by decide +kernel
theorem d10 : decode yB 10 = .ok (.aload_n 0, 1) := by decide +kernel
theorem d11 : decode yB 11 = .ok (.iload_n 1, 1) := by decide +kernel
theorem d12 : decode yB 12 = .ok (.caload, 1) := by decide +kernel
theorem d13 : decode yB 13 = .ok (.istore 6, 2) := by decide +kernel
theorem d15 : decode yB 15 = .ok (.iload 6, 2) := by decide +kernel
theorem d17 : decode yB 17 = .ok (.sipush 255, 3) := by decide +kernel
theorem d20 : decode yB 20 = .ok (.if_icmp (.le) 6, 3) := by decide +kernel
theorem d26 : decode yB 26 = .ok (.aload_n 2, 1) := by decide +kernel
theorem d27 : decode yB 27 = .ok (.iload_n 3, 1) := by decide +kernel
theorem d28 : decode yB 28 = .ok (.iload 6, 2) := by decide +kernel
theorem d30 : decode yB 30 = .ok (.i2b, 1) := by decide +kernel
theorem d31 : decode yB 31 = .ok (.bastore, 1) := by decide +kernel
theorem d32 : decode yB 32 = .ok (.iinc 1 1, 3) := by decide +kernel
theorem d35 : decode yB 35 = .ok (.iinc 3 1, 3) := by decide +kernel
theorem d38 : decode yB 38 = .ok (.iinc 5 1, 3) := by decide +kernel
theorem d41 : decode yB 41 = .ok (.goto (-38), 3) := by decide +kernel
theorem d44 : decode yB 44 = .ok (.iload 4, 2) := by decide +kernel
theorem d46 : decode yB 46 = .ok (.ireturn, 1) := by decide +kernel
def site : List Cond := []
def tab : Cond := tabOf yN yB 7 (some .int) site
def P (b : Addr) (A : Cell) (d : Addr) (B : Cell) (o q len : Nat) (args : Array Value) (s : State) : Prop := args = #[.ref b, .int (Int32.ofNat o), .ref d, .int (Int32.ofNat q), .int (Int32.ofNat len)] ∧ Ch b A s ∧ Arr .byte d B s ∧ b ≠ d ∧ o + len ≤ A.slots.size ∧ q + len ≤ B.slots.size ∧ ∀ i, i < len → ¬ 255 < cv A (o + i)
def E (b : Addr) (A : Cell) (d : Addr) (B : Cell) (o q len : Nat) (r : Option Value) (s u : State) : Prop := r = some (.int (Int32.ofNat len)) ∧ ∃ B', Put d B' s u ∧ Laid B B' q (q + len) (fun j => Value.int (lo8 (cv A (o + (j - q)))))
/-- no char of the range above 255: len; the places written hold each char's low byte -/
theorem law (l : Launch) (b : Addr) (A : Cell) (d : Addr) (B : Cell) (o q len : Nat) : Law l yN 5 5 0 0 yB 7 (some .int) site (P b A d B o q len) (E b A d B o q len) (copyLocs d q len) 0 0 := by
  refine Law.of_walk (plainFor_of_name (by decide +kernel)) (by decide +kernel) (by decide +kernel) (by decide) (fun _ _ h => by rw [h.1]; rfl) (fun _ U U' hal hh h => ⟨h.1, h.2.1.mv hal hh, h.2.2.1.mv hal hh, h.2.2.2⟩) (fun r U U' V V' h1 hal h2 h => ⟨h.1, h.2.elim fun B' q => ⟨B', q.1.mv h1 h2, q.2⟩⟩) ?_
  intro p e s m args below meth c s₁ X0 hexec hbytes hml hret hlk hnm hown hh0 W hP
  obtain ⟨rfl, hA, hB, hne, l1, l2, hp⟩ := hP
  have c1 : Steps p.tables e below (s₁.setTop (entryFrame m #[.ref b, .int (Int32.ofNat o), .ref d, .int (Int32.ofNat q), .int (Int32.ofNat len)] 7)) (s₁.setTop (mkF m 0 #[.val (.ref b), .val (.int (Int32.ofNat o)), .val (.ref d), .val (.int (Int32.ofNat q)), .val (.int (Int32.ofNat len)), .unset, .unset] [])) := entry rfl
  have hA0 := hA.1.mv X0.warmed.alike hh0
  have hB0 := hB.mv X0.warmed.alike hh0
  have a31 := hA.1.2.2.2
  have c2 : Steps p.tables e below (s₁.setTop (entryFrame m #[.ref b, .int (Int32.ofNat o), .ref d, .int (Int32.ofNat q), .int (Int32.ofNat len)] 7)) (s₁.setTop (mkF m 3 #[.val (.ref b), .val (.int (Int32.ofNat o)), .val (.ref d), .val (.int (Int32.ofNat q)), .val (.int (Int32.ofNat len)), .val (.int 0), .unset] [])) := c1.trans (by
    refine iconstV X0.here hexec rfl 0 (hb hbytes d0) (by decide) ?_
    refine XS.istore X0.here hexec rfl (hb hbytes d1) rfl rfl ?_
    exact Steps.refl _)
  have loop : ∀ (r i : Nat), i + r = len → ∀ (z : Slot), (z = .unset ∨ ∃ w, z = .val w ∧ w.category = 1) → ∀ (Tl : State) (Bk : Cell), Stand p l e { frames := 0, locals := 0, cells := 0, slots := 0 } s m #[.ref b, .int (Int32.ofNat o), .ref d, .int (Int32.ofNat q), .int (Int32.ofNat len)] below meth c Tl ([] ++ copyLocs d q i) 0 0 → Put d Bk s₁ Tl → Laid B Bk q (q + i) (fun j => Value.int (lo8 (cv A (o + (j - q))))) →
      Steps p.tables e below (s₁.setTop (entryFrame m #[.ref b, .int (Int32.ofNat o), .ref d, .int (Int32.ofNat q), .int (Int32.ofNat len)] 7)) (Tl.setTop (mkF m 3 #[.val (.ref b), .val (.int (Int32.ofNat (o + i))), .val (.ref d), .val (.int (Int32.ofNat (q + i))), .val (.int (Int32.ofNat len)), .val (.int (Int32.ofNat i)), z] [])) → ∃ (T' : State) (B' : Cell) (z' : Slot), Stand p l e { frames := 0, locals := 0, cells := 0, slots := 0 } s m #[.ref b, .int (Int32.ofNat o), .ref d, .int (Int32.ofNat q), .int (Int32.ofNat len)] below meth c T' ([] ++ copyLocs d q len) 0 0 ∧ Put d B' s₁ T' ∧ Laid B B' q (q + len) (fun j => Value.int (lo8 (cv A (o + (j - q))))) ∧
      Steps p.tables e below (s₁.setTop (entryFrame m #[.ref b, .int (Int32.ofNat o), .ref d, .int (Int32.ofNat q), .int (Int32.ofNat len)] 7)) (T'.setTop (mkF m 3 #[.val (.ref b), .val (.int (Int32.ofNat (o + len))), .val (.ref d), .val (.int (Int32.ofNat (q + len))), .val (.int (Int32.ofNat len)), .val (.int (Int32.ofNat len)), z'] [])) := by
    intro r
    induction r with
    | zero =>
      intro i hi z hz Tl Bk Xl pl fl cl
      have hil : i = len := by omega
      rw [hil] at Xl fl cl
      exact ⟨Tl, Bk, z, Xl, pl, fl, cl⟩
    | succ r ih =>
      intro i hi z hz Tl Bk Xl pl fl cl
      have all := X0.warmed.alike.symm.trans Xl.warmed.alike
      have hAl := hA0.keep all (pl.other hne hA0.1)
      have hBk := hB0.like all pl.1 fl.1 fl.2.1 fl.2.2.1
      have hlt : q + i < Bk.slots.size := by rw [fl.2.2.1]; omega
      have c3 : Steps p.tables e below (s₁.setTop (entryFrame m #[.ref b, .int (Int32.ofNat o), .ref d, .int (Int32.ofNat q), .int (Int32.ofNat len)] 7)) (Tl.setTop (mkF m 12 #[.val (.ref b), .val (.int (Int32.ofNat (o + i))), .val (.ref d), .val (.int (Int32.ofNat (q + i))), .val (.int (Int32.ofNat len)), .val (.int (Int32.ofNat i)), z] [.int (Int32.ofNat (o + i)), .ref b])) := cl.trans (by
        refine XS.iload Xl.here hexec rfl (hb hbytes d3) rfl ?_
        refine XS.iload Xl.here hexec rfl (hb hbytes d5) rfl ?_
        refine XS.icmpNo Xl.here hexec rfl (hb hbytes d7) rfl (ii_ge_f (lt32 (by omega) (by omega))) ?_
        refine XS.aloadN Xl.here hexec rfl (hb hbytes d10) rfl rfl ?_
        refine XS.iloadN Xl.here hexec rfl (hb hbytes d11) rfl ?_
        exact Steps.refl _)
      have c4 : Steps p.tables e below (s₁.setTop (entryFrame m #[.ref b, .int (Int32.ofNat o), .ref d, .int (Int32.ofNat q), .int (Int32.ofNat len)] 7)) (Tl.setTop (mkF m 13 #[.val (.ref b), .val (.int (Int32.ofNat (o + i))), .val (.ref d), .val (.int (Int32.ofNat (q + i))), .val (.int (Int32.ofNat len)), .val (.int (Int32.ofNat i)), z] [.int (cv A (o + i))])) := c3.trans (by
        refine Xl.aget hexec hAl rfl (hA.get (i := o + i) (by omega)) rfl rfl (hb hbytes d12) ?_
        exact Steps.refl _)
      have c5 : Steps p.tables e below (s₁.setTop (entryFrame m #[.ref b, .int (Int32.ofNat o), .ref d, .int (Int32.ofNat q), .int (Int32.ofNat len)] 7)) (Tl.setTop (mkF m 15 #[.val (.ref b), .val (.int (Int32.ofNat (o + i))), .val (.ref d), .val (.int (Int32.ofNat (q + i))), .val (.int (Int32.ofNat len)), .val (.int (Int32.ofNat i)), .val (.int (cv A (o + i)))] [])) := c4.trans (by
        refine XS.istoreS Xl.here hexec rfl (hb hbytes d13) rfl rfl hz ?_
        exact Steps.refl _)
      have c6 : Steps p.tables e below (s₁.setTop (entryFrame m #[.ref b, .int (Int32.ofNat o), .ref d, .int (Int32.ofNat q), .int (Int32.ofNat len)] 7)) (Tl.setTop (mkF m 31 #[.val (.ref b), .val (.int (Int32.ofNat (o + i))), .val (.ref d), .val (.int (Int32.ofNat (q + i))), .val (.int (Int32.ofNat len)), .val (.int (Int32.ofNat i)), .val (.int (cv A (o + i)))] [.int (lo8 (cv A (o + i))), .int (Int32.ofNat (q + i)), .ref d])) := c5.trans (by
        refine XS.iload Xl.here hexec rfl (hb hbytes d15) rfl ?_
        refine sipushV Xl.here hexec rfl 255 (hb hbytes d17) (by decide) ?_
        refine XS.icmpYes Xl.here hexec rfl (pc0 := 20) rfl (hb hbytes d20) rfl (ii_le_t (hp i (by omega))) (by decide) rfl ?_
        refine XS.aloadN Xl.here hexec rfl (hb hbytes d26) rfl rfl ?_
        refine XS.iloadN Xl.here hexec rfl (hb hbytes d27) rfl ?_
        refine XS.iload Xl.here hexec rfl (hb hbytes d28) rfl ?_
        refine i2b Xl.here hexec rfl (hb hbytes d30) rfl ?_
        exact Steps.refl _)
      obtain ⟨T7, X7, p7, st7⟩ := Xl.aput hexec hBk rfl hlt rfl (fits_lo8 (cv A (o + i))) (g := (mkF m 31 #[.val (.ref b), .val (.int (Int32.ofNat (o + i))), .val (.ref d), .val (.int (Int32.ofNat (q + i))), .val (.int (Int32.ofNat len)), .val (.int (Int32.ofNat i)), .val (.int (cv A (o + i)))] [.int (lo8 (cv A (o + i))), .int (Int32.ofNat (q + i)), .ref d])) rfl (rest := []) rfl (hb hbytes d31)
      have c8 : Steps p.tables e below (s₁.setTop (entryFrame m #[.ref b, .int (Int32.ofNat o), .ref d, .int (Int32.ofNat q), .int (Int32.ofNat len)] 7)) (T7.setTop (mkF m 32 #[.val (.ref b), .val (.int (Int32.ofNat (o + i))), .val (.ref d), .val (.int (Int32.ofNat (q + i))), .val (.int (Int32.ofNat len)), .val (.int (Int32.ofNat i)), .val (.int (cv A (o + i)))] [])) := c6.trans (st7 _ (Steps.refl _))
      have c9 : Steps p.tables e below (s₁.setTop (entryFrame m #[.ref b, .int (Int32.ofNat o), .ref d, .int (Int32.ofNat q), .int (Int32.ofNat len)] 7)) (T7.setTop (mkF m 3 #[.val (.ref b), .val (.int (Int32.ofNat (o + i) + 1)), .val (.ref d), .val (.int (Int32.ofNat (q + i) + 1)), .val (.int (Int32.ofNat len)), .val (.int (Int32.ofNat i + 1)), .val (.int (cv A (o + i)))] [])) := c8.trans (by
        refine iincV X7.here hexec rfl 1 (hb hbytes d32) (by decide) rfl rfl ?_
        refine iincV X7.here hexec rfl 1 (hb hbytes d35) (by decide) rfl rfl ?_
        refine iincV X7.here hexec rfl 1 (hb hbytes d38) (by decide) rfl rfl ?_
        refine XS.goto X7.here hexec rfl (pc0 := 41) rfl (hb hbytes d41) (by decide) rfl ?_
        exact Steps.refl _)
      have c10 : Steps p.tables e below (s₁.setTop (entryFrame m #[.ref b, .int (Int32.ofNat o), .ref d, .int (Int32.ofNat q), .int (Int32.ofNat len)] 7)) (T7.setTop (mkF m 3 #[.val (.ref b), .val (.int (Int32.ofNat (o + (i + 1)))), .val (.ref d), .val (.int (Int32.ofNat (q + (i + 1)))), .val (.int (Int32.ofNat len)), .val (.int (Int32.ofNat (i + 1))), .val (.int (cv A (o + i)))] [])) := by
        have := c9
        rw [succ32, succ32, succ32] at this
        exact this
      exact ih (i + 1) (by omega) _ (Or.inr ⟨_, rfl, rfl⟩) T7 _ (by rw [copyLocs_step, ← List.append_assoc]; exact X7) (pl.trans p7) (fl.step (by omega) hlt (by simp)) c10
  obtain ⟨T9, B9, z9, X9, p9, f9, g9⟩ := loop len 0 (by omega) .unset (Or.inl rfl) s₁ B (by simpa [copyLocs] using X0) ⟨hB0.1, fun _ _ => rfl, rfl⟩ (Laid.zero _ _ _) c2
  have c11 : Steps p.tables e below (s₁.setTop (entryFrame m #[.ref b, .int (Int32.ofNat o), .ref d, .int (Int32.ofNat q), .int (Int32.ofNat len)] 7)) (T9.setTop (mkF m 46 #[.val (.ref b), .val (.int (Int32.ofNat (o + len))), .val (.ref d), .val (.int (Int32.ofNat (q + len))), .val (.int (Int32.ofNat len)), .val (.int (Int32.ofNat len)), z9] [.int (Int32.ofNat len)])) := g9.trans (by
    refine XS.iload X9.here hexec rfl (hb hbytes d3) rfl ?_
    refine XS.iload X9.here hexec rfl (hb hbytes d5) rfl ?_
    refine XS.icmpYes X9.here hexec rfl (pc0 := 7) rfl (hb hbytes d7) rfl (ii_ge_t (nlt32 (by omega) (Nat.le_refl _))) (by decide) rfl ?_
    refine XS.iload X9.here hexec rfl (hb hbytes d44) rfl ?_
    exact Steps.refl _)
  exact ⟨T9, some (.int (Int32.ofNat len)), _, _, _, X9, by simp, rfl, rfl, (fun h => by cases h), ⟨rfl, B9, p9.from hh0, f9⟩, fun fs hl => c11.trans (X9.ireturnOut hexec hret rfl (Or.inl rfl) (hb hbytes d46) hl)⟩
end Cmp5
namespace Cmp3
def yN : MethodName := ⟨"java/lang/StringUTF16", "compress", "([CII)[B"⟩
abbrev yB : ByteArray := jdk_52_method_16_code
theorem d0 : decode yB 0 = .ok (.iload_n 2, 1) := by decide +kernel
theorem d1 : decode yB 1 = .ok (.newarray .byte, 2) := by decide +kernel
theorem d3 : decode yB 3 = .ok (.astore_n 3, 1) := by decide +kernel
theorem d4 : decode yB 4 = .ok (.aload_n 0, 1) := by decide +kernel
theorem d5 : decode yB 5 = .ok (.iload_n 1, 1) := by decide +kernel
theorem d6 : decode yB 6 = .ok (.aload_n 3, 1) := by decide +kernel
theorem d7 : decode yB 7 = .ok (.iconst 0, 1) := by decide +kernel
theorem d8 : decode yB 8 = .ok (.iload_n 2, 1) := by decide +kernel
theorem d9 : decode yB 9 = .ok (.invokestatic 115, 3) := by decide +kernel
theorem d12 : decode yB 12 = .ok (.istore 4, 2) := by decide +kernel
theorem d14 : decode yB 14 = .ok (.iload 4, 2) := by decide +kernel
theorem d16 : decode yB 16 = .ok (.iload_n 2, 1) := by decide +kernel
theorem d17 : decode yB 17 = .ok (.if_icmp (.eq) 40, 3) := by decide +kernel
theorem d57 : decode yB 57 = .ok (.aload_n 3, 1) := by decide +kernel
theorem d58 : decode yB 58 = .ok (.areturn, 1) := by decide +kernel
def site : List Cond := [.arrayClass .byte, Cmp5.tab] ++ staticW U16 115 Cmp5.yN
def tab : Cond := tabOf yN yB 6 (some (.array .byte)) site
def P (b : Addr) (A : Cell) (o len : Nat) (args : Array Value) (s : State) : Prop := args = #[.ref b, .int (Int32.ofNat o), .int (Int32.ofNat len)] ∧ Ch b A s ∧ o + len ≤ A.slots.size ∧ len ≤ 536870912 ∧ ∀ i, i < len → ¬ 255 < cv A (o + i)
def E (b : Addr) (A : Cell) (o len : Nat) (r : Option Value) (s u : State) : Prop := NewArr .byte "[B" len (fun j => .int (lo8 (cv A (o + j)))) r s u ∧ u.heap.size = s.heap.size + 1
/-- no char of the range above 255: a new byte[] of their low bytes -/
theorem law (l : Launch) (b : Addr) (A : Cell) (o len : Nat) : Law l yN 3 3 1 18 yB 6 (some (.array .byte)) site (P b A o len) (E b A o len) [] 1 len := by
  refine Law.of_walk (plainFor_of_name (by decide +kernel)) (by decide +kernel) (by decide +kernel) (by decide) (fun _ _ h => by rw [h.1]; rfl) (fun _ U U' hal hh h => ⟨h.1, h.2.1.mv hal hh, h.2.2⟩) (fun r U U' V V' h1 hal h2 h => ⟨NewArr.mv r U U' V V' h1 hal h2 h.1, by rw [h1, h2]; exact h.2⟩) ?_
  intro p e s m args below meth c s₁ X0 hexec hbytes hml hret hlk hnm hown hh0 W hP
  obtain ⟨rfl, hA, l1, l2, hp⟩ := hP
  have a31 := hA.1.2.2.2
  have c1 : Steps p.tables e below (s₁.setTop (entryFrame m #[.ref b, .int (Int32.ofNat o), .int (Int32.ofNat len)] 6)) (s₁.setTop (mkF m 0 #[.val (.ref b), .val (.int (Int32.ofNat o)), .val (.int (Int32.ofNat len)), .unset, .unset, .unset] [])) := entry rfl
  have c2 : Steps p.tables e below (s₁.setTop (entryFrame m #[.ref b, .int (Int32.ofNat o), .int (Int32.ofNat len)] 6)) (s₁.setTop (mkF m 1 #[.val (.ref b), .val (.int (Int32.ofNat o)), .val (.int (Int32.ofNat len)), .unset, .unset, .unset] [.int (Int32.ofNat len)])) := c1.trans (by
    refine XS.iloadN X0.here hexec rfl (hb hbytes d0) rfl ?_
    exact Steps.refl _)
  obtain ⟨T3, B3, X3, ba3, bs3, bv3, bh3, bf3, st3⟩ := X0.anew hexec (atype := .byte) (wk W (.arrayClass .byte)) rfl (by show len * 1 ≤ _; omega) (by omega) (g := (mkF m 1 #[.val (.ref b), .val (.int (Int32.ofNat o)), .val (.int (Int32.ofNat len)), .unset, .unset, .unset] [.int (Int32.ofNat len)])) rfl (hb hbytes d1) (rest := []) rfl (Nat.le_refl _) (by show 0 + len ≤ len; omega)
  rw [hh0] at ba3 st3
  have kp3 : XT.Kept s T3 := (XT.Kept.of_eq hh0).push bh3
  have hA3 := hA.keep X3.warmed.alike (kp3 _ _ hA.1.1)
  have hne : b ≠ s.heap.size := hA.1.ne
  have c4 : Steps p.tables e below (s₁.setTop (entryFrame m #[.ref b, .int (Int32.ofNat o), .int (Int32.ofNat len)] 6)) (T3.setTop (mkF m 3 #[.val (.ref b), .val (.int (Int32.ofNat o)), .val (.int (Int32.ofNat len)), .unset, .unset, .unset] [.ref s.heap.size])) := c2.trans (st3 _ (Steps.refl _))
  have c5 : Steps p.tables e below (s₁.setTop (entryFrame m #[.ref b, .int (Int32.ofNat o), .int (Int32.ofNat len)] 6)) (T3.setTop (mkF m 9 #[.val (.ref b), .val (.int (Int32.ofNat o)), .val (.int (Int32.ofNat len)), .val (.ref s.heap.size), .unset, .unset] [.int (Int32.ofNat len), .int 0, .ref s.heap.size, .int (Int32.ofNat o), .ref b])) := c4.trans (by
    refine XS.astoreN X3.here hexec rfl (hb hbytes d3) rfl rfl rfl ?_
    refine XS.aloadN X3.here hexec rfl (hb hbytes d4) rfl rfl ?_
    refine XS.iloadN X3.here hexec rfl (hb hbytes d5) rfl ?_
    refine XS.aloadN X3.here hexec rfl (hb hbytes d6) rfl rfl ?_
    refine iconstV X3.here hexec rfl 0 (hb hbytes d7) (by decide) ?_
    refine XS.iloadN X3.here hexec rfl (hb hbytes d8) rfl ?_
    exact Steps.refl _)
  obtain ⟨v6, T6, X6, E6, g6⟩ := X3.callS hexec (Cmp5.law l b A s.heap.size B3 o 0 len) hown (wks W (staticW U16 115 Cmp5.yN)) (wk W Cmp5.tab) (W := 0) (Nat.le_of_ble_eq_true rfl) (Nat.le_of_ble_eq_true rfl) (Nat.le_refl _) (by show 0 + len + 0 ≤ len; omega) (g := (mkF m 9 #[.val (.ref b), .val (.int (Int32.ofNat o)), .val (.int (Int32.ofNat len)), .val (.ref s.heap.size), .unset, .unset] [.int (Int32.ofNat len), .int (Int32.ofNat 0), .ref s.heap.size, .int (Int32.ofNat o), .ref b])) rfl (by rw [hml]; rfl) c5 (argsL := [.ref b, .int (Int32.ofNat o), .ref s.heap.size, .int (Int32.ofNat 0), .int (Int32.ofNat len)]) (rest := []) rfl rfl (by show 2 * 0 + 0 ≤ _; decide) (hb hbytes d9) (⟨rfl, hA3, ba3, hne, l1, by rw [bs3]; simp, hp⟩)
  obtain ⟨rfl, B6, p6, f6⟩ := E6
  have c7 : Steps p.tables e below (s₁.setTop (entryFrame m #[.ref b, .int (Int32.ofNat o), .int (Int32.ofNat len)] 6)) (T6.setTop (mkF m 12 #[.val (.ref b), .val (.int (Int32.ofNat o)), .val (.int (Int32.ofNat len)), .val (.ref s.heap.size), .unset, .unset] [.int (Int32.ofNat len)])) := g6
  have c8 : Steps p.tables e below (s₁.setTop (entryFrame m #[.ref b, .int (Int32.ofNat o), .int (Int32.ofNat len)] 6)) (T6.setTop (mkF m 58 #[.val (.ref b), .val (.int (Int32.ofNat o)), .val (.int (Int32.ofNat len)), .val (.ref s.heap.size), .val (.int (Int32.ofNat len)), .unset] [.ref s.heap.size])) := c7.trans (by
    refine XS.istore X6.here hexec rfl (hb hbytes d12) rfl rfl ?_
    refine XS.iload X6.here hexec rfl (hb hbytes d14) rfl ?_
    refine XS.iloadN X6.here hexec rfl (hb hbytes d16) rfl ?_
    refine XS.icmpYes X6.here hexec rfl (pc0 := 17) rfl (hb hbytes d17) rfl (ii_eq_t rfl) (by decide) rfl ?_
    refine XS.aloadN X6.here hexec rfl (hb hbytes d57) rfl rfl ?_
    exact Steps.refl _)
  have X8 := X6.wide (L' := []) (cells' := 1) (slots' := len) (fun x hx hlt => by
    simp only [List.nil_append, copyLocs, List.mem_map, List.mem_range] at hx
    obtain ⟨i, -, rfl⟩ := hx
    exact absurd hlt (Nat.lt_irrefl _)) (Nat.le_refl _) (by omega)
  exact ⟨T6, some (.ref s.heap.size), _, _, _, X8, rfl, rfl, rfl, (fun h => by cases h), ⟨⟨rfl, B6, ba3.like (X3.warmed.alike.symm.trans X6.warmed.alike) p6.1 f6.1 f6.2.1 f6.2.2.1, f6.2.1.trans bv3, by rw [X6.warmed.alike.findClass, f6.1]; exact bf3, by rw [f6.2.2.1, bs3]; simp, fun j hj => by rw [f6.2.2.2 j, if_pos (by omega)]; rfl, kp3.put p6 (Nat.le_refl _)⟩, by rw [p6.2.2, bh3, hh0]; simp⟩, fun fs hl => c8.trans (X8.areturnOut hexec rfl hret rfl (hb hbytes d58) hl)⟩
end Cmp3
namespace CodL
def yN : MethodName := ⟨"java/lang/StringUTF16", "coderFromArrayLen", "([BI)B"⟩
abbrev yB : ByteArray := jdk_52_method_15_code
theorem d0 : decode yB 0 = .ok (.iload_n 1, 1) := by decide +kernel
theorem d1 : decode yB 1 = .ok (.aload_n 0, 1) := by decide +kernel
theorem d2 : decode yB 2 = .ok (.arraylength, 1) := by decide +kernel
theorem d3 : decode yB 3 = .ok (.isub, 1) := by decide +kernel
theorem d4 : decode yB 4 = .ok (.bipush 31, 2) := by decide +kernel
theorem d6 : decode yB 6 = .ok (.iushr, 1) := by decide +kernel
theorem d7 : decode yB 7 = .ok (.i2b, 1) := by decide +kernel
theorem d8 : decode yB 8 = .ok (.ireturn, 1) := by decide +kernel
def site : List Cond := []
def tab : Cond := tabOf yN yB 2 (some .byte) site
def P (d : Addr) (B : Cell) (args : Array Value) (s : State) : Prop := args = #[.ref d, .int (Int32.ofNat B.slots.size)] ∧ Arr .byte d B s
def E (r : Option Value) (s u : State) : Prop := XT.PureE (some (.int 0)) r s u
/-- an array as long as the number of chars: LATIN1 -/
theorem law (l : Launch) (d : Addr) (B : Cell) : Law l yN 2 2 0 0 yB 2 (some .byte) site (P d B) E [] 0 0 := by
  refine Law.of_walk (plainFor_of_name (by decide +kernel)) (by decide +kernel) (by decide +kernel) (by decide) (fun _ _ h => by rw [h.1]; rfl) (fun _ U U' hal hh h => ⟨h.1, h.2.mv hal hh⟩) (fun r U U' V V' h1 hal h2 h => XT.PureE.mv r U U' V V' h1 hal h2 h) ?_
  intro p e s m args below meth c s₁ X0 hexec hbytes hml hret hlk hnm hown hh0 W hP
  obtain ⟨rfl, hB⟩ := hP
  have hB0 := hB.mv X0.warmed.alike hh0
  have c1 : Steps p.tables e below (s₁.setTop (entryFrame m #[.ref d, .int (Int32.ofNat B.slots.size)] 2)) (s₁.setTop (mkF m 0 #[.val (.ref d), .val (.int (Int32.ofNat B.slots.size))] [])) := entry rfl
  have c2 : Steps p.tables e below (s₁.setTop (entryFrame m #[.ref d, .int (Int32.ofNat B.slots.size)] 2)) (s₁.setTop (mkF m 2 #[.val (.ref d), .val (.int (Int32.ofNat B.slots.size))] [.ref d, .int (Int32.ofNat B.slots.size)])) := c1.trans (by
    refine XS.iloadN X0.here hexec rfl (hb hbytes d0) rfl ?_
    refine XS.aloadN X0.here hexec rfl (hb hbytes d1) rfl rfl ?_
    exact Steps.refl _)
  have c3 : Steps p.tables e below (s₁.setTop (entryFrame m #[.ref d, .int (Int32.ofNat B.slots.size)] 2)) (s₁.setTop (mkF m 8 #[.val (.ref d), .val (.int (Int32.ofNat B.slots.size))] [.int (lo8 (ushr (Int32.ofNat B.slots.size - Int32.ofNat B.slots.size) 31))])) := c2.trans (by
    refine X0.alen hexec hB0 rfl rfl (hb hbytes d2) ?_
    refine XS.isub X0.here hexec rfl (hb hbytes d3) rfl ?_
    refine bipushV X0.here hexec rfl 31 (hb hbytes d4) (by decide) ?_
    refine iushr X0.here hexec rfl (hb hbytes d6) rfl ?_
    refine i2b X0.here hexec rfl (hb hbytes d7) rfl ?_
    exact Steps.refl _)
  have e0 : lo8 (ushr (Int32.ofNat B.slots.size - Int32.ofNat B.slots.size) 31) = 0 := by rw [Int32.sub_self]; decide
  rw [e0] at c3
  exact ⟨s₁, some (.int 0), _, _, _, X0, rfl, rfl, rfl, (fun h => by cases h), ⟨rfl, hh0⟩, fun fs hl => c3.trans (X0.ireturnOut hexec hret rfl (Or.inr (Or.inr (Or.inl rfl))) (hb hbytes d8) hl)⟩
end CodL
/-- the String at a is Latin-1 over a new byte[] (the heap's one new cell): the low bytes of the len chars of A from o on; every cell but a is kept -/
def Got (a : Addr) (D : Cell) (fV fC : Field) (A : Cell) (o len : Nat) (r : Option Value) (s u : State) : Prop := r = none ∧ ∃ D' V : Cell, Blank "java/lang/String" a D' u ∧ Same D D' [fV.slot, fC.slot] ∧ D'.slots[fV.slot]? = some (.ref s.heap.size) ∧ D'.slots[fC.slot]? = some (.int 0) ∧ Arr .byte s.heap.size V u ∧ V.vm = .none ∧ u.vm.findClass "[B" = some V.cls ∧ V.slots.size = len ∧ (∀ j, j < len → V.slots[j]? = some (.int (lo8 (cv A (o + j))))) ∧ (∀ (y : Addr) (c : Cell), y ≠ a → s.heap[y]? = some c → u.heap[y]? = some c) ∧ u.heap.size = s.heap.size + 1
theorem Got.mv {a : Addr} {D A : Cell} {fV fC : Field} {o len : Nat} : ∀ r (U U' V V' : State), U'.heap = U.heap → V.vm.Alike V'.vm → V'.heap = V.heap → Got a D fV fC A o len r U V → Got a D fV fC A o len r U' V' :=
  fun r U U' V V' h1 hal h2 ⟨e0, D', X, a1, a2, a3, a4, a5, a6, a7, a8, a9, a10, a11⟩ => ⟨e0, D', X, a1.mv hal h2, a2, by rw [h1]; exact a3, a4, by rw [h1]; exact a5.mv hal h2, a6, by rw [hal.findClass]; exact a7, a8, a9, by rw [h1, h2]; exact a10, by rw [h1, h2]; exact a11⟩
namespace New4
def yN : MethodName := ⟨"java/lang/String", "<init>", "([CIILjava/lang/Void;)V"⟩
abbrev yB : ByteArray := jdk_42_method_149_code
theorem d0 : decode yB 0 = .ok (.aload_n 0, 1) := by decide +kernel
theorem d1 : decode yB 1 = .ok (.invokespecial 1, 3) := by decide +kernel
theorem d4 : decode yB 4 = .ok (.iload_n 3, 1) := by decide +kernel
theorem d5 : decode yB 5 = .ok (.ifCond (.ne) 22, 3) := by decide +kernel
theorem d27 : decode yB 27 = .ok (.getstatic 38, 3) := by decide +kernel
theorem d30 : decode yB 30 = .ok (.ifCond (.eq) 28, 3) := by decide +kernel
theorem d33 : decode yB 33 = .ok (.aload_n 1, 1) := by decide +kernel
theorem d34 : decode yB 34 = .ok (.iload_n 2, 1) := by decide +kernel
theorem d35 : decode yB 35 = .ok (.iload_n 3, 1) := by decide +kernel
theorem d36 : decode yB 36 = .ok (.invokestatic 177, 3) := by decide +kernel
theorem d39 : decode yB 39 = .ok (.astore 5, 2) := by decide +kernel
theorem d41 : decode yB 41 = .ok (.aload_n 0, 1) := by decide +kernel
theorem d42 : decode yB 42 = .ok (.aload 5, 2) := by decide +kernel
theorem d44 : decode yB 44 = .ok (.iload_n 3, 1) := by decide +kernel
theorem d45 : decode yB 45 = .ok (.invokestatic 47, 3) := by decide +kernel
theorem d48 : decode yB 48 = .ok (.putfield 15, 3) := by decide +kernel
theorem d51 : decode yB 51 = .ok (.aload_n 0, 1) := by decide +kernel
theorem d52 : decode yB 52 = .ok (.aload 5, 2) := by decide +kernel
theorem d54 : decode yB 54 = .ok (.putfield 9, 3) := by decide +kernel
theorem d57 : decode yB 57 = .ok (.return_, 1) := by decide +kernel
def site : List Cond := [.fieldLink "java/lang/String" 38 "java/lang/String" "COMPACT_STRINGS" "Z", Cmp3.tab, CodL.tab, .laysFinal "java/lang/String" "java/lang/String" "value" "[B", .fieldLink "java/lang/String" 9 "java/lang/String" "value" "[B", .laysFinal "java/lang/String" "java/lang/String" "coder" "B", .fieldLink "java/lang/String" 15 "java/lang/String" "coder" "B"] ++ objW "java/lang/String" 1 ++ staticW "java/lang/String" 177 Cmp3.yN ++ staticW "java/lang/String" 47 CodL.yN
def tab : Cond := tabOf yN yB 6 none site
def P (a : Addr) (D : Cell) (fV fC : Field) (b : Addr) (A : Cell) (z : Int32) (o len : Nat) (args : Array Value) (s : State) : Prop := args = #[.ref a, .ref b, .int (Int32.ofNat o), .int (Int32.ofNat len), .null] ∧ Blank "java/lang/String" a D s ∧ Found "java/lang/String" "value" "[B" fV s ∧ Found "java/lang/String" "coder" "B" fC s ∧ Ch b A s ∧ StaticIs s "java/lang/String" "COMPACT_STRINGS" "Z" (.int z) ∧ ¬ z = 0 ∧ 0 < len ∧ o + len ≤ A.slots.size ∧ len ≤ 536870912 ∧ ∀ i, i < len → ¬ 255 < cv A (o + i)
def E (a : Addr) (D : Cell) (fV fC : Field) (A : Cell) (o len : Nat) (r : Option Value) (s u : State) : Prop := Got a D fV fC A o len r s u
/-- len > 0, no char of the range above 255: a Latin-1 String of their low bytes -/
theorem law (l : Launch) (a : Addr) (D : Cell) (fV fC : Field) (b : Addr) (A : Cell) (z : Int32) (o len : Nat) : Law l yN 5 4 2 35 yB 6 none site (P a D fV fC b A z o len) (E a D fV fC A o len) [⟨a, fC.slot⟩, ⟨a, fV.slot⟩] 1 len := by
  refine Law.of_walk (plainFor_of_name (by decide +kernel)) (by decide +kernel) (by decide +kernel) (by decide) (fun _ _ h => by rw [h.1]; rfl) (fun _ U U' hal hh h => ⟨h.1, h.2.1.mv hal hh, h.2.2.1.al hal, h.2.2.2.1.al hal, h.2.2.2.2.1.mv hal hh, h.2.2.2.2.2.1.there hal hh, h.2.2.2.2.2.2⟩) (fun r U U' V V' h1 hal h2 h => Got.mv r U U' V V' h1 hal h2 h) ?_
  intro p e s m args below meth c s₁ X0 hexec hbytes hml hret hlk hnm hown hh0 W hP
  obtain ⟨rfl, hB, f1, f2, hA, s1, hz, l0, l1, l2, hp⟩ := hP
  have a31 := hA.1.2.2.2
  have c1 : Steps p.tables e below (s₁.setTop (entryFrame m #[.ref a, .ref b, .int (Int32.ofNat o), .int (Int32.ofNat len), .null] 6)) (s₁.setTop (mkF m 0 #[.val (.ref a), .val (.ref b), .val (.int (Int32.ofNat o)), .val (.int (Int32.ofNat len)), .val .null, .unset] [])) := entry rfl
  have c2 : Steps p.tables e below (s₁.setTop (entryFrame m #[.ref a, .ref b, .int (Int32.ofNat o), .int (Int32.ofNat len), .null] 6)) (s₁.setTop (mkF m 1 #[.val (.ref a), .val (.ref b), .val (.int (Int32.ofNat o)), .val (.int (Int32.ofNat len)), .val .null, .unset] [.ref a])) := c1.trans (by
    refine XS.aloadN X0.here hexec rfl (hb hbytes d0) rfl rfl ?_
    exact Steps.refl _)
  obtain ⟨T3, X3, q3, st3⟩ := X0.oinit hexec hown (wks W (objW "java/lang/String" 1)) (g := (mkF m 1 #[.val (.ref a), .val (.ref b), .val (.int (Int32.ofNat o)), .val (.int (Int32.ofNat len)), .val .null, .unset] [.ref a])) rfl (by rw [hml]; rfl) (rest := []) rfl (hb hbytes d1) (W := 0) (by show 2 * 0 + 0 ≤ _; decide) (Nat.le_of_ble_eq_true rfl) (Nat.le_of_ble_eq_true rfl)
  have hh3 := q3.trans hh0
  have c4 : Steps p.tables e below (s₁.setTop (entryFrame m #[.ref a, .ref b, .int (Int32.ofNat o), .int (Int32.ofNat len), .null] 6)) (T3.setTop (mkF m 27 #[.val (.ref a), .val (.ref b), .val (.int (Int32.ofNat o)), .val (.int (Int32.ofNat len)), .val .null, .unset] [])) := (c2.trans (st3 _ (Steps.refl _))).trans (by
    refine XS.iloadN X3.here hexec rfl (hb hbytes d4) rfl ?_
    refine XS.ifYes X3.here hexec rfl (pc0 := 5) rfl (hb hbytes d5) rfl (i0_ne_t (nz32 (by omega) l0)) (by decide) rfl ?_
    exact Steps.refl _)
  obtain ⟨T5, X5, q5, st5⟩ := X3.sget hexec hown (wk W (.fieldLink "java/lang/String" 38 "java/lang/String" "COMPACT_STRINGS" "Z")) s1 (fun _ _ h => by rw [hh3]; exact h) (g := (mkF m 27 #[.val (.ref a), .val (.ref b), .val (.int (Int32.ofNat o)), .val (.int (Int32.ofNat len)), .val .null, .unset] [])) rfl (hb hbytes d27)
  have hh5 := q5.trans hh3
  have c6 : Steps p.tables e below (s₁.setTop (entryFrame m #[.ref a, .ref b, .int (Int32.ofNat o), .int (Int32.ofNat len), .null] 6)) (T5.setTop (mkF m 30 #[.val (.ref a), .val (.ref b), .val (.int (Int32.ofNat o)), .val (.int (Int32.ofNat len)), .val .null, .unset] [.int z])) := c4.trans (st5 _ (Steps.refl _))
  have c7 : Steps p.tables e below (s₁.setTop (entryFrame m #[.ref a, .ref b, .int (Int32.ofNat o), .int (Int32.ofNat len), .null] 6)) (T5.setTop (mkF m 36 #[.val (.ref a), .val (.ref b), .val (.int (Int32.ofNat o)), .val (.int (Int32.ofNat len)), .val .null, .unset] [.int (Int32.ofNat len), .int (Int32.ofNat o), .ref b])) := c6.trans (by
    refine XS.ifNo X5.here hexec rfl (hb hbytes d30) rfl (i0_eq_f hz) ?_
    refine XS.aloadN X5.here hexec rfl (hb hbytes d33) rfl rfl ?_
    refine XS.iloadN X5.here hexec rfl (hb hbytes d34) rfl ?_
    refine XS.iloadN X5.here hexec rfl (hb hbytes d35) rfl ?_
    exact Steps.refl _)
  obtain ⟨v8, T8, X8, E8, g8⟩ := X5.callS hexec (Cmp3.law l b A o len) hown (wks W (staticW "java/lang/String" 177 Cmp3.yN)) (wk W Cmp3.tab) (W := 0) (Nat.le_of_ble_eq_true rfl) (Nat.le_of_ble_eq_true rfl) (Nat.le_refl _) (by show 0 + len ≤ len; omega) (g := (mkF m 36 #[.val (.ref a), .val (.ref b), .val (.int (Int32.ofNat o)), .val (.int (Int32.ofNat len)), .val .null, .unset] [.int (Int32.ofNat len), .int (Int32.ofNat o), .ref b])) rfl (by rw [hml]; rfl) c7 (argsL := [.ref b, .int (Int32.ofNat o), .int (Int32.ofNat len)]) (rest := []) rfl rfl (by show 2 * 0 + 0 ≤ _; decide) (hb hbytes d36) (⟨rfl, hA.mv X5.warmed.alike hh5, l1, l2, hp⟩)
  obtain ⟨e8, z8⟩ := E8
  obtain ⟨rfl, N, n1, n2, n3, n4, n5, n6⟩ := NewArr.mv _ T5 s _ _ hh5.symm (Vm.Alike.refl _) rfl e8
  rw [hh5] at z8
  have hB1 := hB.keep X8.warmed.alike (n6 _ _ hB.1)
  have hne : s.heap.size ≠ a := (Nat.ne_of_lt (Array.getElem?_eq_some_iff.mp hB.1).1).symm
  have c9 : Steps p.tables e below (s₁.setTop (entryFrame m #[.ref a, .ref b, .int (Int32.ofNat o), .int (Int32.ofNat len), .null] 6)) (T8.setTop (mkF m 39 #[.val (.ref a), .val (.ref b), .val (.int (Int32.ofNat o)), .val (.int (Int32.ofNat len)), .val .null, .unset] [.ref s.heap.size])) := g8
  have c10 : Steps p.tables e below (s₁.setTop (entryFrame m #[.ref a, .ref b, .int (Int32.ofNat o), .int (Int32.ofNat len), .null] 6)) (T8.setTop (mkF m 45 #[.val (.ref a), .val (.ref b), .val (.int (Int32.ofNat o)), .val (.int (Int32.ofNat len)), .val .null, .val (.ref s.heap.size)] [.int (Int32.ofNat N.slots.size), .ref s.heap.size, .ref a])) := by
    have hc : Steps p.tables e below (s₁.setTop (entryFrame m #[.ref a, .ref b, .int (Int32.ofNat o), .int (Int32.ofNat len), .null] 6)) (T8.setTop (mkF m 45 #[.val (.ref a), .val (.ref b), .val (.int (Int32.ofNat o)), .val (.int (Int32.ofNat len)), .val .null, .val (.ref s.heap.size)] [.int (Int32.ofNat len), .ref s.heap.size, .ref a])) := c9.trans (by
      refine XS.astore X8.here hexec rfl (hb hbytes d39) rfl rfl rfl ?_
      refine XS.aloadN X8.here hexec rfl (hb hbytes d41) rfl rfl ?_
      refine XS.aload X8.here hexec rfl (hb hbytes d42) rfl rfl ?_
      refine XS.iloadN X8.here hexec rfl (hb hbytes d44) rfl ?_
      exact Steps.refl _)
    rw [n4]; exact hc
  obtain ⟨v11, T11, X11, E11, g11⟩ := X8.callS hexec (CodL.law l s.heap.size N) hown (wks W (staticW "java/lang/String" 47 CodL.yN)) (wk W CodL.tab) (W := 1) (Nat.le_of_ble_eq_true rfl) (Nat.le_of_ble_eq_true rfl) (Nat.le_refl _) (by show 0 + len + 0 ≤ len; omega) (g := (mkF m 45 #[.val (.ref a), .val (.ref b), .val (.int (Int32.ofNat o)), .val (.int (Int32.ofNat len)), .val .null, .val (.ref s.heap.size)] [.int (Int32.ofNat N.slots.size), .ref s.heap.size, .ref a])) rfl (by rw [hml]; rfl) c10 (argsL := [.ref s.heap.size, .int (Int32.ofNat N.slots.size)]) (rest := [.ref a]) rfl rfl (by show 2 * 0 + (1 + 0) ≤ _; decide) (hb hbytes d45) (⟨rfl, n1⟩)
  obtain ⟨rfl, q11⟩ := E11
  have hB11 := hB1.mv (X8.warmed.alike.symm.trans X11.warmed.alike) q11
  have c12 : Steps p.tables e below (s₁.setTop (entryFrame m #[.ref a, .ref b, .int (Int32.ofNat o), .int (Int32.ofNat len), .null] 6)) (T11.setTop (mkF m 48 #[.val (.ref a), .val (.ref b), .val (.int (Int32.ofNat o)), .val (.int (Int32.ofNat len)), .val .null, .val (.ref s.heap.size)] [.int 0, .ref a])) := g11
  obtain ⟨T13, X13, p13, bl13, sl13, st13⟩ := X11.finit hexec hown (wk W (.fieldLink "java/lang/String" 15 "java/lang/String" "coder" "B")) (Or.inr ⟨_, (wk W (.laysFinal "java/lang/String" "java/lang/String" "coder" "B"))⟩) (Or.inl ⟨rfl, hnm⟩) f2 (Or.inl rfl) hB11 (t := .byte) (by decide +kernel) rfl (g := (mkF m 48 #[.val (.ref a), .val (.ref b), .val (.int (Int32.ofNat o)), .val (.int (Int32.ofNat len)), .val .null, .val (.ref s.heap.size)] [.int 0, .ref a])) rfl (rest := []) rfl (hb hbytes d48)
  have c14 : Steps p.tables e below (s₁.setTop (entryFrame m #[.ref a, .ref b, .int (Int32.ofNat o), .int (Int32.ofNat len), .null] 6)) (T13.setTop (mkF m 54 #[.val (.ref a), .val (.ref b), .val (.int (Int32.ofNat o)), .val (.int (Int32.ofNat len)), .val .null, .val (.ref s.heap.size)] [.ref s.heap.size, .ref a])) := (c12.trans (st13 _ (Steps.refl _))).trans (by
    refine XS.aloadN X13.here hexec rfl (hb hbytes d51) rfl rfl ?_
    refine XS.aload X13.here hexec rfl (hb hbytes d52) rfl rfl ?_
    exact Steps.refl _)
  obtain ⟨T15, X15, p15, bl15, sl15, st15⟩ := X13.finit hexec hown (wk W (.fieldLink "java/lang/String" 9 "java/lang/String" "value" "[B")) (Or.inr ⟨_, (wk W (.laysFinal "java/lang/String" "java/lang/String" "value" "[B"))⟩) (Or.inl ⟨rfl, hnm⟩) f1 (Or.inl rfl) bl13 (t := (.array .byte)) (by decide +kernel) rfl (g := (mkF m 54 #[.val (.ref a), .val (.ref b), .val (.int (Int32.ofNat o)), .val (.int (Int32.ofNat len)), .val .null, .val (.ref s.heap.size)] [.ref s.heap.size, .ref a])) rfl (rest := []) rfl (hb hbytes d54)
  have c16 : Steps p.tables e below (s₁.setTop (entryFrame m #[.ref a, .ref b, .int (Int32.ofNat o), .int (Int32.ofNat len), .null] 6)) (T15.setTop (mkF m 57 #[.val (.ref a), .val (.ref b), .val (.int (Int32.ofNat o)), .val (.int (Int32.ofNat len)), .val .null, .val (.ref s.heap.size)] [])) := c14.trans (st15 _ (Steps.refl _))
  have ap := apart (Or.inr ⟨_, (wk W (.laysFinal "java/lang/String" "java/lang/String" "value" "[B"))⟩) (Or.inr ⟨_, (wk W (.laysFinal "java/lang/String" "java/lang/String" "coder" "B"))⟩) f1 f2 (t₁ := .array .byte) (t₂ := .byte) (by decide +kernel) (by decide +kernel) (by decide)
  have al := X8.warmed.alike.symm.trans X15.warmed.alike
  have n7 : T11.heap[s.heap.size]? = some N := by rw [q11]; exact n1.1
  exact ⟨T15, none, _, _, _, X15, by simp, rfl, by omega, (fun _ => rfl), ⟨rfl, _, N, bl15, ((Same.refl D _).set _ (by simp)).set _ (by simp), sl15, (Cell.slots_setSlot_ne _ ap).trans sl13, n1.keep al (p15.other hne (p13.other hne n7)), n2, by rw [al.findClass]; exact n3, n4, n5, fun y c h1 h2 => p15.other h1 (p13.other h1 (by rw [q11]; exact n6 y c h2)), by rw [p15.2.2, p13.2.2, q11]; exact z8⟩, fun fs hl => c16.trans (X15.returnOut hexec hret (hb hbytes d57) hl)⟩
end New4
namespace New1
def yN : MethodName := ⟨"java/lang/String", "<init>", "([C)V"⟩
abbrev yB : ByteArray := jdk_42_method_3_code
theorem d0 : decode yB 0 = .ok (.aload_n 0, 1) := by decide +kernel
theorem d1 : decode yB 1 = .ok (.aload_n 1, 1) := by decide +kernel
theorem d2 : decode yB 2 = .ok (.iconst 0, 1) := by decide +kernel
theorem d3 : decode yB 3 = .ok (.aload_n 1, 1) := by decide +kernel
theorem d4 : decode yB 4 = .ok (.arraylength, 1) := by decide +kernel
theorem d5 : decode yB 5 = .ok (.aconst_null, 1) := by decide +kernel
theorem d6 : decode yB 6 = .ok (.invokespecial 27, 3) := by decide +kernel
theorem d9 : decode yB 9 = .ok (.return_, 1) := by decide +kernel
def site : List Cond := [New4.tab] ++ initW "java/lang/String" 27 New4.yN
def tab : Cond := tabOf yN yB 2 none site
def P (a : Addr) (D : Cell) (fV fC : Field) (b : Addr) (A : Cell) (z : Int32) (args : Array Value) (s : State) : Prop := args = #[.ref a, .ref b] ∧ Blank "java/lang/String" a D s ∧ Found "java/lang/String" "value" "[B" fV s ∧ Found "java/lang/String" "coder" "B" fC s ∧ Ch b A s ∧ StaticIs s "java/lang/String" "COMPACT_STRINGS" "Z" (.int z) ∧ ¬ z = 0 ∧ 0 < A.slots.size ∧ A.slots.size ≤ 536870912 ∧ ∀ i, i < A.slots.size → ¬ 255 < cv A i
def E (a : Addr) (D : Cell) (fV fC : Field) (A : Cell) (r : Option Value) (s u : State) : Prop := Got a D fV fC A 0 A.slots.size r s u
/-- new String(chars), not empty, no char above 255: a Latin-1 String of their low bytes -/
theorem law (l : Launch) (a : Addr) (D : Cell) (fV fC : Field) (b : Addr) (A : Cell) (z : Int32) : Law l yN 2 1 3 52 yB 2 none site (P a D fV fC b A z) (E a D fV fC A) [⟨a, fC.slot⟩, ⟨a, fV.slot⟩] 1 A.slots.size := by
  refine Law.of_walk (plainFor_of_name (by decide +kernel)) (by decide +kernel) (by decide +kernel) (by decide) (fun _ _ h => by rw [h.1]; rfl) (fun _ U U' hal hh h => ⟨h.1, h.2.1.mv hal hh, h.2.2.1.al hal, h.2.2.2.1.al hal, h.2.2.2.2.1.mv hal hh, h.2.2.2.2.2.1.there hal hh, h.2.2.2.2.2.2⟩) (fun r U U' V V' h1 hal h2 h => Got.mv r U U' V V' h1 hal h2 h) ?_
  intro p e s m args below meth c s₁ X0 hexec hbytes hml hret hlk hnm hown hh0 W hP
  obtain ⟨rfl, hB, f1, f2, hA, s1, hz, l0, l2, hp⟩ := hP
  have c1 : Steps p.tables e below (s₁.setTop (entryFrame m #[.ref a, .ref b] 2)) (s₁.setTop (mkF m 0 #[.val (.ref a), .val (.ref b)] [])) := entry rfl
  have c2 : Steps p.tables e below (s₁.setTop (entryFrame m #[.ref a, .ref b] 2)) (s₁.setTop (mkF m 6 #[.val (.ref a), .val (.ref b)] [.null, .int (Int32.ofNat A.slots.size), .int 0, .ref b, .ref a])) := c1.trans (by
    refine XS.aloadN X0.here hexec rfl (hb hbytes d0) rfl rfl ?_
    refine XS.aloadN X0.here hexec rfl (hb hbytes d1) rfl rfl ?_
    refine iconstV X0.here hexec rfl 0 (hb hbytes d2) (by decide) ?_
    refine XS.aloadN X0.here hexec rfl (hb hbytes d3) rfl rfl ?_
    refine X0.alen hexec (hA.1.mv X0.warmed.alike hh0) rfl rfl (hb hbytes d4) ?_
    refine XS.aconstNull X0.here hexec rfl (hb hbytes d5) ?_
    exact Steps.refl _)
  obtain ⟨v3, T3, X3, E3, g3⟩ := X0.callN hexec (New4.law l a D fV fC b A z 0 A.slots.size) rfl hown (wks W (initW "java/lang/String" 27 New4.yN)) (W New4.tab (by simp only [site, List.mem_cons, List.mem_append, true_or, or_true])) (W := 0) (Nat.le_of_ble_eq_true rfl) (Nat.le_of_ble_eq_true rfl) (Nat.le_refl _) (by show 0 + A.slots.size ≤ A.slots.size; omega) (g := (mkF m 6 #[.val (.ref a), .val (.ref b)] [.null, .int (Int32.ofNat A.slots.size), .int (Int32.ofNat 0), .ref b, .ref a])) rfl (by rw [hml]; rfl) c2 (argsL := [.ref b, .int (Int32.ofNat 0), .int (Int32.ofNat A.slots.size), .null]) (rest := []) rfl rfl (by show 2 * 0 + 0 ≤ _; decide) (hb hbytes d6) (⟨rfl, hB.mv X0.warmed.alike hh0, f1.al X0.warmed.alike, f2.al X0.warmed.alike, hA.mv X0.warmed.alike hh0, s1.there X0.warmed.alike hh0, hz, l0, by omega, l2, fun i hi => by rw [Nat.zero_add]; exact hp i hi⟩)
  have e0 := Got.mv _ s₁ s _ _ hh0.symm (Vm.Alike.refl _) rfl E3
  obtain rfl := e0.1
  have c4 : Steps p.tables e below (s₁.setTop (entryFrame m #[.ref a, .ref b] 2)) (T3.setTop (mkF m 9 #[.val (.ref a), .val (.ref b)] [])) := g3
  exact ⟨T3, none, _, _, _, X3, by simp, rfl, by omega, (fun _ => rfl), e0, fun fs hl => c4.trans (X3.returnOut hexec hret (hb hbytes d9) hl)⟩
theorem pays {l : Launch} {R : Room} {p : Program} {e : Env} {below : List Frame} {s : State} {sargs : Array Value} {len W : Nat} (a : Addr) (D : Cell) (fV fC : Field) (b : Addr) (A : Cell) (z : Int32) (htab : tab.before sargs s = true) (hfr : 4 ≤ R.frames) (hlo : W + 65 ≤ R.locals) :
    Back l R p e below s sargs yN len W (fun A₁ a₁ => A₁.cells + 1 ≤ R.cells ∧ A₁.slots + A.slots.size ≤ R.slots ∧ P a D fV fC b A z a₁ A₁.U) (fun A₁ _ v₁ B₁ => E a D fV fC A v₁ A₁.U B₁.U ∧ B₁.locs = A₁.locs ++ [⟨a, fC.slot⟩, ⟨a, fV.slot⟩] ∧ B₁.cells = A₁.cells + 1 ∧ B₁.slots = A₁.slots + A.slots.size) :=
  (law l a D fV fC b A z).pays htab hfr (by omega)
end New1
end StrChars
namespace StrChars.Road
open Jvm Sem ClassFile Op Lib Jvm.Stand Jvm.Free Jvm.Free.XT
open Jvm.Lib.Cold (StaticIs)
abbrev ST : String := "java/lang/String"
/-- every table word that New1's law asks, flat -/
abbrev words : List Jvm.Cond := [.code New1.yN New1.yB 2 none, .initialized ST, .methodLink ST 27 New4.yN, .instanceMethod New4.yN,
  .code New4.yN New4.yB 6 none, .fieldLink ST 38 ST "COMPACT_STRINGS" "Z", .laysFinal ST ST "value" "[B", .fieldLink ST 9 ST "value" "[B", .laysFinal ST ST "coder" "B", .fieldLink ST 15 ST "coder" "B",
  .methodLink ST 1 Lib.objectInit, .instanceMethod Lib.objectInit, .code Lib.objectInit ⟨#[0xb1]⟩ 1 none, .methodLink ST 177 Cmp3.yN, .static Cmp3.yN, .methodLink ST 47 CodL.yN, .static CodL.yN,
  .code Cmp3.yN Cmp3.yB 6 (some (.array .byte)), .initialized U16, .arrayClass .byte, .methodLink U16 115 Cmp5.yN, .static Cmp5.yN, .code Cmp5.yN Cmp5.yB 7 (some .int), .code CodL.yN CodL.yB 2 (some .byte)]
theorem tab_of {a : Array Value} {s : State} (h : ∀ w ∈ words, w.before a s = true) : New1.tab.before a s = true := by
  have h5 : Cmp5.tab.before a s = true := unparts (wk h (.code Cmp5.yN Cmp5.yB 7 (some .int))) (wks h (.initialized Cmp5.yN.cls :: Cmp5.site))
  have hc : CodL.tab.before a s = true := unparts (wk h (.code CodL.yN CodL.yB 2 (some .byte))) (wks h (.initialized CodL.yN.cls :: CodL.site))
  have q5 : ∀ w ∈ Cmp5.tab :: words, w.before a s = true := fun w hw => (List.mem_cons.mp hw).elim (fun e => e ▸ h5) (h w)
  have h3 : Cmp3.tab.before a s = true := unparts (wk q5 (.code Cmp3.yN Cmp3.yB 6 (some (.array .byte)))) (wks q5 (.initialized Cmp3.yN.cls :: Cmp3.site))
  have q3 : ∀ w ∈ Cmp3.tab :: CodL.tab :: words, w.before a s = true := fun w hw => (List.mem_cons.mp hw).elim (fun e => e ▸ h3) fun hw => (List.mem_cons.mp hw).elim (fun e => e ▸ hc) (h w)
  have h4 : New4.tab.before a s = true := unparts (wk q3 (.code New4.yN New4.yB 6 none)) (wks q3 (.initialized New4.yN.cls :: New4.site))
  have q4 : ∀ w ∈ New4.tab :: words, w.before a s = true := fun w hw => (List.mem_cons.mp hw).elim (fun e => e ▸ h4) (h w)
  exact unparts (wk q4 (.code New1.yN New1.yB 2 none)) (wks q4 (.initialized New1.yN.cls :: New1.site))
/-- the words ride from the start Z to the walk's own state -/
theorem moved {Z s : State} {a0 args : Array Value} (hZ : Z.Warmed39 s.vm) (hw : ∀ d ∈ words, d.before a0 Z = true) : ∀ d ∈ words, d.before args s = true := fun d hd => by
  have q := hw d hd
  have t : ∀ d ∈ words, d = .arrayClass .byte ∨ (d.onTables && d.keepsFace) = true := by decide +kernel
  rcases t d hd with rfl | t
  · exact RoadKit.mvA hZ q
  · exact RoadKit.mv hZ q t
/-- WHAT COMES BACK, over the tables of the start Z: h the heap at the call, h' behind it -/
def Q (Z : State) (x : Addr) (A : Cell) (h : Heap) (v : Option Value) (h' : Heap) (L : List Loc) : Prop := v = none ∧ (∀ y ∈ L, y.base = x) ∧ RoadKit.Keep h h' [x] ∧ h'.size = h.size + 1 ∧ RoadKit.Exa Z h' x ST ∧ RoadKit.Fld Z h' x ST "value" "[B" (.ref h.size) ∧ RoadKit.Fld Z h' x ST "coder" "B" (.int 0) ∧
  (∃ V : Cell, RoadKit.Arr Z h' h.size V .byte ∧ V.vm = .none ∧ Z.vm.findClass "[B" = some V.cls ∧ V.slots.size = A.slots.size ∧ ∀ j, j < A.slots.size → V.slots[j]? = some (.int (lo8 (cv A j)))) ∧
  ∀ (O n d : String) (w : Value), RoadKit.Fld Z h x O n d w → RoadKit.slotOf Z O n d ≠ RoadKit.slotOf Z ST "value" "[B" → RoadKit.slotOf Z O n d ≠ RoadKit.slotOf Z ST "coder" "B" → RoadKit.Fld Z h' x O n d w
/-- **new String(chars) AT A CALL, IN THE ROAD'S FORM**: for specialBack behind newO: x the fresh String, b the char[] with the cell A -/
theorem back {p : Program} {l : Launch} {e : Env} {R : Room} {s : State} {args : Array Value} {below : List Frame} {len W : Nat} {Z : State} {a0 : Array Value} {h : Heap} (hZ : Z.Warmed39 s.vm) (hw : ∀ d ∈ words, d.before a0 Z = true) {kI : Nat} (wi : (Jvm.Cond.instantiable ST kI).before a0 Z = true)
    {x b : Addr} {A : Cell} {z : Int32} {v0 c0 : Value} (E : RoadKit.Exa Z h x ST) (V : RoadKit.Fld Z h x ST "value" "[B" v0) (C : RoadKit.Fld Z h x ST "coder" "B" c0) (K : RoadKit.Arr Z h b A .char) (hty : Typed .char A) (S : RoadKit.Sta Z h ST "COMPACT_STRINGS" "Z" (.int z)) (hz : ¬ z = 0)
    (l0 : 0 < A.slots.size) (l2 : A.slots.size ≤ 536870912) (hp : ∀ i, i < A.slots.size → ¬ 255 < cv A i) (hfr : 4 ≤ R.frames) (hlo : W + 65 ≤ R.locals) :
    Back l R p e below s args New1.yN len W (fun P a => a = #[.ref x, .ref b] ∧ P.U.heap = h ∧ P.cells + 1 ≤ R.cells ∧ P.slots + A.slots.size ≤ R.slots)
      (fun P _ v B => ∃ L, Q Z x A h v B.U.heap L ∧ B.locs = P.locs ++ L ∧ B.cells = P.cells + 1 ∧ B.slots = P.slots + A.slots.size) := by
  intro m meth c P g ig mk a X hg hsize hdg hW hn hp'
  obtain ⟨rfl, rfl, r1, r2⟩ := hp'
  have al : Z.vm.Alike P.U.vm := hZ.alike.trans X.warmed.alike
  obtain ⟨D, cfV, kV, iV, fV, hD, gV, stV, knV, obV, asV, slV⟩ := id V
  obtain ⟨D', cfC, kC, iC, fC, hD', gC, stC, -, -, asC, slC⟩ := id C
  cases hD.symm.trans hD'
  obtain ⟨D2, kD, e1, e2, e3, e4, e5⟩ := id E
  cases hD.symm.trans e1
  obtain ⟨c2, k2, i1, i2, i3, -⟩ := Cond.instantiable_spec wi
  cases e2.symm.trans i1
  cases e3.symm.trans i2
  obtain ⟨kU, u1, u2⟩ := al.2.2 _ _ e3
  have hB : Blank ST x D P.U := ⟨hD, ⟨knV, fun q hq => by rw [hq] at obV; cases obV⟩, by rw [al.findClass]; exact e2, kU, u1, by rw [u2]; exact i3, by rw [u2]; exact e5 i3⟩
  have F1 : Found ST "value" "[B" fV P.U := ⟨SBG.found_only al ⟨cfV, kV, iV, gV⟩, stV⟩
  have F2 : Found ST "coder" "B" fC P.U := ⟨SBG.found_only al ⟨cfC, kC, iC, gC⟩, stC⟩
  have hA : Ch b A P.U := ⟨⟨K.1, State.isArrayOf_alike al K.2.1, K.2.2, by omega⟩, hty⟩
  have hS : StaticIs P.U ST "COMPACT_STRINGS" "Z" (.int z) := by
    obtain ⟨cfS, iS, kS, fS, st, cS, t1, t2, t3, t4, t5, t6, t7⟩ := S
    exact StaticIs.there (s := { Z with heap := P.U.heap }) ⟨cfS, iS, kS, fS, st, cS, t1, t2, t3, t4, t5, (fun q => by rw [q] at t6; cases t6), t7⟩ al rfl
  obtain ⟨v, B, X', ⟨⟨hv, E', V', q1, q2, q3, q4, q5, q6, q7, q8, q9, q10, q11⟩, hl, hc, hs⟩, st⟩ := New1.pays x D fV fC b A z (tab_of (moved hZ hw)) hfr hlo m meth c P g ig mk _ X hg hsize hdg hW hn ⟨r1, r2, rfl, hB, F1, F2, hA, hS, hz, l0, l2, hp⟩
  have al' : Z.vm.Alike B.U.vm := hZ.alike.trans X'.warmed.alike
  have hsz : E'.slots.size = D.slots.size := by
    obtain ⟨-, -, -, kB, w1, w2, w3⟩ := q1
    obtain ⟨kB', y1, y2⟩ := al'.2.2 _ _ e3
    rw [q2.2.1] at w1
    cases w1.symm.trans y1
    rw [w3, e5 i3, y2]
  refine ⟨v, B, X', ⟨_, ⟨hv, ?_, ⟨by omega, fun y cy hy hn' => q10 y cy (by simpa using hn') hy, fun y cy hy => ?_⟩, q11, ⟨E', _, q1.1, by rw [q2.2.1]; exact e2, by rw [q2.2.1]; exact e3, by rw [q2.1]; exact obV, fun _ => by rw [hsz]; exact e5 i3⟩,
    ⟨E', cfV, kV, iV, fV, q1.1, gV, stV, by rw [q2.1]; exact knV, by rw [q2.1]; exact obV, by rw [q2.2.1]; exact asV, q3⟩, ⟨E', cfC, kC, iC, fC, q1.1, gC, stC, by rw [q2.1]; exact knV, by rw [q2.1]; exact obV, by rw [q2.2.1]; exact asC, q4⟩,
    ⟨V', ⟨q5.1, State.isArrayOf_alike al'.symm q5.2.1, q5.2.2.1⟩, q6, by rw [← al'.findClass]; exact q7, q8, fun j hj => by have := q9 j hj; rwa [Nat.zero_add] at this⟩, fun O n d w F n1 n2 => ?_⟩, hl, hc, hs⟩, st⟩
  · intro y hy
    simp only [List.mem_cons, List.not_mem_nil, or_false] at hy
    rcases hy with rfl | rfl <;> rfl
  · by_cases q : y = x
    · subst q
      cases hD.symm.trans hy
      exact ⟨E', q1.1, q2.2.1, q2.1, hsz⟩
    · exact ⟨cy, q10 y cy q hy, rfl, rfl, rfl⟩
  · obtain ⟨D3, cf, k, i, f, g1, g2, g3, g4, g5, g6, g7⟩ := F
    cases hD.symm.trans g1
    simp only [RoadKit.slotOf, g2, gV, gC, Option.map_some, Option.getD_some] at n1 n2
    exact ⟨E', cf, k, i, f, q1.1, g2, g3, by rw [q2.1]; exact g4, by rw [q2.1]; exact g5, by rw [q2.2.1]; exact g6, by rw [q2.2.2 f.slot (by simp [n1, n2])]; exact g7⟩
end StrChars.Road
namespace StrChars.Road
open Jvm Sem ClassFile Op Lib Jvm.Stand Jvm.Free Jvm.Free.XT
/-- WHAT COMES BACK, the byte[] as a list of values -/
def QA (Z : State) (x : Addr) (zn : Int32) (cs : List Int32) (h : Heap) (v : Option Value) (h' : Heap) (L : List Loc) : Prop := v = none ∧ (∀ y ∈ L, y.base = x) ∧ RoadKit.Keep h h' [x] ∧ h'.size = h.size + 1 ∧ RoadKit.Exa Z h' x ST ∧ RoadKit.Fld Z h' x ST "value" "[B" (.ref h.size) ∧ RoadKit.Fld Z h' x ST "coder" "B" (.int 0) ∧
  (∃ kb, Z.vm.findClass "[B" = some kb ∧ RoadKit.Arv Z h' h.size kb .byte zn (cs.map fun c => .int (lo8 c)) (.int 0)) ∧
  ∀ (O n d : String) (w : Value), RoadKit.Fld Z h x O n d w → RoadKit.slotOf Z O n d ≠ RoadKit.slotOf Z ST "value" "[B" → RoadKit.slotOf Z O n d ≠ RoadKit.slotOf Z ST "coder" "B" → RoadKit.Fld Z h' x O n d w
/-- **new String(chars) AT A CALL, THE ARRAYS AS LISTS**: the char[] at b holds cs, not empty, no char above 255 -/
theorem backArv {p : Program} {l : Launch} {e : Env} {R : Room} {s : State} {args : Array Value} {below : List Frame} {len W : Nat} {Z : State} {a0 : Array Value} {h : Heap} (hZ : Z.Warmed39 s.vm) (hw : ∀ d ∈ words, d.before a0 Z = true) {kI : Nat} (wi : (Jvm.Cond.instantiable ST kI).before a0 Z = true)
    {x b : Addr} {k : ClassId} {zn z : Int32} {cs : List Int32} {dv v0 c0 : Value} (E : RoadKit.Exa Z h x ST) (V : RoadKit.Fld Z h x ST "value" "[B" v0) (C : RoadKit.Fld Z h x ST "coder" "B" c0) (K : RoadKit.Arv Z h b k .char zn (cs.map Value.int) dv) (S : RoadKit.Sta Z h ST "COMPACT_STRINGS" "Z" (.int z)) (hz : ¬ z = 0)
    (hlen : zn.toNatClampNeg = cs.length) (h0 : 0 < cs.length) (hbig : cs.length ≤ 536870912) (hall : ∀ c ∈ cs, ¬ 255 < c) (hfr : 4 ≤ R.frames) (hlo : W + 65 ≤ R.locals) :
    Back l R p e below s args New1.yN len W (fun P a => a = #[.ref x, .ref b] ∧ P.U.heap = h ∧ P.cells + 1 ≤ R.cells ∧ P.slots + cs.length ≤ R.slots)
      (fun P _ v B => ∃ L, QA Z x zn cs h v B.U.heap L ∧ B.locs = P.locs ++ L ∧ B.cells = P.cells + 1 ∧ B.slots = P.slots + cs.length) := by
  obtain ⟨A, K1, K2, K3, K4, K5, K6⟩ := K
  have e : A.slots.size = cs.length := K3.trans hlen
  have hat : ∀ (i : Nat) (hi : i < cs.length), A.slots[i]? = some (.int cs[i]) := fun i hi => by rw [K5 i (by omega)]; simp [List.getD_eq_getElem?_getD, hi]
  have hcv : ∀ (i : Nat) (hi : i < cs.length), cv A i = cs[i] := fun i hi => by unfold cv; rw [hat i hi]
  have hty : Typed .char A := fun i v hv => by
    have hi : i < A.slots.size := (Array.getElem?_eq_some_iff.mp hv).1
    have q := K5 i hi
    rw [hv] at q
    rw [Option.some.inj q]
    exact K6 i hi
  refine Back.mono (back hZ hw wi E V C K1 hty S hz (by omega) (by omega) (fun i hi => by rw [hcv i (by omega)]; exact hall _ (List.getElem_mem _)) hfr hlo) (fun P a hp => ⟨hp.1, hp.2.1, hp.2.2.1, by rw [e]; exact hp.2.2.2⟩) (fun P a v B hp hq => ?_)
  obtain ⟨L, ⟨q1, q2, q3, q4, q5, q6, q7, ⟨V', v1, v2, v3, v4, v5⟩, q9⟩, hl, hc, hs⟩ := hq
  refine ⟨L, ⟨q1, q2, q3, q4, q5, q6, q7, ⟨V'.cls, v3, V', v1, rfl, by rw [v4, e, hlen], K4, fun i hi => ?_, fun i hi => ?_⟩, q9⟩, hl, hc, by rw [hs, e]⟩
  · have hi' : i < cs.length := by omega
    rw [v5 i (by omega), hcv i hi']; simp [List.getD_eq_getElem?_getD, hi']
  · have hi' : i < cs.length := by omega
    simp only [List.getD_eq_getElem?_getD, List.getElem?_map, List.getElem?_eq_getElem hi', Option.map_some, Option.getD_some]
    exact fits_lo8 _
end StrChars.Road
namespace StrChars.Road
open Jvm Sem ClassFile Op Lib Jvm.Stand Jvm.Free Jvm.Free.XT
/-- WHAT COMES BACK, in the writer's own shape -/
def QV (Z : State) (x : Addr) (N : Int32) (bs : List Int32) (h : Heap) (n0 : Nat) (v : Option Value) (h' : Heap) (L : List Loc) : Prop := v = none ∧ RoadKit.Fr n0 L ∧ RoadKit.Keep h h' [x] ∧ RoadKit.Exa Z h' x ST ∧ RoadKit.Fld Z h' x ST "coder" "B" (.int 0) ∧
  ∃ (t : Addr) (kb : ClassId), n0 ≤ t ∧ h.size ≤ t ∧ ¬ t = x ∧ RoadKit.Fld Z h' x ST "value" "[B" (.ref t) ∧ RoadKit.Arv Z h' t kb .byte N (bs.map Value.int) (.int 0)
/-- **new String(chars) AT A CALL, FOR THE WRITER**: a char[] of n known ints, each 0 to 255 -/
theorem backV {p : Program} {l : Launch} {e : Env} {R : Room} {s : State} {args : Array Value} {below : List Frame} {len W : Nat} {Z : State} {a0 : Array Value} {h : Heap} (hZ : Z.Warmed39 s.vm) (hw : ∀ d ∈ words, d.before a0 Z = true) {kI : Nat} (wi : (Jvm.Cond.instantiable ST kI).before a0 Z = true)
    {x b : Addr} {kC : ClassId} {cs bs : List Int32} {d v0 c0 : Value} {z N : Int32} {n n0 : Nat} (hx0 : n0 ≤ x) (hh0 : n0 ≤ h.size) (E : RoadKit.Exa Z h x ST) (V : RoadKit.Fld Z h x ST "value" "[B" v0) (C : RoadKit.Fld Z h x ST "coder" "B" c0) (K : RoadKit.Arv Z h b kC .char N (cs.map Value.int) d) (S : RoadKit.Sta Z h ST "COMPACT_STRINGS" "Z" (.int z)) (hz : ¬ z = 0)
    (hn : cs.length = n) (hN : N = Int32.ofNat n) (l0 : 0 < n) (l2 : n ≤ 4000) (hp : ∀ c ∈ cs, ¬ c < 0 ∧ ¬ (255 : Int32) < c) (hb : bs = cs.map (fun c => c.toInt8.toInt32)) (hfr : 4 ≤ R.frames) (hlo : W + 65 ≤ R.locals) :
    Back l R p e below s args (⟨"java/lang/String", "<init>", "([C)V"⟩ : MethodName) len W (fun P a => a = #[.ref x, .ref b] ∧ P.U.heap = h ∧ P.cells + 1 ≤ R.cells ∧ P.slots + n ≤ R.slots)
      (fun P _ v B => ∃ L, QV Z x N bs h n0 v B.U.heap L ∧ B.locs = P.locs ++ L ∧ B.cells = P.cells + 1 ∧ B.slots = P.slots + n) := by
  subst hn hN hb
  refine Back.mono (backArv hZ hw wi E V C K S hz (n32 (by omega)) l0 (by omega) (fun c hc => (hp c hc).2) hfr hlo) (fun P a hp => hp) (fun P a v B hp hq => ?_)
  obtain ⟨L, ⟨q1, q2, q3, q4, q5, q6, q7, ⟨kb, v1, v2⟩, q9⟩, hl, hc, hs⟩ := hq
  exact ⟨L, ⟨q1, fun y hy => by rw [q2 y hy]; exact hx0, q3, q5, q7, h.size, kb, hh0, Nat.le_refl _, Nat.ne_of_gt E.lt, q6, by rw [List.map_map]; exact v2⟩, hl, hc, hs⟩
end StrChars.Road
end Jvm.Pilot.@@N@@
namespace Jvm.Pilot.@@N@@
open Jvm Jvm.ClassFile Sem Op Lib Jvm.Free Jvm.Stand Jvm.LawKit Jvm.RoadKit Bundle Jvm.Pilot.@@N@@.Jvm.D
namespace Wk
open Jvm Jvm.ClassFile Sem Op Lib Jvm.Free Jvm.Stand Jvm.LawKit Jvm.RoadKit
/-- the fixed part of a walk: program, environment, the state at the invocation, the method, its arguments, the frames below, the method's record, its code -/
abbrev Wd : Type := Program × Env × State × MethodId × Array Value × List Frame × Method × Code
abbrev Wd.p (W : Wd) : Program := W.1
abbrev Wd.e (W : Wd) : Env := W.2.1
abbrev Wd.s (W : Wd) : State := W.2.2.1
abbrev Wd.m (W : Wd) : MethodId := W.2.2.2.1
abbrev Wd.a (W : Wd) : Array Value := W.2.2.2.2.1
abbrev Wd.b (W : Wd) : List Frame := W.2.2.2.2.2.1
abbrev Wd.t (W : Wd) : Method := W.2.2.2.2.2.2.1
abbrev Wd.c (W : Wd) : Code := W.2.2.2.2.2.2.2
abbrev Post : Type := Option Value → Heap → Prop
def Go (R : Room) (Z : State) (W : Wd) (Q : Post) (A : State) : Prop :=
  ∃ s₂ o, Steps W.p.tables W.e W.b A s₂ ∧ s₂.status = .running ∧ Ended s₂ W.b o ∧ ∃ v L, o = .returned v ∧ (Q v s₂.heap ∧ Ext Z.heap s₂.heap ∧ Fr Z.heap.size L) ∧ FrameEnd W.s o s₂ L R.cells R.slots
abbrev Std (l : Launch) (R : Room) (W : Wd) (T : State) (locs : List Loc) (k n : Nat) : Prop := Stand W.p l W.e R W.s W.m W.a W.b W.t W.c T locs k n
def Run (l : Launch) (R : Room) (Z : State) (W : Wd) (Q : Post) (h : Heap) (k n : Nat) (f : JFrame) : Prop :=
  ∀ T locs, Std l R W T locs k n → T.heap = h → Fr Z.heap.size locs → Ext Z.heap h → Go R Z W Q (T.setTop f)
def Cx (Z : State) (W : Wd) (own nm : String) (code : ByteArray) (maxL : Nat) (ret : Option FieldType) : Prop :=
  W.p.tables.exec = Jvm.exec ∧ W.c.code = code ∧ W.c.maxLocals = maxL ∧ W.s.vm.findClass own = some W.m.cls ∧ Z.Warmed39 W.s.vm ∧ W.t.sig.returnType = ret ∧ W.t.name = nm ∧ W.t.locks = false ∧ W.s.vm.MethodsKnown ∧ W.s.vm.FramesKnown W.b ∧ Ext Z.heap W.s.heap
section Kit
variable {l : Launch} {R : Room} {Z : State} {W : Wd} {Q : Post} {h : Heap} {k n : Nat} {own nm : String} {code : ByteArray} {maxL : Nat} {ret : Option FieldType} {a0 : Array Value} {pc pc' : Nat} {Ls : Array Slot} {st : List Value}
theorem Cx.hx (C : Cx Z W own nm code maxL ret) : W.p.tables.exec = Jvm.exec := C.1
theorem Cx.hb (C : Cx Z W own nm code maxL ret) {pc : Nat} {r : Except ClassFile.DecodeError (ClassFile.Instr × Nat)} (h2 : decode code pc = r) : decode W.c.code pc = r := C.2.1 ▸ h2
theorem Cx.ow (C : Cx Z W own nm code maxL ret) : W.s.vm.findClass own = some W.m.cls := C.2.2.2.1
theorem Cx.hZ (C : Cx Z W own nm code maxL ret) : Z.Warmed39 W.s.vm := C.2.2.2.2.1
theorem Cx.ml (C : Cx Z W own nm code maxL ret) : W.c.maxLocals = maxL := C.2.2.1
theorem Cx.rt (C : Cx Z W own nm code maxL ret) : W.t.sig.returnType = ret := C.2.2.2.2.2.1
theorem Cx.nme (C : Cx Z W own nm code maxL ret) : W.t.name = nm := C.2.2.2.2.2.2.1
theorem Cx.lk (C : Cx Z W own nm code maxL ret) : W.t.locks = false := C.2.2.2.2.2.2.2.1
theorem Cx.tk (C : Cx Z W own nm code maxL ret) : W.s.vm.MethodsKnown := C.2.2.2.2.2.2.2.2.1
theorem Cx.fk (C : Cx Z W own nm code maxL ret) : W.s.vm.FramesKnown W.b := C.2.2.2.2.2.2.2.2.2.1
theorem Cx.e0 (C : Cx Z W own nm code maxL ret) : Ext Z.heap W.s.heap := C.2.2.2.2.2.2.2.2.2.2
theorem old_of (O : Ext Z.heap h) : Old Z Z.heap.size h := ⟨rfl, O⟩
theorem Go.step {A B : State} (f : ∀ t, Steps W.p.tables W.e W.b B t → Steps W.p.tables W.e W.b A t) (g : Go R Z W Q B) : Go R Z W Q A := by
  obtain ⟨t, o, h1, r⟩ := g
  exact ⟨t, o, f t h1, r⟩
theorem Run.one {g g' : JFrame} (f : ∀ T locs, Std l R W T locs k n → T.heap = h → ∀ t, Steps W.p.tables W.e W.b (T.setTop g') t → Steps W.p.tables W.e W.b (T.setTop g) t) (r : Run l R Z W Q h k n g') : Run l R Z W Q h k n g :=
  fun T locs X eT N O => Go.step (f T locs X eT) (r T locs X eT N O)
theorem Run.old {f : JFrame} (r : Ext Z.heap h → Run l R Z W Q h k n f) : Run l R Z W Q h k n f := fun T locs X eT N O => r O T locs X eT N O
theorem Run.grow {f : JFrame} {k' n' : Nat} (hk : k ≤ k') (hn : n ≤ n') (r : Run l R Z W Q h k' n' f) : Run l R Z W Q h k n f := fun T locs X eT N O =>
  r T locs ⟨X.admits, X.cas, X.clock, X.frames, X.room, X.hears, X.method, X.code, X.here, X.tail, X.warmed, X.limits, X.bytes, X.same.mono hk hn⟩ eT N O

theorem iloadN (C : Cx Z W own nm code maxL ret) {i : Fin 4} {v : Int32} (hd : decode code pc = .ok (.iload_n i, 1)) (hl : Ls[i.val]? = some (.val (.int v))) (hp : pc + 1 = pc')
    (r : Run l R Z W Q h k n (mkF W.m pc' Ls (.int v :: st))) : Run l R Z W Q h k n (mkF W.m pc Ls (st)) := by
  subst hp
  exact Run.one (fun T locs X _ t g => XS.iloadN X.here C.hx rfl (C.hb hd) hl g) r
theorem iload (C : Cx Z W own nm code maxL ret) {i : Nat} {v : Int32} (hd : decode code pc = .ok (.iload i, 2)) (hl : Ls[i]? = some (.val (.int v))) (hp : pc + 2 = pc')
    (r : Run l R Z W Q h k n (mkF W.m pc' Ls (.int v :: st))) : Run l R Z W Q h k n (mkF W.m pc Ls (st)) := by
  subst hp
  exact Run.one (fun T locs X _ t g => XS.iload X.here C.hx rfl (C.hb hd) hl g) r
theorem aloadN (C : Cx Z W own nm code maxL ret) {i : Fin 4} {v : Value} (hd : decode code pc = .ok (.aload_n i, 1)) (hl : Ls[i.val]? = some (.val v)) (hv : v.isRef = true) (hp : pc + 1 = pc')
    (r : Run l R Z W Q h k n (mkF W.m pc' Ls (v :: st))) : Run l R Z W Q h k n (mkF W.m pc Ls (st)) := by
  subst hp
  exact Run.one (fun T locs X _ t g => XS.aloadN X.here C.hx rfl (C.hb hd) hl hv g) r
theorem aload (C : Cx Z W own nm code maxL ret) {i : Nat} {v : Value} (hd : decode code pc = .ok (.aload i, 2)) (hl : Ls[i]? = some (.val v)) (hv : v.isRef = true) (hp : pc + 2 = pc')
    (r : Run l R Z W Q h k n (mkF W.m pc' Ls (v :: st))) : Run l R Z W Q h k n (mkF W.m pc Ls (st)) := by
  subst hp
  exact Run.one (fun T locs X _ t g => XS.aload X.here C.hx rfl (C.hb hd) hl hv g) r
theorem istoreN (C : Cx Z W own nm code maxL ret) {i : Fin 4} {v : Int32} {Ls' : Array Slot} (hd : decode code pc = .ok (.istore_n i, 1)) (hl : storeLocals Ls i.val (.int v) = some Ls') (hp : pc + 1 = pc')
    (r : Run l R Z W Q h k n (mkF W.m pc' Ls' (st))) : Run l R Z W Q h k n (mkF W.m pc Ls (.int v :: st)) := by
  subst hp
  exact Run.one (fun T locs X _ t g => XS.istoreN X.here C.hx rfl (C.hb hd) rfl hl g) r
theorem istore (C : Cx Z W own nm code maxL ret) {i : Nat} {v : Int32} {Ls' : Array Slot} (hd : decode code pc = .ok (.istore i, 2)) (hl : storeLocals Ls i (.int v) = some Ls') (hp : pc + 2 = pc')
    (r : Run l R Z W Q h k n (mkF W.m pc' Ls' (st))) : Run l R Z W Q h k n (mkF W.m pc Ls (.int v :: st)) := by
  subst hp
  exact Run.one (fun T locs X _ t g => XS.istore X.here C.hx rfl (C.hb hd) rfl hl g) r
theorem astoreN (C : Cx Z W own nm code maxL ret) {i : Fin 4} {v : Value} {Ls' : Array Slot} (hd : decode code pc = .ok (.astore_n i, 1)) (hv : v.isRef = true) (hl : storeLocals Ls i.val v = some Ls') (hp : pc + 1 = pc')
    (r : Run l R Z W Q h k n (mkF W.m pc' Ls' (st))) : Run l R Z W Q h k n (mkF W.m pc Ls (v :: st)) := by
  subst hp
  exact Run.one (fun T locs X _ t g => XS.astoreN X.here C.hx rfl (C.hb hd) rfl hv hl g) r
theorem astore (C : Cx Z W own nm code maxL ret) {i : Nat} {v : Value} {Ls' : Array Slot} (hd : decode code pc = .ok (.astore i, 2)) (hv : v.isRef = true) (hl : storeLocals Ls i v = some Ls') (hp : pc + 2 = pc')
    (r : Run l R Z W Q h k n (mkF W.m pc' Ls' (st))) : Run l R Z W Q h k n (mkF W.m pc Ls (v :: st)) := by
  subst hp
  exact Run.one (fun T locs X _ t g => XS.astore X.here C.hx rfl (C.hb hd) rfl hv hl g) r
theorem iconst (C : Cx Z W own nm code maxL ret) {i : Int} {v : Int32} (hd : decode code pc = .ok (.iconst i, 1)) (hv : Int32.ofInt i = v) (hp : pc + 1 = pc')
    (r : Run l R Z W Q h k n (mkF W.m pc' Ls (.int v :: st))) : Run l R Z W Q h k n (mkF W.m pc Ls (st)) := by
  subst hp
  exact Run.one (fun T locs X _ t g => XS.iconst X.here C.hx rfl (C.hb hd) (hv ▸ g)) r
theorem bipush (C : Cx Z W own nm code maxL ret) {i : Int} {v : Int32} (hd : decode code pc = .ok (.bipush i, 2)) (hv : (Int8.ofInt i).toInt32 = v) (hp : pc + 2 = pc')
    (r : Run l R Z W Q h k n (mkF W.m pc' Ls (.int v :: st))) : Run l R Z W Q h k n (mkF W.m pc Ls (st)) := by
  subst hp
  exact Run.one (fun T locs X _ t g => XS.bipush X.here C.hx rfl (C.hb hd) (hv ▸ g)) r
theorem sipush (C : Cx Z W own nm code maxL ret) {i : Int} {v : Int32} (hd : decode code pc = .ok (.sipush i, 3)) (hv : (Int16.ofInt i).toInt32 = v) (hp : pc + 3 = pc')
    (r : Run l R Z W Q h k n (mkF W.m pc' Ls (.int v :: st))) : Run l R Z W Q h k n (mkF W.m pc Ls (st)) := by
  subst hp
  exact Run.one (fun T locs X _ t g => XS.sipush X.here C.hx rfl (C.hb hd) (hv ▸ g)) r
theorem aconstNull (C : Cx Z W own nm code maxL ret)  (hd : decode code pc = .ok (.aconst_null, 1)) (hp : pc + 1 = pc')
    (r : Run l R Z W Q h k n (mkF W.m pc' Ls (.null :: st))) : Run l R Z W Q h k n (mkF W.m pc Ls (st)) := by
  subst hp
  exact Run.one (fun T locs X _ t g => XS.aconstNull X.here C.hx rfl (C.hb hd) g) r
theorem isub (C : Cx Z W own nm code maxL ret) {x y v : Int32} (hd : decode code pc = .ok (.isub, 1)) (hv : x - y = v) (hp : pc + 1 = pc')
    (r : Run l R Z W Q h k n (mkF W.m pc' Ls (.int v :: st))) : Run l R Z W Q h k n (mkF W.m pc Ls (.int y :: .int x :: st)) := by
  subst hp
  exact Run.one (fun T locs X _ t g => XS.isub X.here C.hx rfl (C.hb hd) rfl (hv ▸ g)) r
theorem iand (C : Cx Z W own nm code maxL ret) {x y v : Int32} (hd : decode code pc = .ok (.iand, 1)) (hv : x &&& y = v) (hp : pc + 1 = pc')
    (r : Run l R Z W Q h k n (mkF W.m pc' Ls (.int v :: st))) : Run l R Z W Q h k n (mkF W.m pc Ls (.int y :: .int x :: st)) := by
  subst hp
  exact Run.one (fun T locs X _ t g => XS.iand X.here C.hx rfl (C.hb hd) rfl (hv ▸ g)) r
theorem ladd (C : Cx Z W own nm code maxL ret) {x y v : Int64} (hd : decode code pc = .ok (.ladd, 1)) (hv : x + y = v) (hp : pc + 1 = pc')
    (r : Run l R Z W Q h k n (mkF W.m pc' Ls (.long v :: st))) : Run l R Z W Q h k n (mkF W.m pc Ls (.long y :: .long x :: st)) := by
  subst hp
  exact Run.one (fun T locs X _ t g => XS.ladd X.here C.hx rfl (C.hb hd) rfl (hv ▸ g)) r
theorem irem (C : Cx Z W own nm code maxL ret) {x y v : Int32} (hd : decode code pc = .ok (.irem, 1)) (hy : ¬ y = 0) (hv : x % y = v) (hp : pc + 1 = pc')
    (r : Run l R Z W Q h k n (mkF W.m pc' Ls (.int v :: st))) : Run l R Z W Q h k n (mkF W.m pc Ls (.int y :: .int x :: st)) := by
  subst hp
  exact Run.one (fun T locs X _ t g => iremM X C.hx rfl (C.hb hd) rfl hy (hv ▸ g)) r
theorem iushr (C : Cx Z W own nm code maxL ret) {x y v : Int32} (hd : decode code pc = .ok (.iushr, 1)) (hv : (x.toUInt32 >>> (y &&& 31).toUInt32).toInt32 = v) (hp : pc + 1 = pc')
    (r : Run l R Z W Q h k n (mkF W.m pc' Ls (.int v :: st))) : Run l R Z W Q h k n (mkF W.m pc Ls (.int y :: .int x :: st)) := by
  subst hp
  exact Run.one (fun T locs X _ t g => XS.iushr X.here C.hx rfl (C.hb hd) rfl (hv ▸ g)) r
theorem i2l (C : Cx Z W own nm code maxL ret) {x : Int32} {v : Int64} (hd : decode code pc = .ok (.i2l, 1)) (hv : x.toInt64 = v) (hp : pc + 1 = pc')
    (r : Run l R Z W Q h k n (mkF W.m pc' Ls (.long v :: st))) : Run l R Z W Q h k n (mkF W.m pc Ls (.int x :: st)) := by
  subst hp
  exact Run.one (fun T locs X _ t g => XS.i2l X.here C.hx rfl (C.hb hd) rfl (hv ▸ g)) r
theorem i2b (C : Cx Z W own nm code maxL ret) {x : Int32} {v : Int32} (hd : decode code pc = .ok (.i2b, 1)) (hv : x.toInt8.toInt32 = v) (hp : pc + 1 = pc')
    (r : Run l R Z W Q h k n (mkF W.m pc' Ls (.int v :: st))) : Run l R Z W Q h k n (mkF W.m pc Ls (.int x :: st)) := by
  subst hp
  exact Run.one (fun T locs X _ t g => XS.i2b X.here C.hx rfl (C.hb hd) rfl (hv ▸ g)) r
theorem i2c (C : Cx Z W own nm code maxL ret) {x : Int32} {v : Int32} (hd : decode code pc = .ok (.i2c, 1)) (hv : x.toUInt32.toUInt16.toUInt32.toInt32 = v) (hp : pc + 1 = pc')
    (r : Run l R Z W Q h k n (mkF W.m pc' Ls (.int v :: st))) : Run l R Z W Q h k n (mkF W.m pc Ls (.int x :: st)) := by
  subst hp
  exact Run.one (fun T locs X _ t g => XS.i2c X.here C.hx rfl (C.hb hd) rfl (hv ▸ g)) r
theorem dup (C : Cx Z W own nm code maxL ret) {v : Value} (hd : decode code pc = .ok (.dup, 1)) (hc : v.category = 1) (hp : pc + 1 = pc')
    (r : Run l R Z W Q h k n (mkF W.m pc' Ls (v :: v :: st))) : Run l R Z W Q h k n (mkF W.m pc Ls (v :: st)) := by
  subst hp
  exact Run.one (fun T locs X _ t g => XS.dup X.here C.hx rfl (C.hb hd) rfl hc g) r
theorem pop (C : Cx Z W own nm code maxL ret) {v : Value} (hd : decode code pc = .ok (.pop, 1)) (hc : v.category = 1) (hp : pc + 1 = pc')
    (r : Run l R Z W Q h k n (mkF W.m pc' Ls (st))) : Run l R Z W Q h k n (mkF W.m pc Ls (v :: st)) := by
  subst hp
  exact Run.one (fun T locs X _ t g => XS.pop X.here C.hx rfl (C.hb hd) rfl hc g) r
theorem iinc (C : Cx Z W own nm code maxL ret) {i : Nat} {d : Int} {x v : Int32} {Ls' : Array Slot} (hd : decode code pc = .ok (.iinc i d, 3)) (hl : Ls[i]? = some (.val (.int x))) (hv : x + Int32.ofInt d = v) (hl' : storeLocals Ls i (.int v) = some Ls') (hp : pc + 3 = pc')
    (r : Run l R Z W Q h k n (mkF W.m pc' Ls' st)) : Run l R Z W Q h k n (mkF W.m pc Ls st) := by
  subst hp hv
  exact Run.one (fun T locs X _ t g => XS.iinc X.here C.hx rfl (C.hb hd) hl hl' g) r
theorem goto (C : Cx Z W own nm code maxL ret) {o : Int} (hd : decode code pc = .ok (.goto o, 3)) (ho : 0 ≤ (pc : Int) + o) (hp : ((pc : Int) + o).toNat = pc')
    (r : Run l R Z W Q h k n (mkF W.m pc' Ls st)) : Run l R Z W Q h k n (mkF W.m pc Ls st) :=
  Run.one (fun T locs X _ t g => XS.goto X.here C.hx rfl rfl (C.hb hd) ho hp g) r
theorem if_eq (C : Cx Z W own nm code maxL ret) {x : Int32} {o : Int} {pcT : Nat} (hd : decode code pc = .ok (.ifCond .eq o, 3)) (ho : 0 ≤ (pc : Int) + o) (hp : ((pc : Int) + o).toNat = pcT) (hp' : pc + 3 = pc')
    (rt : x = (0 : Int32) → Run l R Z W Q h k n (mkF W.m pcT Ls st)) (rf : ¬ x = (0 : Int32) → Run l R Z W Q h k n (mkF W.m pc' Ls st)) : Run l R Z W Q h k n (mkF W.m pc Ls (.int x :: st)) := by
  subst hp'
  by_cases q : x = (0 : Int32)
  · exact Run.one (fun T locs X _ t g => XS.ifYes X.here C.hx rfl rfl (C.hb hd) rfl ((if0 _ _).trans (teq q).1) ho hp g) (rt q)
  · exact Run.one (fun T locs X _ t g => XS.ifNo X.here C.hx rfl (C.hb hd) rfl ((if0 _ _).trans (feq q).1) g) (rf q)
theorem icmp_ne (C : Cx Z W own nm code maxL ret) {x y : Int32} {o : Int} {pcT : Nat} (hd : decode code pc = .ok (.if_icmp .ne o, 3)) (ho : 0 ≤ (pc : Int) + o) (hp : ((pc : Int) + o).toNat = pcT) (hp' : pc + 3 = pc')
    (rt : ¬ x = y → Run l R Z W Q h k n (mkF W.m pcT Ls st)) (rf : x = y → Run l R Z W Q h k n (mkF W.m pc' Ls st)) : Run l R Z W Q h k n (mkF W.m pc Ls (.int y :: .int x :: st)) := by
  subst hp'
  by_cases q : x = y
  · exact Run.one (fun T locs X _ t g => XS.icmpNo X.here C.hx rfl (C.hb hd) rfl (teq q).2 g) (rf q)
  · exact Run.one (fun T locs X _ t g => XS.icmpYes X.here C.hx rfl rfl (C.hb hd) rfl (feq q).2 ho hp g) (rt q)
theorem if_ne (C : Cx Z W own nm code maxL ret) {x : Int32} {o : Int} {pcT : Nat} (hd : decode code pc = .ok (.ifCond .ne o, 3)) (ho : 0 ≤ (pc : Int) + o) (hp : ((pc : Int) + o).toNat = pcT) (hp' : pc + 3 = pc')
    (rt : ¬ x = (0 : Int32) → Run l R Z W Q h k n (mkF W.m pcT Ls st)) (rf : x = (0 : Int32) → Run l R Z W Q h k n (mkF W.m pc' Ls st)) : Run l R Z W Q h k n (mkF W.m pc Ls (.int x :: st)) := by
  subst hp'
  by_cases q : x = (0 : Int32)
  · exact Run.one (fun T locs X _ t g => XS.ifNo X.here C.hx rfl (C.hb hd) rfl ((if0 _ _).trans (teq q).2) g) (rf q)
  · exact Run.one (fun T locs X _ t g => XS.ifYes X.here C.hx rfl rfl (C.hb hd) rfl ((if0 _ _).trans (feq q).2) ho hp g) (rt q)
theorem ifnonnullY (C : Cx Z W own nm code maxL ret) {o : Int} {b : Addr} (hd : decode code pc = .ok (.ifnonnull o, 3)) (ho : 0 ≤ (pc : Int) + o) (hp : ((pc : Int) + o).toNat = pc') (r : Run l R Z W Q h k n (mkF W.m pc' Ls st)) : Run l R Z W Q h k n (mkF W.m pc Ls (.ref b :: st)) :=
  Run.one (fun T locs X _ t g => XS.ifnonnullYes X.here C.hx rfl rfl (C.hb hd) rfl ho hp g) r
theorem ifnonnullN (C : Cx Z W own nm code maxL ret) {o : Int} (hd : decode code pc = .ok (.ifnonnull o, 3)) (hp : pc + 3 = pc') (r : Run l R Z W Q h k n (mkF W.m pc' Ls st)) : Run l R Z W Q h k n (mkF W.m pc Ls (.null :: st)) := by
  subst hp
  exact Run.one (fun T locs X _ t g => XS.ifnonnullNo X.here C.hx rfl (C.hb hd) rfl g) r
theorem acmp_ne (C : Cx Z W own nm code maxL ret) {o : Int} {x y : Value} {pcT : Nat} (hd : decode code pc = .ok (.if_acmp .ne o, 3)) (hx' : x.isRef = true) (hy' : y.isRef = true) (ho : 0 ≤ (pc : Int) + o) (hp : ((pc : Int) + o).toNat = pcT) (hp' : pc + 3 = pc')
    (rt : ¬ x = y → Run l R Z W Q h k n (mkF W.m pcT Ls st)) (rf : x = y → Run l R Z W Q h k n (mkF W.m pc' Ls st)) : Run l R Z W Q h k n (mkF W.m pc Ls (y :: x :: st)) := by
  subst hp'
  by_cases q : x = y
  · exact Run.one (fun T locs X _ t g => XT.acmpNo X.here C.hx rfl (C.hb hd) rfl hx' hy' (XT.aa_ne_f q) g) (rf q)
  · exact Run.one (fun T locs X _ t g => XT.acmpYes X.here C.hx rfl rfl (C.hb hd) rfl hx' hy' (XT.aa_ne_t q) ho hp g) (rt q)
theorem tswIn (C : Cx Z W own nm code maxL ret) {d lo hi o : Int} {offs : Array Int} {ln : Nat} {i : Int32} (hd : decode code pc = .ok (.tableswitch d lo hi offs, ln)) (hin : ¬ (i.toInt < lo ∨ i.toInt > hi)) (ho : offs[(i.toInt - lo).toNat]? = some o) (h0 : 0 ≤ (pc : Int) + o) (hp : ((pc : Int) + o).toNat = pc')
    (r : Run l R Z W Q h k n (mkF W.m pc' Ls st)) : Run l R Z W Q h k n (mkF W.m pc Ls (.int i :: st)) :=
  Run.one (fun T locs X _ t g => XS.tswIn X.here C.hx rfl rfl (C.hb hd) rfl hin ho h0 hp g) r
theorem ldcI (C : Cx Z W own nm code maxL ret) {ix : Nat} {v : Int32} (hd : decode code pc = .ok (.ldc ix, 2)) (w : (Cond.constant own ix v).before a0 Z = true) (hp : pc + 2 = pc') (r : Run l R Z W Q h k n (mkF W.m pc' Ls (.int v :: st))) : Run l R Z W Q h k n (mkF W.m pc Ls st) := by
  subst hp
  exact Run.one (fun T locs X _ t g => X.ldcInt C.hx C.ow (mvT C.hZ w) (g := mkF W.m pc Ls st) rfl (C.hb hd) t g) r
theorem Run.via {g g' : JFrame} (f : ∀ T locs, Std l R W T locs k n → T.heap = h → ∃ T', Std l R W T' locs k n ∧ T'.heap = h ∧ ∀ t, Steps W.p.tables W.e W.b (T'.setTop g') t → Steps W.p.tables W.e W.b (T.setTop g) t) (r : Run l R Z W Q h k n g') : Run l R Z W Q h k n g :=
  fun T locs X eT N O => by
    obtain ⟨T', X', e', s'⟩ := f T locs X eT
    exact Go.step s' (r T' locs X' e' N O)
theorem getF (C : Cx Z W own nm code maxL ret) {R0 O nmF d : String} {ix : Nat} (hd : decode code pc = .ok (.getfield ix, 3)) (w : (Cond.fieldLink own ix R0 nmF d).before a0 Z = true) (via : Via Z R0 O nmF d) {a : Addr} {v : Value} (F : Fld Z h a O nmF d v) (hp : pc + 3 = pc')
    (r : Run l R Z W Q h k n (mkF W.m pc' Ls (v :: st))) : Run l R Z W Q h k n (mkF W.m pc Ls (.ref a :: st)) := by
  subst hp
  exact Run.via (fun T locs X eT => RoadKit.getF X C.hx C.hZ C.ow (host := "") (Or.inl w) via eT F (g := mkF W.m pc Ls (.ref a :: st)) rfl rfl (C.hb hd)) r
theorem getS (C : Cx Z W own nm code maxL ret) {R0 O nmF d : String} {ix : Nat} (hd : decode code pc = .ok (.getstatic ix, 3)) (w : (Cond.fieldLink own ix R0 nmF d).before a0 Z = true) (via : Via Z R0 O nmF d) {v : Value} (F : Sta Z h O nmF d v) (hp : pc + 3 = pc')
    (r : Run l R Z W Q h k n (mkF W.m pc' Ls (v :: st))) : Run l R Z W Q h k n (mkF W.m pc Ls st) := by
  subst hp
  exact Run.via (fun T locs X eT => getS2 X C.hx C.hZ C.ow (host := "") (Or.inl w) via eT F (g := mkF W.m pc Ls st) rfl (C.hb hd)) r
/-- an array as a list: its kind, its length, its elements -/
def Ary (Z : State) (h : Heap) (a : Addr) (ty : FieldType) (vs : List Value) : Prop := ∃ c : Cell, Arr Z h a c ty ∧ c.slots = vs.toArray ∧ vs.length < 2 ^ 31 ∧ ∀ v ∈ vs, fits ty v = true
theorem Ary.lt {a : Addr} {ty : FieldType} {vs : List Value} (F : Ary Z h a ty vs) : a < h.size := by obtain ⟨c, A, -⟩ := F; exact A.lt
theorem Ary.ext {h' : Heap} {a : Addr} {ty : FieldType} {vs : List Value} (F : Ary Z h a ty vs) (E : Ext h h') : Ary Z h' a ty vs := by obtain ⟨c, A, r⟩ := F; exact ⟨c, A.ext E, r⟩
theorem Ary.other {h' : Heap} {a b : Addr} {sl : Nat} {v : Value} {ty : FieldType} {vs : List Value} (F : Ary Z h b ty vs) (X : Wr h h' a sl v) (q : b ≠ a) : Ary Z h' b ty vs := by obtain ⟨c, A, r⟩ := F; exact ⟨c, A.other X q, r⟩
theorem Ary.keep {h' : Heap} {a : Addr} {ws : List Addr} {ty : FieldType} {vs : List Value} (F : Ary Z h a ty vs) (K : Keep h h' ws) (q : a ∉ ws) : Ary Z h' a ty vs := by obtain ⟨c, A, r⟩ := F; exact ⟨c, ⟨K.2.1 a c A.1 q, A.2⟩, r⟩
theorem Ary.set {h' : Heap} {a : Addr} {i : Nat} {v : Value} {ty : FieldType} {vs : List Value} (F : Ary Z h a ty vs) (X : Wr h h' a i v) (hv : fits ty v = true) : Ary Z h' a ty (vs.set i v) := by
  obtain ⟨c, A, e, q, f⟩ := F
  refine ⟨_, A.same X, ?_, by simpa using q, fun w hw => ?_⟩
  · show (c.slots.setIfInBounds i v) = _
    rw [e]; simp
  · rcases List.mem_or_eq_of_mem_set hw with hw | rfl
    · exact f w hw
    · exact hv
theorem Ary.inb {a : Addr} {ty : FieldType} {vs : List Value} {c : Cell} {j : Int32} (e : c.slots = vs.toArray) (h0 : ¬ j < 0) (h1 : j.toNatClampNeg < vs.length) : ¬ (j < 0 ∨ c.slots.size ≤ j.toNatClampNeg) := by
  rw [e]
  rintro (q | q)
  · exact h0 q
  · simp at q; omega
theorem Ary.arv {a : Addr} {ty : FieldType} {vs : List Value} {d : Value} (F : Ary Z h a ty vs) : ∃ kc, Arv Z h a kc ty (Int32.ofNat vs.length) vs d := by
  obtain ⟨c, A, e, q, f⟩ := F
  have hn : (Int32.ofNat vs.length).toNatClampNeg = vs.length := by
    rw [Int32.toNatClampNeg_ofNat_of_lt q]
  refine ⟨c.cls, c, A, rfl, by rw [hn, e]; simp, ?_, fun i hi => ?_, fun i hi => ?_⟩
  · rw [Int32.lt_iff_toInt_lt, Int32.toInt_ofNat_of_lt q]; simp
  · have hi' : i < vs.length := by rw [e] at hi; simpa using hi
    rw [e]; simp [List.getD_eq_getElem?_getD, hi']
  · have hi' : i < vs.length := by rw [e] at hi; simpa using hi
    have := f _ (List.getElem_mem hi')
    simpa [List.getD_eq_getElem?_getD, hi'] using this
theorem Ary.of_arv {a : Addr} {kc : ClassId} {ty : FieldType} {z : Int32} {vs : List Value} {d : Value} (F : Arv Z h a kc ty z vs d) (hz : z.toNatClampNeg = vs.length) : Ary Z h a ty vs := by
  obtain ⟨c, A, -, S, z0, H, G⟩ := F
  have hs : c.slots.size = vs.length := S.trans hz
  refine ⟨c, A, ?_, by rw [← hz]; exact (back32 z0).2, fun v hv => ?_⟩
  · apply Array.ext
    · simpa using hs
    · intro i h1 h2
      have q := H i h1
      rw [Array.getElem?_eq_getElem h1] at q
      have h3 : i < vs.length := by omega
      simpa [List.getD_eq_getElem?_getD, h3] using q
  · obtain ⟨i, hi, rfl⟩ := List.getElem_of_mem hv
    have := G i (by omega)
    simpa [List.getD_eq_getElem?_getD, hi] using this
theorem alen (C : Cx Z W own nm code maxL ret) (hd : decode code pc = .ok (.arraylength, 1)) {a : Addr} {ty : FieldType} {vs : List Value} {z : Int32} (F : Ary Z h a ty vs) (hz : Int32.ofNat vs.length = z) (hp : pc + 1 = pc')
    (r : Run l R Z W Q h k n (mkF W.m pc' Ls (.int z :: st))) : Run l R Z W Q h k n (mkF W.m pc Ls (.ref a :: st)) := by
  subst hp hz
  obtain ⟨c, A, e, -⟩ := F
  have e2 : c.slots.size.toInt32 = Int32.ofNat vs.length := by rw [e]; simp
  exact Run.one (fun T locs X eT t g => X.arraylength C.hx (by rw [eT]; exact A.1) (State.isArrayOf_alike C.hZ.alike A.2.1) (g := mkF W.m pc Ls (.ref a :: st)) rfl rfl (C.hb hd) t (by rw [e2]; exact g)) r
theorem caload (C : Cx Z W own nm code maxL ret) (hd : decode code pc = .ok (.caload, 1)) {a : Addr} {vs : List Value} {j : Int32} {v : Value} (F : Ary Z h a .char vs) (h0 : ¬ j < 0) (hv : vs[j.toNatClampNeg]? = some v) (hp : pc + 1 = pc')
    (r : Run l R Z W Q h k n (mkF W.m pc' Ls (v :: st))) : Run l R Z W Q h k n (mkF W.m pc Ls (.int j :: .ref a :: st)) := by
  subst hp
  obtain ⟨c, A, e, -⟩ := F
  have h1 : j.toNatClampNeg < vs.length := (List.getElem?_eq_some_iff.mp hv).1
  exact Run.one (fun T locs X eT t g => X.caload C.hx (by rw [eT]; exact A.1) (State.isArrayOf_alike C.hZ.alike A.2.1) A.2.2 (Ary.inb (a := a) (ty := .char) e h0 h1) (by rw [e]; simpa using hv) (g := mkF W.m pc Ls (.int j :: .ref a :: st)) rfl rfl (C.hb hd) t g) r
theorem iaload (C : Cx Z W own nm code maxL ret) (hd : decode code pc = .ok (.iaload, 1)) {a : Addr} {vs : List Value} {j : Int32} {v : Value} (F : Ary Z h a .int vs) (h0 : ¬ j < 0) (hv : vs[j.toNatClampNeg]? = some v) (hp : pc + 1 = pc')
    (r : Run l R Z W Q h k n (mkF W.m pc' Ls (v :: st))) : Run l R Z W Q h k n (mkF W.m pc Ls (.int j :: .ref a :: st)) := by
  subst hp
  obtain ⟨c, A, e, -⟩ := F
  have h1 : j.toNatClampNeg < vs.length := (List.getElem?_eq_some_iff.mp hv).1
  exact Run.one (fun T locs X eT t g => X.iaload C.hx (by rw [eT]; exact A.1) (State.isArrayOf_alike C.hZ.alike A.2.1) A.2.2 (Ary.inb (a := a) (ty := .int) e h0 h1) (by rw [e]; simpa using hv) (g := mkF W.m pc Ls (.int j :: .ref a :: st)) rfl rfl (C.hb hd) t g) r
theorem aaload (C : Cx Z W own nm code maxL ret) (hd : decode code pc = .ok (.aaload, 1)) {a : Addr} {ty : FieldType} {vs : List Value} {j : Int32} {v : Value} (F : Ary Z h a ty vs) (ht : ty.isReference = true) (h0 : ¬ j < 0) (hv : vs[j.toNatClampNeg]? = some v) (hp : pc + 1 = pc')
    (r : Run l R Z W Q h k n (mkF W.m pc' Ls (v :: st))) : Run l R Z W Q h k n (mkF W.m pc Ls (.int j :: .ref a :: st)) := by
  subst hp
  obtain ⟨c, A, e, -⟩ := F
  have h1 : j.toNatClampNeg < vs.length := (List.getElem?_eq_some_iff.mp hv).1
  exact Run.one (fun T locs X eT t g => X.aaload C.hx (by rw [eT]; exact A.1) (State.isArrayOf_alike C.hZ.alike A.2.1) ht A.2.2 (Ary.inb (a := a) (ty := ty) e h0 h1) (by rw [e]; simpa using hv) (g := mkF W.m pc Ls (.int j :: .ref a :: st)) rfl rfl (C.hb hd) t g) r
theorem Run.wrote {a : Addr} {sl : Nat} {v : Value} {g g' : JFrame} (ha : Z.heap.size ≤ a) (f : ∀ T locs, Std l R W T locs k n → T.heap = h → ∃ T' h', Std l R W T' (locs ++ [⟨a, sl⟩]) k n ∧ T'.heap = h' ∧ Wr h h' a sl v ∧ ∀ t, Steps W.p.tables W.e W.b (T'.setTop g') t → Steps W.p.tables W.e W.b (T.setTop g) t)
    (r : ∀ h', Wr h h' a sl v → Ext Z.heap h' → Run l R Z W Q h' k n g') : Run l R Z W Q h k n g := fun T locs X eT N O => by
  obtain ⟨T', h', X', e', w', s'⟩ := f T locs X eT
  have O' : Ext Z.heap h' := ((old_of O).wr w' ha).2
  exact Go.step s' (r h' w' O' T' _ X' e' (Fr.snoc X' N ha) O')
theorem putF (C : Cx Z W own nm code maxL ret) {R0 O nmF d K : String} {ix kk : Nat} {ty : FieldType} (hd : decode code pc = .ok (.putfield ix, 3)) (w : (Cond.fieldLink own ix R0 nmF d).before a0 Z = true) (via : Via Z R0 O nmF d) {a : Addr} {v old : Value} (F : Fld Z h a O nmF d old) (E : Exa Z h a K)
    (L : (Cond.lays K O nmF d).before a0 Z = true ∨ ((Cond.laysFinal K O nmF d).before a0 Z = true ∧ own = O ∧ nm = "<init>")) (wi : (Cond.instantiable K kk).before a0 Z = true) (hty : parseFieldDescriptor d = some ty) (hn : narrow ty v = v) (hf : fits ty v = true) (ha : Z.heap.size ≤ a) (hp : pc + 3 = pc')
    (r : ∀ h', Wr h h' a (RoadKit.slotOf Z O nmF d) v → Ext Z.heap h' → Run l R Z W Q h' k n (mkF W.m pc' Ls st)) : Run l R Z W Q h k n (mkF W.m pc Ls (v :: .ref a :: st)) := by
  subst hp
  exact Run.wrote ha (fun T locs X eT => RoadKit.putF X C.hx C.hZ C.ow (host := "") (Or.inl w) via eT F E (L.imp id fun q => ⟨q.1, q.2.1, C.nme.trans q.2.2⟩) wi hty hn hf (g := mkF W.m pc Ls (v :: .ref a :: st)) rfl rfl (C.hb hd)) r
theorem castore (C : Cx Z W own nm code maxL ret) (hd : decode code pc = .ok (.castore, 1)) {a : Addr} {vs vs' : List Value} {j x : Int32} (F : Ary Z h a .char vs) (h0 : ¬ j < 0) (h1 : j.toNatClampNeg < vs.length) (hx : nar .char x = x) (hs : vs.set j.toNatClampNeg (.int x) = vs') (ha : Z.heap.size ≤ a) (hp : pc + 1 = pc')
    (r : ∀ h', Wr h h' a j.toNatClampNeg (.int x) → Ary Z h' a .char vs' → Ext Z.heap h' → Run l R Z W Q h' k n (mkF W.m pc' Ls st)) : Run l R Z W Q h k n (mkF W.m pc Ls (.int x :: .int j :: .ref a :: st)) := by
  subst hp hs
  have F' := F
  obtain ⟨c, A, e, -⟩ := F'
  exact Run.wrote ha (fun T locs X eT => by have w0 := RoadKit.stC X C.hx C.hZ eT A (Ary.inb (a := a) (ty := .char) e h0 h1) (g := mkF W.m pc Ls (.int x :: .int j :: .ref a :: st)) rfl rfl (C.hb hd); rw [hx] at w0; exact w0) (fun h' w' O' => r h' w' (F.set w' (hx ▸ fits_nar_char x)) O')
theorem bastore (C : Cx Z W own nm code maxL ret) (hd : decode code pc = .ok (.bastore, 1)) {a : Addr} {vs vs' : List Value} {j x : Int32} (F : Ary Z h a .byte vs) (h0 : ¬ j < 0) (h1 : j.toNatClampNeg < vs.length) (hs : vs.set j.toNatClampNeg (.int (nar .byte x)) = vs') (ha : Z.heap.size ≤ a) (hp : pc + 1 = pc')
    (r : ∀ h', Wr h h' a j.toNatClampNeg (.int (nar .byte x)) → Ary Z h' a .byte vs' → Ext Z.heap h' → Run l R Z W Q h' k n (mkF W.m pc' Ls st)) : Run l R Z W Q h k n (mkF W.m pc Ls (.int x :: .int j :: .ref a :: st)) := by
  subst hp hs
  have F' := F
  obtain ⟨c, A, e, -⟩ := F'
  exact Run.wrote ha (fun T locs X eT => by have w0 := RoadKit.stB X C.hx C.hZ eT A (Ary.inb (a := a) (ty := .byte) e h0 h1) (g := mkF W.m pc Ls (.int x :: .int j :: .ref a :: st)) rfl rfl (C.hb hd); exact w0) (fun h' w' O' => r h' w' (F.set w' (fits_nar_byte x)) O')
theorem iastore (C : Cx Z W own nm code maxL ret) (hd : decode code pc = .ok (.iastore, 1)) {a : Addr} {vs vs' : List Value} {j x : Int32} (F : Ary Z h a .int vs) (h0 : ¬ j < 0) (h1 : j.toNatClampNeg < vs.length) (hs : vs.set j.toNatClampNeg (.int x) = vs') (ha : Z.heap.size ≤ a) (hp : pc + 1 = pc')
    (r : ∀ h', Wr h h' a j.toNatClampNeg (.int x) → Ary Z h' a .int vs' → Ext Z.heap h' → Run l R Z W Q h' k n (mkF W.m pc' Ls st)) : Run l R Z W Q h k n (mkF W.m pc Ls (.int x :: .int j :: .ref a :: st)) := by
  subst hp hs
  have F' := F
  obtain ⟨c, A, e, -⟩ := F'
  exact Run.wrote ha (fun T locs X eT => by have w0 := RoadKit.stI X C.hx C.hZ eT A (Ary.inb (a := a) (ty := .int) e h0 h1) (g := mkF W.m pc Ls (.int x :: .int j :: .ref a :: st)) rfl rfl (C.hb hd); exact w0) (fun h' w' O' => r h' w' (F.set w' rfl) O')
theorem aastore (C : Cx Z W own nm code maxL ret) (hd : decode code pc = .ok (.aastore, 1)) {a : Addr} {ty : FieldType} {vs vs' : List Value} {j : Int32} {v : Value} (F : Ary Z h a ty vs) (h0 : ¬ j < 0) (h1 : j.toNatClampNeg < vs.length) (ht : ty.isReference = true) (So : Sto Z h a v) (hf : fits ty v = true) (hs : vs.set j.toNatClampNeg v = vs') (ha : Z.heap.size ≤ a) (hp : pc + 1 = pc')
    (r : ∀ h', Wr h h' a j.toNatClampNeg v → Ary Z h' a ty vs' → Ext Z.heap h' → Run l R Z W Q h' k n (mkF W.m pc' Ls st)) : Run l R Z W Q h k n (mkF W.m pc Ls (v :: .int j :: .ref a :: st)) := by
  subst hp hs
  have F' := F
  obtain ⟨c, A, e, -⟩ := F'
  exact Run.wrote ha (fun T locs X eT => stR X C.hx C.hZ eT A (Ary.inb (a := a) (ty := ty) e h0 h1) ht So (g := mkF W.m pc Ls (v :: .int j :: .ref a :: st)) rfl rfl (C.hb hd)) (fun h' w' O' => r h' w' (F.set w' hf) O')
/-- what a fresh object holds -/
abbrev Fresh (Z : State) (a0 : Array Value) (h' : Heap) (a : Addr) (K : String) : Prop := ∀ {O nm d : String} {ty : FieldType}, Laid Z a0 K O nm d → parseFieldDescriptor d = some ty → Fld Z h' a O nm d (defaultValue ty)
theorem newO (C : Cx Z W own nm code maxL ret) {K : String} {ix sl k' n' : Nat} (hd : decode code pc = .ok (.new ix, 3)) (w : (Cond.classLink own ix K).before a0 Z = true) (wi : (Cond.instantiable K sl).before a0 Z = true) (wz : (Cond.initialized K).before a0 Z = true) (hc : k + 1 = k') (hl : n + sl = n') (hc' : k' ≤ R.cells) (hl' : n' ≤ R.slots) (hp : pc + 3 = pc')
    (r : ∀ a h', a = h.size → Z.heap.size ≤ a → Ext h h' → Exa Z h' a K → Fresh Z a0 h' a K → Unt h' a → Ext Z.heap h' → Run l R Z W Q h' k' n' (mkF W.m pc' Ls (.ref a :: st))) : Run l R Z W Q h k n (mkF W.m pc Ls st) := by
  subst hp hc hl
  intro T locs X eT N O
  obtain ⟨T', h', X', e', E', A', D', U', s'⟩ := RoadKit.newO X C.hx C.hZ C.ow w wi wz eT (g := mkF W.m pc Ls st) rfl (C.hb hd) hc' hl'
  have O' : Ext Z.heap h' := ((old_of O).ext E').2
  exact Go.step s' (r h.size h' rfl O.1 E' A' D' U' O' T' locs X' e' N O')
theorem newA (C : Cx Z W own nm code maxL ret) {aty : ArrayType} {ty : FieldType} {z : Int32} {k' n' cap : Nat} (hd : decode code pc = .ok (.newarray aty, 2)) (ht : newarray.typeOf aty = ty) (w : (Cond.arrayClass ty).before a0 Z = true) (hz : ¬ z < 0) (hcap : z.toNatClampNeg ≤ cap) (hb : cap * 8 ≤ 536870912) (hc : k + 1 = k') (hl : n + cap = n') (hc' : k' ≤ R.cells) (hl' : n' ≤ R.slots) (hdf : fits ty (defaultValue ty) = true) (hp : pc + 2 = pc')
    (r : ∀ a h', a = h.size → Z.heap.size ≤ a → Ext h h' → Ary Z h' a ty (List.replicate z.toNatClampNeg (defaultValue ty)) → Ext Z.heap h' → Run l R Z W Q h' k' n' (mkF W.m pc' Ls (.ref a :: st))) : Run l R Z W Q h k n (mkF W.m pc Ls (.int z :: st)) := by
  subst hp hc hl ht
  intro T locs X eT N O
  obtain ⟨T', h', cA, X', e', E', A', s'⟩ := newP X C.hx C.hZ w eT (g := mkF W.m pc Ls (.int z :: st)) rfl (C.hb hd) rfl hz hcap hb hc' hl'
  have O' : Ext Z.heap h' := ((old_of O).ext E').2
  have hz2 : z.toNatClampNeg < 2 ^ 31 := (back32 hz).2
  refine Go.step s' (r h.size h' rfl O.1 E' ⟨_, A', ?_, by simpa using hz2, fun v hv => ?_⟩ O' T' locs X' e' N O')
  · show Array.replicate _ _ = _
    simp
  · rw [(List.mem_replicate.mp hv).2]; exact hdf
/-- an array of references to K: its class -/
def RefA (Z : State) (h : Heap) (a : Addr) (K : String) : Prop := ∃ cl : Cell, h[a]? = some cl ∧ Ovr Z cl.cls K
theorem RefA.ext {h' : Heap} {a : Addr} {K : String} (F : RefA Z h a K) (E : Ext h h') : RefA Z h' a K := by
  obtain ⟨cl, h1, r⟩ := F
  exact ⟨cl, E.2 _ _ h1, r⟩
theorem RefA.wr {h' : Heap} {a b : Addr} {K : String} {sl : Nat} {v : Value} (F : RefA Z h a K) (W : Wr h h' b sl v) : RefA Z h' a K := by
  obtain ⟨cl, h1, r⟩ := F
  obtain ⟨d, d1, d2, -⟩ := wr_at W h1
  exact ⟨d, d1, by rw [d2]; exact r⟩
theorem RefA.sto {a y : Addr} {K : String} {ty : FieldType} {vs : List Value} (F : RefA Z h a K) (V : Ary Z h a ty vs) (I : Ins Z h y K true) : Sto Z h a (.ref y) := by
  obtain ⟨cl, h1, r⟩ := F
  obtain ⟨c, A, -⟩ := V
  cases h1.symm.trans A.1
  exact Sto.of A r I
theorem newR (C : Cx Z W own nm code maxL ret) {K ad : String} {z : Int32} {ix k' n' cap : Nat} (hd : decode code pc = .ok (.anewarray ix, 3)) (w1 : (Cond.classLink own ix K).before a0 Z = true) (w2 : (Cond.arrayOver (.object K)).before a0 Z = true) (had : "[" ++ (FieldType.object K).toString = ad) (hz : ¬ z < 0) (hcap : z.toNatClampNeg ≤ cap) (hb : cap * 8 ≤ 536870912) (hc : k + 1 = k') (hl : n + cap = n') (hc' : k' ≤ R.cells) (hl' : n' ≤ R.slots) (hp : pc + 3 = pc')
    (r : ∀ a h', a = h.size → Z.heap.size ≤ a → Ext h h' → Ary Z h' a (.object K) (List.replicate z.toNatClampNeg .null) → Exa Z h' a ad → RefA Z h' a K → Ext Z.heap h' → Run l R Z W Q h' k' n' (mkF W.m pc' Ls (.ref a :: st))) : Run l R Z W Q h k n (mkF W.m pc Ls (.int z :: st)) := by
  subst hp hc hl
  intro T locs X eT N O
  obtain ⟨T', h', cA, X', e', E', A', I', O2, s'⟩ := newRE X C.hx C.hZ C.ow w1 w2 eT (g := mkF W.m pc Ls (.int z :: st)) rfl (C.hb hd) rfl hz hcap hb hc' hl' had
  have O' : Ext Z.heap h' := ((old_of O).ext E').2
  have hz2 : z.toNatClampNeg < 2 ^ 31 := (back32 hz).2
  refine Go.step s' (r h.size h' rfl O.1 E' ⟨_, A', ?_, by simpa using hz2, fun v hv => ?_⟩ I' ⟨_, A'.1, O2⟩ O' T' locs X' e' N O')
  · show Array.replicate _ (defaultValue (.object K)) = _
    rw [show defaultValue (.object K) = Value.null from rfl]
    simp
  · rw [(List.mem_replicate.mp hv).2]; rfl
theorem initO (C : Cx Z W own nm code maxL ret) {ix Wn : Nat} (hd : decode code pc = .ok (.invokespecial ix, 3)) (w1 : (Cond.methodLink own ix Lib.objectInit).before a0 Z = true) (w2 : (Cond.instanceMethod Lib.objectInit).before a0 Z = true) (w3 : (Cond.code Lib.objectInit ⟨#[0xb1]⟩ 1 none).before a0 Z = true) {a : Addr} (hsz : Ls.size = maxL) (hf : 1 ≤ R.frames) (hW : (st.map fun v => v.category).sum ≤ Wn) (hl : Wn + 12 ≤ R.locals) (hp : pc + 3 = pc')
    (r : Run l R Z W Q h k n (mkF W.m pc' Ls st)) : Run l R Z W Q h k n (mkF W.m pc Ls (.ref a :: st)) := by
  subst hp
  exact Run.via (fun T locs X eT => RoadKit.initO X C.hx C.hZ C.ow w1 w2 w3 eT (g := mkF W.m pc Ls (.ref a :: st)) rfl (hsz.trans C.ml.symm) rfl (C.hb hd) hf (W := Wn) (by show 2 * 0 + _ ≤ _; omega) hl) r
/-! ## contracts and calls -/
/-- the method y, called with these arguments at the heap h0, returns with Q -/
def Con (l : Launch) (Z : State) (y : MethodName) (bytes : ByteArray) (maxL : Nat) (ret : Option FieldType) (rm : Room) (as' : Array Value) (h0 : Heap) (Q : Post) : Prop :=
  ∀ ws, MetFree l y (head1 (Jvm.Cond.code y bytes maxL ret :: ws) rm) (fun a U => a = as' ∧ Z.Warmed39 U.vm ∧ U.heap = h0) (fun _ _ bl s _ => s.vm.MethodsKnown ∧ s.vm.FramesKnown bl) (fun _ U o U' => ∃ v L, o = .returned v ∧ (Q v U'.heap ∧ Ext Z.heap U'.heap ∧ Fr Z.heap.size L) ∧ FrameEnd U o U' L rm.cells rm.slots)
theorem Con.intro {y : MethodName} {bytes : ByteArray} {rm : Room} {as' : Array Value} {Ls0 : Array Slot} (hy : plainFor y = true) (O : Ext Z.heap h) (he : ∀ m, entryFrame m as' maxL = mkF m 0 Ls0 [])
    (body : ∀ W : Wd, Cx Z W y.cls y.name bytes maxL ret → Run l rm Z W Q h 0 0 (mkF W.m 0 Ls0 [])) : Con l Z y bytes maxL ret rm as' h Q := by
  intro ws
  refine MetFree.of_bodySF hy hisR ?_
  intro p e s m args below meth c s₁ Bd hml0 hP hK
  obtain ⟨rfl, hZ, hh⟩ := hP
  have e0 : s₁.heap = h := by rw [← hh, Bd.state]; rfl
  have X0 : Stand p l e rm s m args below meth c s₁ [] 0 0 := Stand.of_body Bd
  have r := body (p, e, s, m, args, below, meth, c) ⟨Bd.exec, Bd.bytes, hml0, findClass_of_methodNamed Bd.named, hZ, Bd.returns, (name_of_methodNamed Bd.named Bd.method).1, Bd.notSynchronized, hK.1, hK.2, by rw [show (s : State).heap = h from hh]; exact O⟩ s₁ [] X0 e0 (Fr.nil _) O
  rw [he m]
  exact r
theorem Con.mono {y : MethodName} {bytes : ByteArray} {rm : Room} {as' : Array Value} {Q' : Post} (c : Con l Z y bytes maxL ret rm as' h Q) (f : ∀ v h', Q v h' → Q' v h') : Con l Z y bytes maxL ret rm as' h Q' := by
  intro ws p e ha hc hk s m args below hf happ hP hK
  obtain ⟨n, o, h1, h2, h3, v, L, h4, ⟨h5, h6⟩, h7⟩ := c ws p e ha hc hk s m args below hf happ hP hK
  exact ⟨n, o, h1, h2, h3, v, L, h4, ⟨f _ _ h5, h6⟩, h7⟩
section Calls
variable {y : MethodName} {bytes : ByteArray} {mxL : Nat} {rt : Option FieldType} {rm : Room} {Qc : Post} {argsL : List Value} {as' : Array Value} {ix Wn k' n' kc nc : Nat} {st' : List Value}
/-- a law of the library, or a contract, as a call takes it -/
abbrev Pays (l : Launch) (R : Room) (W : Wd) (y : MethodName) (ln Wn : Nat) (as' : Array Value) (h : Heap) (kc nc : Nat) (Qv : Option Value → Heap → List Loc → Prop) : Prop :=
  Back l R W.p W.e W.b W.s W.a y ln Wn (fun P a => a = as' ∧ P.U.heap = h ∧ P.cells + kc ≤ R.cells ∧ P.slots + nc ≤ R.slots) (fun P _ v B => ∃ L, Qv v B.U.heap L ∧ B.locs = P.locs ++ L ∧ B.cells = P.cells + kc ∧ B.slots = P.slots + nc)
abbrev Clean (Z : State) (Qc : Post) (Qv : Option Value → Heap → List Loc → Prop) : Prop := ∀ v h' L, Qv v h' L → Qc v h' ∧ Ext Z.heap h' ∧ Fr Z.heap.size L
theorem Con.pays (C : Cx Z W own nm code maxL ret) {ln : Nat} (K : Con l Z y bytes mxL rt rm as' h Qc) (w4 : (Cond.code y bytes mxL rt).before a0 Z = true) (wz : (Cond.initialized y.cls).before a0 Z = true) (hf : rm.frames + 1 ≤ R.frames) (hl : Wn + (mxL + 11) + rm.locals ≤ R.locals) :
    Pays l R W y ln Wn as' h rm.cells rm.slots (fun v h' L => Qc v h' ∧ Ext Z.heap h' ∧ Fr Z.heap.size L) := backOfKL (W := Wn) (Q := fun v h' L => Qc v h' ∧ Ext Z.heap h' ∧ Fr Z.heap.size L) (K []) C.hZ w4 wz hf hl C.tk C.fk
theorem callS (C : Cx Z W own nm code maxL ret) (hd : decode code pc = .ok (.invokestatic ix, 3)) {Qv : Option Value → Heap → List Loc → Prop} (K : Pays l R W y 3 Wn as' h kc nc Qv) (hQ : Clean Z Qc Qv) (w1 : (Cond.methodLink own ix y).before a0 Z = true) (w2 : (Cond.static y).before a0 Z = true) (w3 : (Cond.initialized y.cls).before a0 Z = true) (w4 : (Cond.code y bytes mxL rt).before a0 Z = true) (hy : y.cls ≠ "java/lang/invoke/MethodHandle" ∧ y.cls ≠ "java/lang/invoke/VarHandle")
    (has : argsL.toArray = as') (hst : argsL.reverse ++ st = st') (hlen : ∀ sig, parseMethodDescriptor y.desc = some sig → argsL.length = sig.parameters.length) (hsz : Ls.size = maxL) (hW : (st.map fun v => v.category).sum ≤ Wn) (hk : k + kc = k') (hn : n + nc = n') (hk' : k' ≤ R.cells) (hn' : n' ≤ R.slots) (hp : pc + 3 = pc')
    (r : ∀ v h', Qc v h' → Ext Z.heap h' → Run l R Z W Q h' k' n' (mkF W.m pc' Ls (v.toList ++ st))) : Run l R Z W Q h k n (mkF W.m pc Ls st') := by
  subst hp hk hn has hst
  intro T locs X eT N O
  obtain ⟨v, vm₁, ⟨T', L', k', n'⟩, -, X', ⟨L, q0, l1, y1, z1⟩, s'⟩ := Jvm.LawKit.callS X C.hx (y := y) C.ow (mvT C.hZ w1) (mvT C.hZ w2) (mvT C.hZ w3) (mvT C.hZ w4) hy K (g := mkF W.m pc Ls (argsL.reverse ++ st)) rfl (hsz.trans C.ml.symm) (argsL := argsL) (rest := st) hlen rfl (by show 2 * 0 + _ ≤ _; omega) (C.hb hd) (fun _ _ => ⟨rfl, eT, hk', hn'⟩)
  dsimp only [Pt.U, Pt.locs, Pt.cells, Pt.slots] at X' l1 y1 z1 s' q0
  subst l1 y1 z1
  obtain ⟨q1, q2, q3⟩ := hQ _ _ _ q0
  exact Go.step s' (r v T'.heap q1 q2 T' _ X' rfl (N.app q3) q2)
theorem callI (C : Cx Z W own nm code maxL ret) (hd : decode code pc = .ok (.invokespecial ix, 3)) {a : Addr} {Qv : Option Value → Heap → List Loc → Prop} (K : Pays l R W y 3 Wn as' h kc nc Qv) (hQ : Clean Z Qc Qv) (hi : y.name = "<init>") (w1 : (Cond.methodLink own ix y).before a0 Z = true) (w2 : (Cond.instanceMethod y).before a0 Z = true) (w4 : (Cond.code y bytes mxL none).before a0 Z = true) (hy : y.cls ≠ "java/lang/invoke/MethodHandle" ∧ y.cls ≠ "java/lang/invoke/VarHandle")
    (has : (Value.ref a :: argsL).toArray = as') (hst : argsL.reverse ++ .ref a :: st = st') (hlen : ∀ sig, parseMethodDescriptor y.desc = some sig → argsL.length = sig.parameters.length) (hsz : Ls.size = maxL) (hW : (st.map fun v => v.category).sum ≤ Wn) (hk : k + kc = k') (hn : n + nc = n') (hk' : k' ≤ R.cells) (hn' : n' ≤ R.slots) (hp : pc + 3 = pc')
    (r : ∀ v h', Qc v h' → Ext Z.heap h' → Run l R Z W Q h' k' n' (mkF W.m pc' Ls (v.toList ++ st))) : Run l R Z W Q h k n (mkF W.m pc Ls st') := by
  subst hp hk hn has hst
  intro T locs X eT N O
  obtain ⟨v, vm₁, ⟨T', L', k', n'⟩, -, X', ⟨L, q0, l1, y1, z1⟩, s'⟩ := X.specialBack C.hx (y := y) hi C.ow (mvT C.hZ w1) (mvT C.hZ w2) (mvT C.hZ w4) hy K (g := mkF W.m pc Ls (argsL.reverse ++ .ref a :: st)) rfl (hsz.trans C.ml.symm) (Steps.refl _) (a := a) (argsL := argsL) (rest := st) hlen rfl (by show 2 * 0 + _ ≤ _; omega) (C.hb hd) (fun _ _ => ⟨rfl, eT, hk', hn'⟩)
  dsimp only [Pt.U, Pt.locs, Pt.cells, Pt.slots] at X' l1 y1 z1 s' q0
  subst l1 y1 z1
  obtain ⟨q1, q2, q3⟩ := hQ _ _ _ q0
  exact Go.step (fun t => s'.trans) (r v T'.heap q1 q2 T' _ X' rfl (N.app q3) q2)
theorem callV (C : Cx Z W own nm code maxL ret) (hd : decode code pc = .ok (.invokevirtual ix, 3)) {y0 : MethodName} {K0 : String} {a : Addr} {Qv : Option Value → Heap → List Loc → Prop} (K : Pays l R W y 3 Wn as' h kc nc Qv) (hQ : Clean Z Qc Qv) (E : Exa Z h a K0) (w1 : (Cond.methodLink own ix y0).before a0 Z = true) (w2 : (Cond.declares y0).before a0 Z = true) (nf : NotFace W.s y0) (w3 : (Cond.selects K0 y0 y).before a0 Z = true) (w5 : (Cond.instanceMethod y).before a0 Z = true) (hy : y0.cls ≠ "java/lang/invoke/MethodHandle" ∧ y0.cls ≠ "java/lang/invoke/VarHandle")
    (has : (Value.ref a :: argsL).toArray = as') (hst : argsL.reverse ++ .ref a :: st = st') (hlen : ∀ sig, parseMethodDescriptor y0.desc = some sig → argsL.length = sig.parameters.length) (hsz : Ls.size = maxL) (hW : (st.map fun v => v.category).sum ≤ Wn) (hk : k + kc = k') (hn : n + nc = n') (hk' : k' ≤ R.cells) (hn' : n' ≤ R.slots) (hp : pc + 3 = pc')
    (r : ∀ v h', Qc v h' → Ext Z.heap h' → Run l R Z W Q h' k' n' (mkF W.m pc' Ls (v.toList ++ st))) : Run l R Z W Q h k n (mkF W.m pc Ls st') := by
  subst hp hk hn has hst
  intro T locs X eT N O
  obtain ⟨cq, kq, qa, qb, qc⟩ := isOf C.hZ eT E
  obtain ⟨v, vm₁, ⟨T', L', k', n'⟩, -, X', ⟨L, q0, l1, y1, z1⟩, s'⟩ := X.virtualBack C.hx (y := y0) (z := y) C.ow (mvT C.hZ w1) (mvT C.hZ w2) nf (mvT C.hZ w3) (mvT C.hZ w5) hy K qa qc (g := mkF W.m pc Ls (argsL.reverse ++ .ref a :: st)) rfl (hsz.trans C.ml.symm) (Steps.refl _) (argsL := argsL) (rest := st) hlen rfl (by show 2 * 0 + _ ≤ _; omega) (C.hb hd) (fun _ _ => ⟨rfl, eT, hk', hn'⟩)
  dsimp only [Pt.U, Pt.locs, Pt.cells, Pt.slots] at X' l1 y1 z1 s' q0
  subst l1 y1 z1
  obtain ⟨q1, q2, q3⟩ := hQ _ _ _ q0
  exact Go.step (fun t => s'.trans) (r v T'.heap q1 q2 T' _ X' rfl (N.app q3) q2)
theorem callVU (C : Cx Z W own nm code maxL ret) (hd : decode code pc = .ok (.invokevirtual ix, 3)) {y0 : MethodName} {K0 owner : String} {a : Addr} {Qv : Option Value → Heap → List Loc → Prop} (K : Pays l R W y 3 Wn as' h kc nc Qv) (hQ : Clean Z Qc Qv) (E : Exa Z h a K0) (w1 : (Cond.methodLink own ix y0).before a0 Z = true) (w0 : (Cond.sameMethod y0.cls owner y0.name y0.desc).before a0 Z = true) (w2 : (Cond.declares ⟨owner, y0.name, y0.desc⟩).before a0 Z = true) (w3 : (Cond.selects K0 y0 y).before a0 Z = true) (w5 : (Cond.instanceMethod y).before a0 Z = true) (hy : owner ≠ "java/lang/invoke/MethodHandle" ∧ owner ≠ "java/lang/invoke/VarHandle")
    (has : (Value.ref a :: argsL).toArray = as') (hst : argsL.reverse ++ .ref a :: st = st') (hlen : ∀ sig, parseMethodDescriptor y0.desc = some sig → argsL.length = sig.parameters.length) (hsz : Ls.size = maxL) (hW : (st.map fun v => v.category).sum ≤ Wn) (hk : k + kc = k') (hn : n + nc = n') (hk' : k' ≤ R.cells) (hn' : n' ≤ R.slots) (hp : pc + 3 = pc')
    (r : ∀ v h', Qc v h' → Ext Z.heap h' → Run l R Z W Q h' k' n' (mkF W.m pc' Ls (v.toList ++ st))) : Run l R Z W Q h k n (mkF W.m pc Ls st') := by
  subst hp hk hn has hst
  intro T locs X eT N O
  obtain ⟨cq, kq, qa, qb, qc⟩ := isOf C.hZ eT E
  obtain ⟨v, vm₁, ⟨T', L', k', n'⟩, -, X', ⟨L, q0, l1, y1, z1⟩, s'⟩ := X.virtualBackUp C.hx (x := y0) (y := y) C.ow (mvT C.hZ w1) (mvT C.hZ w0) (mvT C.hZ w2) hy (mvT C.hZ w3) (mvT C.hZ w5) K qa qc (g := mkF W.m pc Ls (argsL.reverse ++ .ref a :: st)) rfl (hsz.trans C.ml.symm) (Steps.refl _) (argsL := argsL) (rest := st) hlen rfl (by show 2 * 0 + _ ≤ _; omega) (C.hb hd) (fun _ _ => ⟨rfl, eT, hk', hn'⟩)
  dsimp only [Pt.U, Pt.locs, Pt.cells, Pt.slots] at X' l1 y1 z1 s' q0
  subst l1 y1 z1
  obtain ⟨q1, q2, q3⟩ := hQ _ _ _ q0
  exact Go.step (fun t => s'.trans) (r v T'.heap q1 q2 T' _ X' rfl (N.app q3) q2)
theorem cleanC {Qc : Post} : Clean Z Qc (fun v h' L => Qc v h' ∧ Ext Z.heap h' ∧ Fr Z.heap.size L) := fun v h' L q => q
end Calls
theorem Ext.refl (h : Heap) : Ext h h := ⟨Nat.le_refl _, fun _ _ q => q⟩
theorem Ext.trans {h1 h2 h3 : Heap} (A : Ext h1 h2) (B : Ext h2 h3) : Ext h1 h3 := ⟨Nat.le_trans A.1 B.1, fun a c q => B.2 a c (A.2 a c q)⟩
theorem Ext.wr {Z : State} {h1 h2 h3 : Heap} {a : Addr} {sl : Nat} {v : Value} (A : Ext h1 h2) (B : Wr h2 h3 a sl v) (q : h1.size ≤ a) : Ext h1 h3 := ((old_of (Z := { Z with heap := h1 }) A).wr B q).2
theorem Ext.keep1 {Z : State} {h1 h2 h3 : Heap} {a : Addr} (A : Ext h1 h2) (B : Keep h2 h3 [a]) (q : h1.size ≤ a) : Ext h1 h3 := ((old_of (Z := { Z with heap := h1 }) A).keep B (allS q all0)).2
/-! ## the call of fillInStackTrace() -/
abbrev supW : Cond := .lays Jvm.Bundle.tN Jvm.Bundle.tN "suppressedExceptions" Jvm.Bundle.listD
theorem untWr {a b : Addr} {sl : Nat} {v : Value} {h1 h2 : Heap} (U : Unt h1 a) (w : Wr h1 h2 b sl v) : Unt h2 a := by
  obtain ⟨c0, w1, w2, w3, rfl⟩ := w
  obtain ⟨c, u1, u2, u3⟩ := U
  by_cases e : b = a
  · subst e
    cases u1.symm.trans w1
    exact ⟨_, Array.getElem?_setIfInBounds_self_of_lt (Array.getElem?_eq_some_iff.mp u1).1, u2, u3⟩
  · exact ⟨c, by rw [Array.getElem?_setIfInBounds_ne e]; exact u1, u2, u3⟩
theorem fldOf {h1 h2 : Heap} {a : Addr} {K O nF dF : String} {sl : Nat} {ws : List Addr} (U : Unt h1 a) (Kp : Keep h1 h2 ws) (E : Exa Z h2 a K) (wi : (Cond.instantiable K sl).before a0 Z = true) (Lf : Laid Z a0 K O nF dF) : ∃ v, Fld Z h2 a O nF dF v := by
  obtain ⟨c0, u1, u2, -⟩ := U
  obtain ⟨c', q1, -, q3, -⟩ := Kp.2.2 _ _ u1
  exact fld_laid E ⟨c', q1, by rw [q3, u2]; simp⟩ wi Lf
set_option maxHeartbeats 4000000 in
theorem links {s : State} {args : Array Value} {pl : Platform} {rc : String} (hrc : rc ≠ Jvm.Bundle.tN) (howns : pl.frameOwnsMonitors = true) (hfin : pl.finalization = false) (hpl : pl.magicAccessors = ({} : Platform).magicAccessors)
    (ws : ∀ w : Cond, w ∈ Jvm.Free.Exc.excAtoms rc → w ≠ supW → w.holds args s none s [] = true) :
    ∃ T : ThrowableC, T.Links pl s ∧ s.vm.findClass Jvm.Bundle.tN = some T.cT ∧ s.methodNamed? Jvm.Bundle.tFill = some T.fill ∧ s.methodNamed? Jvm.Bundle.tFill0 = some T.fill0 ∧
      s.fieldFound? Jvm.Bundle.tN "stackTrace" Jvm.Bundle.steD = some (T.cT, T.kT, T.i17, T.fStack) ∧ s.fieldFound? Jvm.Bundle.tN "UNASSIGNED_STACK" Jvm.Bundle.steD = some (T.cT, T.kT, T.i13, T.fUnassigned) ∧ T.fStack.type = .array (.object "java/lang/StackTraceElement") := by
  obtain ⟨⟨cT, jN⟩, mN, nN, aN, nat, cod, lck, sgN⟩ := Cond.native_spec (ws (.native Jvm.Bundle.tFill0) (by simp [Jvm.Free.Exc.excAtoms, Jvm.Bundle.throwableAtoms]) (by simp [supW]))
  have fT : s.vm.findClass Jvm.Bundle.tN = some cT := findClass_of_methodNamed nN
  obtain ⟨kT, atT, nameT⟩ := Vm.findClass_spec fT
  have bootT := Vm.findClass_boot fT atT
  have initT := Cond.initialized_spec fT atT (ws (.initialized Jvm.Bundle.tN) (by simp [Jvm.Free.Exc.excAtoms, Jvm.Bundle.throwableAtoms]) (by simp [supW]))
  obtain ⟨-, kS, -, -, atS, -, -, -, -, faceT⟩ := Cond.superclass_spec fT (ws (.superclass Jvm.Bundle.tN "java/lang/Object") (by simp [Jvm.Free.Exc.excAtoms, Jvm.Bundle.throwableAtoms]) (by simp [supW]))
  cases Option.some.inj (atT.symm.trans atS)
  obtain ⟨jF, mF, nF, aF, inF, stF, abF, -, -⟩ := Cond.ownMethod (x := Jvm.Bundle.tFill) fT atT (ws (.instanceMethod Jvm.Bundle.tFill) (by simp [Jvm.Free.Exc.excAtoms, Jvm.Bundle.throwableAtoms]) (by simp [supW]))
  obtain ⟨mF', kF, aF', cF, bF, lF, rF, yF, -, gF⟩ := Cond.codeSync_spec nF (ws (.codeSync Jvm.Bundle.tFill LibCode.Throwable.Fill.code 1 (some (.object Jvm.Bundle.tN))) (by simp [Jvm.Free.Exc.excAtoms, Jvm.Bundle.throwableAtoms]) (by simp [supW]))
  cases Option.some.inj (aF.symm.trans aF')
  obtain ⟨jN', mN', nN', aN', inN, stN, abN, nmN, dsN⟩ := Cond.ownMethod (x := Jvm.Bundle.tFill0) fT atT (ws (.instanceMethod Jvm.Bundle.tFill0) (by simp [Jvm.Free.Exc.excAtoms, Jvm.Bundle.throwableAtoms]) (by simp [supW]))
  cases Option.some.inj (nN.symm.trans nN')
  cases Option.some.inj (aN.symm.trans aN')
  obtain ⟨jI, mI, nI, aI, inI, -, -, -, -⟩ := Cond.ownMethod (x := Jvm.Bundle.tInit0) fT atT (ws (.instanceMethod Jvm.Bundle.tInit0) (by simp [Jvm.Free.Exc.excAtoms, Jvm.Bundle.throwableAtoms]) (by simp [supW]))
  obtain ⟨mI', kI, aI', cI, bI, lI, -, yI, -, -⟩ := Cond.code_spec nI (ws (.code Jvm.Bundle.tInit0 LibCode.Throwable.Init0.code 1 none) (by simp [Jvm.Free.Exc.excAtoms, Jvm.Bundle.throwableAtoms]) (by simp [supW]))
  cases Option.some.inj (aI.symm.trans aI')
  obtain ⟨mO, hO, nO, aO, stO, abO⟩ := Cond.instanceMethod_spec (ws (.instanceMethod Jvm.Bundle.oInit) (by simp [Jvm.Free.Exc.excAtoms, Jvm.Bundle.throwableAtoms]) (by simp [supW]))
  obtain ⟨hO', kO, aO', cO, bO, lO, -, yO, -, gO⟩ := Cond.code_spec nO (ws (.code Jvm.Bundle.oInit ⟨#[0xb1]⟩ 1 none) (by simp [Jvm.Free.Exc.excAtoms, Jvm.Bundle.throwableAtoms]) (by simp [supW]))
  cases Option.some.inj (aO.symm.trans aO')
  obtain ⟨jO, atO, nameO⟩ := Vm.findClass_spec (findClass_of_methodNamed nO)
  obtain ⟨nmO, dsO⟩ := name_of_methodNamed nO aO
  obtain ⟨c1, e1, cf0, l1, r1, fl0, p1⟩ := Cond.linkedMethod fT atT nO (ws (.methodLink Jvm.Bundle.tN 1 Jvm.Bundle.oInit) (by simp [Jvm.Free.Exc.excAtoms, Jvm.Bundle.throwableAtoms]) (by simp [supW])) pl hpl
  obtain ⟨c27, e27, cf1, l27, r27, fl1, p27⟩ := Cond.linkedMethod fT atT nF (ws (.methodLink Jvm.Bundle.tN 27 Jvm.Bundle.tFill) (by simp [Jvm.Free.Exc.excAtoms, Jvm.Bundle.throwableAtoms]) (by simp [supW])) pl hpl
  cases Option.some.inj (fl0.symm.trans fl1)
  obtain ⟨c202, e202, cf2, l202, r202, fl2, p202⟩ := Cond.linkedMethod fT atT nN (ws (.methodLink Jvm.Bundle.tN 202 Jvm.Bundle.tFill0) (by simp [Jvm.Free.Exc.excAtoms, Jvm.Bundle.throwableAtoms]) (by simp [supW])) pl hpl
  cases Option.some.inj (fl0.symm.trans fl2)
  obtain ⟨d7, j7, f7, q7, g7, o7, s7, w7, m7, y7, z7⟩ := Cond.ownField (t := .object Jvm.Bundle.tN) fT atT (by decide +kernel) (ws (.fieldLink Jvm.Bundle.tN 7 Jvm.Bundle.tN "cause" "Ljava/lang/Throwable;") (by simp [Jvm.Free.Exc.excAtoms, Jvm.Bundle.throwableAtoms]) (by simp [supW])) (ws (.lays Jvm.Bundle.tN Jvm.Bundle.tN "cause" "Ljava/lang/Throwable;") (by simp [Jvm.Free.Exc.excAtoms, Jvm.Bundle.throwableAtoms]) (by simp [supW])) pl hpl
  obtain ⟨d17, j17, f17, q17, g17, o17, s17, w17, m17, y17, z17⟩ := Cond.ownField (t := .array (.object "java/lang/StackTraceElement")) fT atT (by decide +kernel) (ws (.fieldLink Jvm.Bundle.tN 17 Jvm.Bundle.tN "stackTrace" Jvm.Bundle.steD) (by simp [Jvm.Free.Exc.excAtoms, Jvm.Bundle.throwableAtoms]) (by simp [supW])) (ws (.lays Jvm.Bundle.tN Jvm.Bundle.tN "stackTrace" Jvm.Bundle.steD) (by simp [Jvm.Free.Exc.excAtoms, Jvm.Bundle.throwableAtoms]) (by simp [supW])) pl hpl
  obtain ⟨d24, j24, f24, q24, g24, o24, s24, w24, m24, y24, z24⟩ := Cond.ownField (t := .object "java/util/List") fT atT (by decide +kernel) (ws (.fieldLink Jvm.Bundle.tN 24 Jvm.Bundle.tN "suppressedExceptions" Jvm.Bundle.listD) (by simp [Jvm.Free.Exc.excAtoms, Jvm.Bundle.throwableAtoms]) (by simp [supW])) (ws (.lays rc Jvm.Bundle.tN "suppressedExceptions" Jvm.Bundle.listD) (by simp [Jvm.Free.Exc.excAtoms, Jvm.Bundle.throwableAtoms]) (by simp [supW, hrc])) pl hpl
  obtain ⟨d13, j13, f13, aS13, cS13, q13, g13, o13, s13, -, -, t13, -, -, -, -, z13⟩ := Cond.ownStatic (t := .array (.object "java/lang/StackTraceElement")) fT atT (by decide +kernel) (ws (.fieldLink Jvm.Bundle.tN 13 Jvm.Bundle.tN "UNASSIGNED_STACK" Jvm.Bundle.steD) (by simp [Jvm.Free.Exc.excAtoms, Jvm.Bundle.throwableAtoms]) (by simp [supW])) (ws (.laysStatic Jvm.Bundle.tN "UNASSIGNED_STACK" Jvm.Bundle.steD) (by simp [Jvm.Free.Exc.excAtoms, Jvm.Bundle.throwableAtoms]) (by simp [supW])) pl hpl
  obtain ⟨d20, j20, f20, aS20, cS20, q20, g20, o20, s20, -, -, t20, -, -, -, -, z20⟩ := Cond.ownStatic (t := .object "java/util/List") fT atT (by decide +kernel) (ws (.fieldLink Jvm.Bundle.tN 20 Jvm.Bundle.tN "SUPPRESSED_SENTINEL" Jvm.Bundle.listD) (by simp [Jvm.Free.Exc.excAtoms, Jvm.Bundle.throwableAtoms]) (by simp [supW])) (ws (.laysStatic Jvm.Bundle.tN "SUPPRESSED_SENTINEL" Jvm.Bundle.listD) (by simp [Jvm.Free.Exc.excAtoms, Jvm.Bundle.throwableAtoms]) (by simp [supW])) pl hpl
  obtain ⟨-, -, cM, kM, jM, fM, -, -, zM, sM, wM, -⟩ := Cond.lays_spec (ws (.lays Jvm.Bundle.tN Jvm.Bundle.tN "detailMessage" "Ljava/lang/String;") (by simp [Jvm.Free.Exc.excAtoms, Jvm.Bundle.throwableAtoms]) (by simp [supW]))
  obtain ⟨cR, kR, -, -, -, -, fR, atR, -⟩ := Cond.lays_spec (ws (.lays rc Jvm.Bundle.tN "suppressedExceptions" Jvm.Bundle.listD) (by simp [Jvm.Free.Exc.excAtoms, Jvm.Bundle.throwableAtoms]) (by simp [supW, hrc]))
  obtain ⟨-, dA, eA, nA⟩ := Cond.laysAt fR atR z17 (ws (.lays rc Jvm.Bundle.tN "stackTrace" Jvm.Bundle.steD) (by simp [Jvm.Free.Exc.excAtoms, Jvm.Bundle.throwableAtoms]) (by simp [supW, hrc]))
  obtain ⟨-, dB, eB, nB⟩ := Cond.laysAt fR atR z24 (ws (.lays rc Jvm.Bundle.tN "suppressedExceptions" Jvm.Bundle.listD) (by simp [Jvm.Free.Exc.excAtoms, Jvm.Bundle.throwableAtoms]) (by simp [supW, hrc]))
  have apart : f17.slot ≠ f24.slot := Cond.laysApart eA eB nA nB (by rw [m17, m24]; decide)
  have pF : mF.sig.parameters = [] := by
    have q : (parseMethodDescriptor (Jvm.Bundle.tFill).desc).map (·.parameters) = some [] := by decide +kernel
    rw [gF] at q; simpa using q
  have pN : mN.sig.parameters = [.int] := by
    have q : (parseMethodDescriptor (Jvm.Bundle.tFill0).desc).map (·.parameters) = some [.int] := by decide +kernel
    rw [sgN] at q; simpa using q
  have pO : hO.sig.parameters.length = 0 := by
    have q : (parseMethodDescriptor (Jvm.Bundle.oInit).desc).map (·.parameters) = some [] := by decide +kernel
    rw [gO] at q
    have q2 : hO.sig.parameters = [] := by simpa using q
    rw [q2]; rfl
  exact ⟨{ cT := cT, kT := kT, cO := cT, aS := aS13, fillIdx := jF, fill0Idx := jN, initSIdx := jI, obj := mO, kObj := jO, methFill := mF, methFill0 := mN, methInitS := mI, methObj := hO, codeFill := kF, codeInitS := kI, codeObj := kO, fBack := f7, fDepth := f7, fStack := f17, fCause := f7, fSupp := f24, fMsg := fM, fUnassigned := f13, fSentinel := f20, cfT := cf0, ci1 := c1, n1 := e1, ci27 := c27, n27 := e27, ci202 := c202, n202 := e202, ci7 := d7, i7 := j7, ci13 := d13, i13 := j13, ci17 := d17, i17 := j17, ci20 := d20, i20 := j20, ci24 := d24, i24 := j24 }, { owns := howns, noFinalization := hfin, cls := atT, name := nameT, boot := bootT, notInterface := faceT, initialized := initT, statics := t13, fillAt := inF, fillCode := cF, fillBytes := bF, fillLocals := lF, fillLocks := yF, fillStatic := stF, fillAbstract := abF, fillReturns := rF, fillParams := pF, fill0At := inN, fill0Name := nmN, fill0Desc := dsN, fill0Params := pN, fill0Static := stN, fill0Native := nat, fill0Code := cod, fill0Locks := lck, fill0Abstract := abN, stackInstance := s17, stackNotFinal := w17, unassignedStatic := s13, objClass := atO, objClassName := nameO, objMethod := aO, objName := nmO, objStatic := stO, objAbstract := abO, objFound := by rw [dsO]; exact lookupSpecial_of_named nO aO stO, objParams := pO, objCode := cO, objBytes := bO, objLocks := yO, causeInstance := s7, causeNotFinal := w7, sentinelStatic := s20, suppInstance := s24, suppNotFinal := w24, msgInstance := sM, msgNotFinal := wM, stackApartSupp := apart, file := fl0, mlink1 := l1, mright1 := r1, pool1 := p1, mlink27 := l27, mright27 := r27, pool27 := p27, mlink202 := l202, mright202 := r202, pool202 := p202, link7 := q7, right7 := g7, at7 := o7, link13 := q13, right13 := g13, at13 := o13, link17 := q17, right17 := g17, at17 := o17, link20 := q20, right20 := g20, at20 := o20, link24 := q24, right24 := g24, at24 := o24 }, fT, nF, nN, z17, z13, y17⟩
set_option maxHeartbeats 4000000 in
theorem fillP (C : Cx Z W own nm code maxL ret) (hl : l.stackTraces = true) {rc : String} {sl Wn : Nat} (hrc : rc ≠ Jvm.Bundle.tN) (hw : ∀ w : Cond, w ∈ Jvm.Free.Exc.excAtoms rc → w ≠ supW → w.before a0 Z = true) (wi : (Cond.instantiable rc sl).before a0 Z = true)
    {a u : Addr} (ha : Z.heap.size ≤ a) (E : Exa Z h a rc) (U : Unt h a) (B : Fld Z h a "java/lang/Throwable" "backtrace" "Ljava/lang/Object;" .null) (S : Fld Z h a "java/lang/Throwable" "stackTrace" "[Ljava/lang/StackTraceElement;" (.ref u)) (SU : Sta Z Z.heap "java/lang/Throwable" "UNASSIGNED_STACK" "[Ljava/lang/StackTraceElement;" (.ref u)) (O : Ext Z.heap h)
    (hf : 3 ≤ R.frames) (hlo : Wn + 42 ≤ R.locals) :
    Pays l R W Jvm.Bundle.tFill 3 Wn #[.ref a] h 1 2752 (fun v h' L => (v = some (.ref a) ∧ Keep h h' [a]) ∧ Ext Z.heap h' ∧ Fr Z.heap.size L) := by
  intro m meth c P g ig mk as X hg hsize hdg hWd hmk hPre
  obtain ⟨p1, p2, p3, p4⟩ := hPre
  have htr : W.e.platform.stackTraces = true := by rw [X.admits.platform]; exact hl
  have howns : W.e.platform.frameOwnsMonitors = true := by rw [X.admits.platform]
  have hfin : W.e.platform.finalization = false := by rw [X.admits.platform]
  have hpl : W.e.platform.magicAccessors = ({} : Platform).magicAccessors := by rw [X.admits.platform]
  have hal : Z.vm.Alike W.s.vm := C.hZ.alike
  have ws : ∀ w : Cond, w ∈ Jvm.Free.Exc.excAtoms rc → w ≠ supW → w.holds W.a W.s none W.s [] = true := fun w hm hn => mvX (ThS.ext C.e0 ThS.start) C.hZ (List.all_eq_true.mp exc_ok w hm) (hw w hm hn)
  obtain ⟨T, L, yT, yF, yN, yS, yU, tS⟩ := links hrc howns hfin hpl ws
  obtain ⟨cell, kc, h1, h2, h3, -, h5⟩ := E
  obtain ⟨c2, u1, u2, u3⟩ := U
  cases h1.symm.trans u1
  obtain ⟨c4, k2, i1, i2, i3, -⟩ := Cond.instantiable_spec wi
  cases h2.symm.trans i1
  cases h3.symm.trans i2
  obtain ⟨kX, q1, q2⟩ := hal.2.2 _ _ h3
  have fX : W.s.vm.findClass rc = some cell.cls := by rw [hal.findClass]; exact h2
  have oX : kX.kind = .ordinary := by rw [q2]; exact i3
  have zX : cell.slots.size = kX.instanceTypes.size := by rw [q2]; exact h5 i3
  have sel : selectMethod W.e.platform W.s.vm cell.cls T.fill0 = .method T.fill0 := by
    obtain ⟨c5, r5, m5, x1, x2, x3, x4, -⟩ := Cond.selects_spec (ws (.selects rc Jvm.Bundle.tFill0 Jvm.Bundle.tFill0) (by simp [Jvm.Free.Exc.excAtoms, Jvm.Bundle.throwableAtoms]) (by simp [supW]))
    cases Option.some.inj (x1.symm.trans fX)
    cases Option.some.inj (x2.symm.trans (State.methodFound?_of_named yN (by decide)))
    cases Option.some.inj (x3.symm.trans yN)
    rw [Launch.admits_selectMethod X.admits]; exact x4
  obtain ⟨cf, i, k', f, stA, cellS, s1, s2, s3, s4, s5, s6, s7⟩ := SU
  obtain ⟨k6, v1, v2⟩ := State.fieldFound?_setVm hal s1
  cases v1.symm.trans yU
  have aS : T.aS = stA := by
    have q := L.statics
    rw [v2] at q
    exact Option.some.inj (q.symm.trans s4)
  have hS : h[T.aS]? = some cellS := by rw [aS]; exact O.2 _ _ s5
  have neS : T.aS ≠ a := fun e => by
    rw [e] at hS
    cases h1.symm.trans hS
    rw [u2] at s6; cases s6
  have knS : cellS.vm ≠ .unknown := fun e => by rw [e] at s6; cases s6
  obtain ⟨c7, cf7, k7, i7, f7, b1, b2, -, -, -, -, b7⟩ := S
  cases h1.symm.trans b1
  obtain ⟨k8, v3, -⟩ := State.fieldFound?_setVm hal b2
  cases v3.symm.trans yS
  obtain ⟨d198, j198, fB, q198, g198, o198, sB, -, nB, tB, zB⟩ := Cond.ownField (t := .object "java/lang/Object") yT L.cls (by decide +kernel) (ws (.fieldLink Jvm.Bundle.tN 198 Jvm.Bundle.tN "backtrace" Jvm.Free.Exc.obD) (by simp [Jvm.Free.Exc.excAtoms, Jvm.Bundle.throwableAtoms]) (by simp [supW])) (ws (.lays Jvm.Bundle.tN Jvm.Bundle.tN "backtrace" Jvm.Free.Exc.obD) (by simp [Jvm.Free.Exc.excAtoms, Jvm.Bundle.throwableAtoms]) (by simp [supW])) W.e.platform hpl
  obtain ⟨c9, cf9, k9, i9, f9, e1, e2, -, -, -, -, e7⟩ := B
  cases h1.symm.trans e1
  obtain ⟨k10, v4, -⟩ := State.fieldFound?_setVm hal e2
  cases v4.symm.trans zB
  obtain ⟨-, -, cD, kD, iD, fD, -, -, zD, sD, -⟩ := Cond.lays_spec (ws (.lays rc Jvm.Bundle.tN "depth" "I") (by simp [Jvm.Free.Exc.excAtoms, Jvm.Bundle.throwableAtoms]) (by simp [supW, hrc]))
  cases Option.some.inj ((Cond.lays_declared (ws (.lays rc Jvm.Bundle.tN "depth" "I") (by simp [Jvm.Free.Exc.excAtoms, Jvm.Bundle.throwableAtoms]) (by simp [supW, hrc])) zD).symm.trans yT)
  obtain ⟨aD, oD⟩ := State.fieldFound?_spec zD
  cases Option.some.inj (aD.symm.trans L.cls)
  obtain ⟨nD, tD⟩ := State.fieldFound?_type zD (t := .int) (by decide +kernel)
  have hfb := Cond.soleField_find yT L.cls (ws (.soleField Jvm.Bundle.tN "backtrace") (by simp [Jvm.Free.Exc.excAtoms, Jvm.Bundle.throwableAtoms]) (by simp [supW])) o198 nB sB
  have hfd := Cond.soleField_find yT L.cls (ws (.soleField Jvm.Bundle.tN "depth") (by simp [Jvm.Free.Exc.excAtoms, Jvm.Bundle.throwableAtoms]) (by simp [supW])) oD nD sD
  obtain ⟨comp, cO, kO, -, -, aO, kO', fO⟩ := Cond.arrayOver_spec (args := W.a) (s := W.s) (ws (.arrayOver (.object "java/lang/Object")) (by simp [Jvm.Free.Exc.excAtoms, Jvm.Bundle.throwableAtoms]) (by simp [supW]))
  obtain ⟨lS, -⟩ := Cond.laysAt fX q1 yS (ws (.lays rc Jvm.Bundle.tN "stackTrace" Jvm.Bundle.steD) (by simp [Jvm.Free.Exc.excAtoms, Jvm.Bundle.throwableAtoms]) (by simp [supW, hrc]))
  obtain ⟨lB, -⟩ := Cond.laysAt fX q1 zB (ws (.lays rc Jvm.Bundle.tN "backtrace" Jvm.Free.Exc.obD) (by simp [Jvm.Free.Exc.excAtoms, Jvm.Bundle.throwableAtoms]) (by simp [supW, hrc]))
  obtain ⟨lD, -⟩ := Cond.laysAt fX q1 zD (ws (.lays rc Jvm.Bundle.tN "depth" "I") (by simp [Jvm.Free.Exc.excAtoms, Jvm.Bundle.throwableAtoms]) (by simp [supW, hrc]))
  have tk : ∀ {f : Field} {v : Value}, kX.instanceTypes[f.slot]? = some f.type → fits f.type v = true → Takes W.s cell f v := fun {f v} x1 x2 => by
    obtain ⟨y1, y2⟩ := Takes.of_laid (v := v) q1 oX x1 x2
    exact ⟨by rw [zX]; simpa using y1, by rw [u2]; exact y2⟩
  have K := Jvm.Free.Str.fillPays (l := l) (R := R) (len := 3) (W := Wn) (sargs := W.a) C.hx htr T L yF (u0 := ⟨.ref u, rfl⟩) (fun e => nomatch e) (self := a) (cell := cell) (cellS := cellS) (fun k e => by rw [u2] at e; cases e) (by rw [u2]; simp) (by rw [u3]) (by rw [u3]) b7 sel neS knS s7
    (tk lS (by rw [tS]; rfl)) ⟨⟨d198, j198, fB⟩, ⟨q198, g198, o198, sB⟩, e7⟩ C.tk C.fk yT fO aO kO' hfb hfd (fun x => tk lB (by rw [tB]; rfl)) (fun x => tk lD (by rw [tD]; rfl)) (by omega) hlo
  obtain ⟨v, ⟨U', L', ck, cs⟩, X', ⟨hv, vm', lines, hln, -, hU, hL, hk, hn⟩, sts⟩ := K m meth c P g ig mk as X hg hsize hdg hWd hmk ⟨p1, p3, p4, by rw [p2]; exact h1, by rw [p2]; exact hS⟩
  dsimp only [Pt.U, Pt.locs, Pt.cells, Pt.slots] at X' hU hL hk hn sts
  have hh : U'.heap = (h.push (traceHolder cO lines)).setIfInBounds a (Jvm.Free.Str.filledOn T.toThrowableT fB fD cell ⟨.ref u, rfl⟩ P.U.heap.size lines.length.toInt32) := by rw [hU, ← p2]; rfl
  have lt : a < h.size := (Array.getElem?_eq_some_iff.mp h1).1
  have oth : ∀ (x : Addr) (cx : Cell), h[x]? = some cx → a ≠ x → U'.heap[x]? = some cx := fun x cx q ne => by
    have lx : x < h.size := (Array.getElem?_eq_some_iff.mp q).1
    rw [hh, Array.getElem?_setIfInBounds_ne ne, Array.getElem?_push, if_neg (Nat.ne_of_lt lx)]; exact q
  have kp : Keep h U'.heap [a] := by
    refine ⟨by rw [hh]; simp, fun x cx q nx => oth x cx q fun e => nx (by rw [e]; exact List.mem_singleton.mpr rfl), fun x cx q => ?_⟩
    by_cases e : a = x
    · subst e
      cases h1.symm.trans q
      refine ⟨Jvm.Free.Str.filledOn T.toThrowableT fB fD cell ⟨.ref u, rfl⟩ P.U.heap.size lines.length.toInt32, ?_, rfl, rfl, by simp [Jvm.Free.Str.filledOn, Cell.setSlot]⟩
      rw [hh]
      exact Array.getElem?_setIfInBounds_self_of_lt (Nat.lt_of_lt_of_le lt (by simp))
    · exact ⟨cx, oth x cx q e, rfl, rfl, rfl⟩
  refine ⟨v, ⟨U', L', ck, P.slots + 2752⟩, X'.more (Nat.le_refl _) (by rw [hn]; exact Nat.add_le_add_left (traceHolder_size_le cO hln) _), ⟨_, ⟨⟨hv, kp⟩, Ext.keep1 (Z := Z) O kp ha, fun y hy => ?_⟩, hL, hk, rfl⟩, sts⟩
  simp only [List.mem_cons, List.not_mem_nil, or_false] at hy
  rcases hy with rfl | rfl | rfl <;> exact ha
/-! ## returns -/
theorem Run.leave (C : Cx Z W own nm code maxL ret) {v : Option Value} {f : JFrame} (hv : ret = none → v = none) (q : Q v h) (hk : k ≤ R.cells) (hn : n ≤ R.slots)
    (s' : ∀ T locs, Std l R W T locs k n → ∀ fs, (∀ (f : JFrame) (acts : List Action), f.method = W.m → f.locked = none → f.entered = [] → (doReturn W.e (T.setTop f) acts v).1 = T.setFrames fs) → Steps W.p.tables W.e W.b (T.setTop f) (T.setFrames fs)) : Run l R Z W Q h k n f := by
  intro T locs X eT N O
  have hlk : W.t.locks = false := C.lk
  obtain ⟨fs, hr, hrun, hended, hW, hsame⟩ := X.leave (v := v) (fun hh => hv (C.rt.symm.trans hh))
  have e2 : (T.setFrames fs).heap = h := eT
  exact ⟨_, _, s' T locs X fs hr, hrun, hended, _, _, rfl, ⟨by rw [e2]; exact q, by rw [e2]; exact O, N⟩, ⟨_, rfl⟩, hW, hsame.mono hk hn⟩
theorem retV (C : Cx Z W own nm code maxL none) (hd : decode code pc = .ok (.return_, 1)) (hk : k ≤ R.cells) (hn : n ≤ R.slots) (q : Q none h) : Run l R Z W Q h k n (mkF W.m pc Ls []) :=
  Run.leave C (fun _ => rfl) q hk hn (fun T locs X fs hr => X.returnOut C.hx C.rt (C.hb hd) hr)
theorem retI (C : Cx Z W own nm code maxL (some .int)) (hd : decode code pc = .ok (.ireturn, 1)) {z : Int32} (hk : k ≤ R.cells) (hn : n ≤ R.slots) (q : Q (some (.int z)) h) : Run l R Z W Q h k n (mkF W.m pc Ls (.int z :: st)) :=
  Run.leave C (fun hh => nomatch hh) q hk hn (fun T locs X fs hr => retOut X C.hx C.rt rfl (Or.inl ⟨rfl, Or.inl rfl, z, rfl⟩) (C.hb hd) hr)
theorem retNar {ty : FieldType} (C : Cx Z W own nm code maxL (some ty)) (ht : ty = .boolean ∨ ty = .byte ∨ ty = .char ∨ ty = .short) (hd : decode code pc = .ok (.ireturn, 1)) {z z' : Int32} (hz : nar ty z = z') (hk : k ≤ R.cells) (hn : n ≤ R.slots) (q : Q (some (.int z')) h) : Run l R Z W Q h k n (mkF W.m pc Ls (.int z :: st)) := by
  subst hz
  exact Run.leave C (fun hh => nomatch hh) q hk hn (fun T locs X fs hr => retN X C.hx C.rt ht (C.hb hd) hr)
theorem retA {ty : FieldType} {v : Value} (C : Cx Z W own nm code maxL (some ty)) (ht : ty.isReference = true) (hv : v.isRef = true) (hd : decode code pc = .ok (.areturn, 1)) (hk : k ≤ R.cells) (hn : n ≤ R.slots) (q : Q (some v) h) : Run l R Z W Q h k n (mkF W.m pc Ls (v :: st)) :=
  Run.leave C (fun hh => nomatch hh) q hk hn (fun T locs X fs hr => retOut X C.hx C.rt (by rcases ref_cases hv with rfl | ⟨a, rfl⟩ <;> cases ty <;> simp [FieldType.isReference] at ht <;> rfl) (Or.inr (Or.inr (Or.inr (Or.inr ⟨rfl, ht, hv⟩)))) (C.hb hd) hr)
end Kit
end Wk

theorem Wk.tkOf {s : State} (h : tablesKnown s = true) : s.vm.MethodsKnown := by
  intro m x hx
  unfold Vm.method? at hx
  cases hk : s.vm.classes[m.cls]? with
  | none => simp [hk] at hx
  | some k =>
    refine ⟨k, hk, fun cf hcf => ?_⟩
    have q := (Array.all_eq_true_iff_forall_mem.mp h) k (Array.mem_of_getElem? hk)
    simp only [hcf, beq_iff_eq] at q
    simp only [hk, Option.bind_some] at hx
    obtain ⟨h1, -⟩ := Array.getElem?_eq_some_iff.mp hx
    rw [Option.isSome_iff_exists]
    exact ⟨_, Array.getElem?_eq_getElem (by omega)⟩
theorem Wk.knOf {vm : Vm} {m : MethodId} (h : methodKnown vm m = true) : vm.knowsMethod m := by
  unfold methodKnown at h
  cases hk : vm.classes[m.cls]? with
  | none => simp [hk] at h
  | some k =>
    refine ⟨k, hk, fun cf hcf => ?_⟩
    simpa [hk, hcf] using h
theorem Wk.fkOf {s : State} {fr : Frame} {below : List Frame} (h : framesKnown s = true) (hf : s.frames = fr :: below) : s.vm.FramesKnown below := by
  intro y hy m' hm'
  have q := List.all_eq_true.mp h y (by rw [hf]; exact List.mem_cons_of_mem _ hy)
  cases y with
  | java g => cases (show some g.method = some m' from hm'); exact Wk.knOf q
  | native g => cases (show some g.method = some m' from hm'); exact Wk.knOf q
  | _ => cases (show none = some m' from hm')
def Ws (a0 : Array Value) (Z : State) : Prop := ∀ d ∈ tables_1, d.before a0 Z = true
theorem Wk.nar_i2c {x v : Int32} (h : x.toUInt32.toUInt16.toUInt32.toInt32 = v) : nar .char v = v := by subst h; simp only [nar, UInt32.toUInt32_toInt32, UInt16.toUInt16_toUInt32]
theorem Wk.catS {v : Value} {L : List Value} {a b : Nat} (h : v.category = a) (q : (L.map fun v => v.category).sum = b) : ((v :: L).map fun v => v.category).sum = a + b := by rw [List.map_cons, List.sum_cons, h, q]
theorem Wk.catR {v : Value} (h : v.isRef = true) : v.category = 1 := by rcases ref_cases h with rfl | ⟨a, rfl⟩ <;> rfl
theorem Wk.narR {v : Value} {t : FieldType} (h : v.isRef = true) (ht : t.isReference = true) : narrow t v = v := by rcases ref_cases h with rfl | ⟨a, rfl⟩ <;> cases t <;> simp [FieldType.isReference] at ht <;> rfl
theorem Wk.fitR {v : Value} {t : FieldType} (h : v.isRef = true) (ht : t.isReference = true) : fits t v = true := by rcases ref_cases h with rfl | ⟨a, rfl⟩ <;> cases t <;> simp [FieldType.isReference] at ht <;> rfl
theorem Wk.rng255 {p v w : Int32} (h : p &&& 255 = v) (h' : v.toUInt32.toUInt16.toUInt32.toInt32 = w) : ¬ w < 0 ∧ ¬ (255 : Int32) < w := by
  subst h h'
  rw [i2c_mask, Int32.lt_iff_toInt_lt, Int32.lt_iff_toInt_lt, c_mask p 255 8 (by decide) (by decide)]
  have : (0 : Int32).toInt = 0 := by decide
  have : (255 : Int32).toInt = 255 := by decide
  omega
theorem Wk.ord {args : Array Value} {s : State} {t : Term} {a : Addr} {C n : String} {k : Int32} (ht : t.eval args s none [] s = some (.ref a)) (h : (Jvm.Cond.eq (.field t C n "I") (.int k)).value args s none s [] = some true) : Fld s s.heap a C n "I" (.int k) := by
  obtain ⟨x, y, e1, e2, -, kin⟩ := cmp_v (Or.inl h)
  cases (Term.int_eval k).symm.trans e2
  obtain ⟨z, rfl⟩ := kin
  cases gotT (Cond.eq_ints e1 e2) h
  exact Fld.start ((fld_at ht).symm.trans e1)
theorem Wk.mask31 {f v : Int32} (h : f &&& 2147483647 = v) : 0 ≤ v.toInt := by
  subst h
  rw [c_mask f 2147483647 31 (by decide) (by decide)]
  omega
theorem Wk.modr {v d w : Int32} (h0 : 0 ≤ v.toInt) (hd : 0 < d.toInt) (h : v % d = w) : 0 ≤ w.toInt ∧ w.toInt < d.toInt := by
  subst h
  have q := (c_iremV v d).1 h0 hd
  exact ⟨q.1, q.2.1⟩
theorem Wk.eqI {x y : Int32} (h : x.toInt = y.toInt) : x = y := Int32.toInt_inj.mp h
theorem Wk.ltI {x y : Int32} : x < y ↔ x.toInt < y.toInt := Int32.lt_iff_toInt_lt
theorem Wk.nn {x : Int32} (h : 0 ≤ x.toInt) : ¬ x < 0 := by
  have e0 : (0 : Int32).toInt = 0 := by decide
  rw [Wk.ltI]; omega
theorem Wk.clamp {x : Int32} (h : 0 ≤ x.toInt) : (x.toNatClampNeg : Int) = x.toInt := (nat_of (Wk.nn h)).symm
theorem Wk.ofNat {x : Int32} (h : 0 ≤ x.toInt) : x = Int32.ofNat x.toNatClampNeg := ((back32 (Wk.nn h)).1).symm
theorem Wk.getd {cs : List Int32} {i : Nat} (h : i < cs.length) : (cs.map Value.int)[i]? = some (.int (cs.getD i 0)) := by simp [List.getD_eq_getElem?_getD, h]
theorem Wk.nat32 {n : Nat} (h : n ≤ 4000) : (Int32.ofNat n).toInt = n ∧ (Int32.ofNat n).toNatClampNeg = n := ⟨Int32.toInt_ofNat_of_lt (by omega), Int32.toNatClampNeg_ofNat_of_lt (by omega)⟩
theorem Wk.succ32 {n : Nat} (h : n < 4000) : Int32.ofNat n + Int32.ofInt 1 = Int32.ofNat (n + 1) := by
  have a := c_iadd (Int32.ofNat n) 1
  have b := rng32 (Int32.ofNat n + 1)
  have c1 : (1 : Int32).toInt = 1 := by decide
  have c2 := (Wk.nat32 (n := n) (by omega)).1
  have c3 := (Wk.nat32 (n := n + 1) (by omega)).1
  exact Wk.eqI (by show (Int32.ofNat n + 1).toInt = _; omega)
theorem Wk.lt32 {a b : Nat} (ha : a ≤ 4000) (hb : b ≤ 4000) : Int32.ofNat a < Int32.ofNat b ↔ a < b := by rw [Wk.ltI, (Wk.nat32 ha).1, (Wk.nat32 hb).1]; omega
theorem Wk.orE {args : Array Value} {s : State} {idx : List Nat} {c d : Cond} (h : (Cond.or c d).value args s none s idx = some true) : c.value args s none s idx = some true ∨ d.value args s none s idx = some true := by
  simp only [Cond.value] at h
  cases h1 : c.value args s none s idx with
  | none => simp [h1] at h
  | some x => cases x <;> simp [h1] at h ⊢ <;> exact h
theorem Wk.elemL {args : Array Value} {s : State} {t : Term} {a : Addr} {cl : Cell} {ty : FieldType} {i : Nat} {v : Int32} {m : Int64} (ht : t.eval args s none [i] s = some (.ref a)) (A : Arr s s.heap a cl ty) (hv : i.toInt32.toInt64 + m = v.toInt64) (hi : i.toInt32.toNatClampNeg = i) (h : (Jvm.Cond.eq (.op1 .i2l (.elem t (.index 0))) (.op2 .ladd (.op1 .i2l (.index 0)) (.long m))).value args s none s [i] = some true) : cl.slots[i]? = some (.int v) := by
  have e2 : (Term.op2 .ladd (.op1 .i2l (.index 0)) (.long m)).eval args s none [i] s = some (.long (i.toInt32.toInt64 + m)) := rfl
  obtain ⟨x', y', e3, e4, -, kin⟩ := cmp_v (Or.inl h)
  cases e0 : (Term.elem t (.index 0)).eval args s none [i] s with
  | none =>
    rw [show (Term.op1 .i2l (.elem t (.index 0))).eval args s none [i] s = ((Term.elem t (.index 0)).eval args s none [i] s).bind (Unary.apply .i2l) from rfl, e0] at e3
    cases e3
  | some x =>
    have e1 := op1_f (f := .i2l) e0
    rw [e1] at e3
    have : ∃ z, x = .int z := by cases x <;> simp [Unary.apply] at e3 ⊢
    obtain ⟨z, rfl⟩ := this
    have e5 : (Term.op1 .i2l (.elem t (.index 0))).eval args s none [i] s = some (.long z.toInt64) := e1
    have e6 := gotT (eq_L e5 e2) h
    have e7 : z = v := by
      have q := congrArg Int64.toInt (e6.trans hv)
      rw [Int32.toInt_toInt64, Int32.toInt_toInt64] at q
      exact Wk.eqI q
    subst e7
    have q := (elem_in e0 ht (show (Term.index 0).eval args s none [i] s = some (.int i.toInt32) from rfl) A.1).2
    rwa [hi] at q
theorem Wk.lenS {args : Array Value} {s : State} {t : Term} {a : Addr} {cl : Cell} {ty : FieldType} {n : Int32} (ht : t.eval args s none [] s = some (.ref a)) (A : Arr s s.heap a cl ty) (h : (Jvm.Cond.eq (.length t) (.int n)).value args s none s [] = some true) : cl.slots.size < 2 ^ 31 ∧ cl.slots.size.toInt32 = n := by
  obtain ⟨x, y, e1, e2, -, kin⟩ := cmp_v (Or.inl h)
  cases (Term.int_eval n).symm.trans e2
  obtain ⟨z, rfl⟩ := kin
  have e3 := gotT (Cond.eq_ints e1 e2) h
  have ha : s.arrayAt? a = some cl := A.fin (Vm.Alike.refl _)
  by_cases q : cl.slots.size < 2 ^ 31
  · refine ⟨q, ?_⟩
    have e4 := len_f ht ha q
    rw [e4] at e1
    cases e1
    exact e3
  · simp [Term.eval, ht, ha, q] at e1
theorem Wk.elemS {args : Array Value} {s : State} {t : Term} {a : Addr} {cl : Cell} {ty : FieldType} {j v : Int32} (ht : t.eval args s none [] s = some (.ref a)) (A : Arr s s.heap a cl ty) (h : (Jvm.Cond.eq (.elem t (.int j)) (.int v)).value args s none s [] = some true) : cl.slots[j.toNatClampNeg]? = some (.int v) := by
  obtain ⟨x, y, e1, e2, -, kin⟩ := cmp_v (Or.inl h)
  cases (Term.int_eval v).symm.trans e2
  obtain ⟨z, rfl⟩ := kin
  cases gotT (Cond.eq_ints e1 e2) h
  exact (elem_in e1 ht (Term.int_eval j) A.1).2
theorem Wk.aryS {Z : State} {h : Heap} {a : Addr} {cl : Cell} {ty : FieldType} {vs : List Value} {n : Int32} (A : Arr Z h a cl ty) (hn : cl.slots.size < 2 ^ 31 ∧ cl.slots.size.toInt32 = n) (hl : n.toNatClampNeg = vs.length) (H : HasL cl 0 vs) (hf : ∀ v ∈ vs, fits ty v = true) : Wk.Ary Z h a ty vs := by
  have hs : cl.slots.size = vs.length := by
    rw [← hl, ← hn.2]
    exact (Int32.toNatClampNeg_ofNat_of_lt hn.1).symm
  refine ⟨cl, A, ?_, by omega, hf⟩
  apply Array.ext
  · simpa using hs
  · intro i h1 h2
    have q := HasL.at (dv := .null) vs 0 H i (by omega)
    rw [Nat.zero_add, Array.getElem?_eq_getElem h1] at q
    have h3 : i < vs.length := by omega
    simpa [List.getD_eq_getElem?_getD, h3] using q
abbrev StN : String := "java/lang/String"
abbrev PcN : String := "jdk/internal/util/Preconditions"
/-- null, or a String -/
def SN (Z : State) (h : Heap) (v : Value) : Prop := v = .null ∨ ∃ x, v = .ref x ∧ Exa Z h x StN
theorem SN.ext {Z : State} {h h' : Heap} {v : Value} (F : SN Z h v) (E : Ext h h') : SN Z h' v := F.imp id fun ⟨x, e, A⟩ => ⟨x, e, A.ext E⟩
theorem SN.wr {Z : State} {h h' : Heap} {v u : Value} {b : Addr} {sl : Nat} (F : SN Z h v) (W : Wr h h' b sl u) : SN Z h' v := F.imp id fun ⟨x, e, A⟩ => ⟨x, e, A.wr W⟩
theorem SN.keep {Z : State} {h h' : Heap} {v : Value} {ws : List Addr} (F : SN Z h v) (K : Keep h h' ws) : SN Z h' v := F.imp id fun ⟨x, e, A⟩ => ⟨x, e, A.keep K⟩
theorem SN.ref {Z : State} {h : Heap} {v : Value} (F : SN Z h v) : v.isRef = true := by rcases F with rfl | ⟨x, rfl, -⟩ <;> rfl
/-- the named sets of the JDK's statics, at the start -/
def Sets (Z : State) : Prop := ∃ (z : Int32) (fm : Value), Sta Z Z.heap StN "COMPACT_STRINGS" "Z" (.int z) ∧ ¬ z = 0 ∧ Sta Z Z.heap PcN "SIOOBE_FORMATTER" "Ljava/util/function/BiFunction;" fm ∧ fm.isRef = true
theorem w0 {a0 : Array Value} {Z : State} (hw : Ws a0 Z) : (Jvm.Cond.classLink "com/example/shelfmark/shelfmark/protocol/DiagnosticOfPinLaw" (7 : Nat) "com/example/shelfmark/shelfmark/model/QueryRefusedException$Reason").before a0 Z = true := hw _ (List.mem_of_getElem? (i := 0) rfl)
theorem w1 {a0 : Array Value} {Z : State} (hw : Ws a0 Z) : (Jvm.Cond.arrayOver (Jvm.ClassFile.FieldType.object "com/example/shelfmark/shelfmark/model/QueryRefusedException$Reason")).before a0 Z = true := hw _ (List.mem_of_getElem? (i := 1) rfl)
theorem w2 {a0 : Array Value} {Z : State} (hw : Ws a0 Z) : (Jvm.Cond.fieldLink "com/example/shelfmark/shelfmark/protocol/DiagnosticOfPinLaw" (9 : Nat) "com/example/shelfmark/shelfmark/model/QueryRefusedException$Reason" "SYNTAX_ERROR" "Lcom/example/shelfmark/shelfmark/model/QueryRefusedException$Reason;").before a0 Z = true := hw _ (List.mem_of_getElem? (i := 2) rfl)
theorem w3 {a0 : Array Value} {Z : State} (hw : Ws a0 Z) : (Jvm.Cond.initialized "com/example/shelfmark/shelfmark/model/QueryRefusedException$Reason").before a0 Z = true := hw _ (List.mem_of_getElem? (i := 3) rfl)
theorem w4 {a0 : Array Value} {Z : State} (hw : Ws a0 Z) : (Jvm.Cond.laysStatic "com/example/shelfmark/shelfmark/model/QueryRefusedException$Reason" "SYNTAX_ERROR" "Lcom/example/shelfmark/shelfmark/model/QueryRefusedException$Reason;").before a0 Z = true := hw _ (List.mem_of_getElem? (i := 4) rfl)
theorem w6 {a0 : Array Value} {Z : State} (hw : Ws a0 Z) : (Jvm.Cond.fieldLink "com/example/shelfmark/shelfmark/protocol/DiagnosticOfPinLaw" (13 : Nat) "com/example/shelfmark/shelfmark/model/QueryRefusedException$Reason" "UNKNOWN_CONTEXT_SET" "Lcom/example/shelfmark/shelfmark/model/QueryRefusedException$Reason;").before a0 Z = true := hw _ (List.mem_of_getElem? (i := 6) rfl)
theorem w7 {a0 : Array Value} {Z : State} (hw : Ws a0 Z) : (Jvm.Cond.laysStatic "com/example/shelfmark/shelfmark/model/QueryRefusedException$Reason" "UNKNOWN_CONTEXT_SET" "Lcom/example/shelfmark/shelfmark/model/QueryRefusedException$Reason;").before a0 Z = true := hw _ (List.mem_of_getElem? (i := 7) rfl)
theorem w8 {a0 : Array Value} {Z : State} (hw : Ws a0 Z) : (Jvm.Cond.fieldLink "com/example/shelfmark/shelfmark/protocol/DiagnosticOfPinLaw" (16 : Nat) "com/example/shelfmark/shelfmark/model/QueryRefusedException$Reason" "UNKNOWN_INDEX" "Lcom/example/shelfmark/shelfmark/model/QueryRefusedException$Reason;").before a0 Z = true := hw _ (List.mem_of_getElem? (i := 8) rfl)
theorem w9 {a0 : Array Value} {Z : State} (hw : Ws a0 Z) : (Jvm.Cond.laysStatic "com/example/shelfmark/shelfmark/model/QueryRefusedException$Reason" "UNKNOWN_INDEX" "Lcom/example/shelfmark/shelfmark/model/QueryRefusedException$Reason;").before a0 Z = true := hw _ (List.mem_of_getElem? (i := 9) rfl)
theorem w10 {a0 : Array Value} {Z : State} (hw : Ws a0 Z) : (Jvm.Cond.fieldLink "com/example/shelfmark/shelfmark/protocol/DiagnosticOfPinLaw" (19 : Nat) "com/example/shelfmark/shelfmark/model/QueryRefusedException$Reason" "UNSUPPORTED_RELATION" "Lcom/example/shelfmark/shelfmark/model/QueryRefusedException$Reason;").before a0 Z = true := hw _ (List.mem_of_getElem? (i := 10) rfl)
theorem w11 {a0 : Array Value} {Z : State} (hw : Ws a0 Z) : (Jvm.Cond.laysStatic "com/example/shelfmark/shelfmark/model/QueryRefusedException$Reason" "UNSUPPORTED_RELATION" "Lcom/example/shelfmark/shelfmark/model/QueryRefusedException$Reason;").before a0 Z = true := hw _ (List.mem_of_getElem? (i := 11) rfl)
theorem w12 {a0 : Array Value} {Z : State} (hw : Ws a0 Z) : (Jvm.Cond.fieldLink "com/example/shelfmark/shelfmark/protocol/DiagnosticOfPinLaw" (22 : Nat) "com/example/shelfmark/shelfmark/model/QueryRefusedException$Reason" "UNSUPPORTED_RELATION_FOR_INDEX" "Lcom/example/shelfmark/shelfmark/model/QueryRefusedException$Reason;").before a0 Z = true := hw _ (List.mem_of_getElem? (i := 12) rfl)
theorem w13 {a0 : Array Value} {Z : State} (hw : Ws a0 Z) : (Jvm.Cond.laysStatic "com/example/shelfmark/shelfmark/model/QueryRefusedException$Reason" "UNSUPPORTED_RELATION_FOR_INDEX" "Lcom/example/shelfmark/shelfmark/model/QueryRefusedException$Reason;").before a0 Z = true := hw _ (List.mem_of_getElem? (i := 13) rfl)
theorem w14 {a0 : Array Value} {Z : State} (hw : Ws a0 Z) : (Jvm.Cond.fieldLink "com/example/shelfmark/shelfmark/protocol/DiagnosticOfPinLaw" (25 : Nat) "com/example/shelfmark/shelfmark/model/QueryRefusedException$Reason" "UNSUPPORTED_RELATION_MODIFIER" "Lcom/example/shelfmark/shelfmark/model/QueryRefusedException$Reason;").before a0 Z = true := hw _ (List.mem_of_getElem? (i := 14) rfl)
theorem w15 {a0 : Array Value} {Z : State} (hw : Ws a0 Z) : (Jvm.Cond.laysStatic "com/example/shelfmark/shelfmark/model/QueryRefusedException$Reason" "UNSUPPORTED_RELATION_MODIFIER" "Lcom/example/shelfmark/shelfmark/model/QueryRefusedException$Reason;").before a0 Z = true := hw _ (List.mem_of_getElem? (i := 15) rfl)
theorem w16 {a0 : Array Value} {Z : State} (hw : Ws a0 Z) : (Jvm.Cond.fieldLink "com/example/shelfmark/shelfmark/protocol/DiagnosticOfPinLaw" (28 : Nat) "com/example/shelfmark/shelfmark/model/QueryRefusedException$Reason" "UNSUPPORTED_SORT_MODIFIER" "Lcom/example/shelfmark/shelfmark/model/QueryRefusedException$Reason;").before a0 Z = true := hw _ (List.mem_of_getElem? (i := 16) rfl)
theorem w17 {a0 : Array Value} {Z : State} (hw : Ws a0 Z) : (Jvm.Cond.laysStatic "com/example/shelfmark/shelfmark/model/QueryRefusedException$Reason" "UNSUPPORTED_SORT_MODIFIER" "Lcom/example/shelfmark/shelfmark/model/QueryRefusedException$Reason;").before a0 Z = true := hw _ (List.mem_of_getElem? (i := 17) rfl)
theorem w18 {a0 : Array Value} {Z : State} (hw : Ws a0 Z) : (Jvm.Cond.fieldLink "com/example/shelfmark/shelfmark/protocol/DiagnosticOfPinLaw" (31 : Nat) "com/example/shelfmark/shelfmark/model/QueryRefusedException$Reason" "UNSORTABLE_INDEX" "Lcom/example/shelfmark/shelfmark/model/QueryRefusedException$Reason;").before a0 Z = true := hw _ (List.mem_of_getElem? (i := 18) rfl)
theorem w19 {a0 : Array Value} {Z : State} (hw : Ws a0 Z) : (Jvm.Cond.laysStatic "com/example/shelfmark/shelfmark/model/QueryRefusedException$Reason" "UNSORTABLE_INDEX" "Lcom/example/shelfmark/shelfmark/model/QueryRefusedException$Reason;").before a0 Z = true := hw _ (List.mem_of_getElem? (i := 19) rfl)
theorem w20 {a0 : Array Value} {Z : State} (hw : Ws a0 Z) : (Jvm.Cond.fieldLink "com/example/shelfmark/shelfmark/protocol/DiagnosticOfPinLaw" (34 : Nat) "com/example/shelfmark/shelfmark/model/QueryRefusedException$Reason" "MASKING_UNSUPPORTED" "Lcom/example/shelfmark/shelfmark/model/QueryRefusedException$Reason;").before a0 Z = true := hw _ (List.mem_of_getElem? (i := 20) rfl)
theorem w21 {a0 : Array Value} {Z : State} (hw : Ws a0 Z) : (Jvm.Cond.laysStatic "com/example/shelfmark/shelfmark/model/QueryRefusedException$Reason" "MASKING_UNSUPPORTED" "Lcom/example/shelfmark/shelfmark/model/QueryRefusedException$Reason;").before a0 Z = true := hw _ (List.mem_of_getElem? (i := 21) rfl)
theorem w22 {a0 : Array Value} {Z : State} (hw : Ws a0 Z) : (Jvm.Cond.fieldLink "com/example/shelfmark/shelfmark/protocol/DiagnosticOfPinLaw" (37 : Nat) "com/example/shelfmark/shelfmark/model/QueryRefusedException$Reason" "ANCHORING_UNSUPPORTED" "Lcom/example/shelfmark/shelfmark/model/QueryRefusedException$Reason;").before a0 Z = true := hw _ (List.mem_of_getElem? (i := 22) rfl)
theorem w23 {a0 : Array Value} {Z : State} (hw : Ws a0 Z) : (Jvm.Cond.laysStatic "com/example/shelfmark/shelfmark/model/QueryRefusedException$Reason" "ANCHORING_UNSUPPORTED" "Lcom/example/shelfmark/shelfmark/model/QueryRefusedException$Reason;").before a0 Z = true := hw _ (List.mem_of_getElem? (i := 23) rfl)
theorem w24 {a0 : Array Value} {Z : State} (hw : Ws a0 Z) : (Jvm.Cond.fieldLink "com/example/shelfmark/shelfmark/protocol/DiagnosticOfPinLaw" (40 : Nat) "com/example/shelfmark/shelfmark/model/QueryRefusedException$Reason" "EMPTY_TERM" "Lcom/example/shelfmark/shelfmark/model/QueryRefusedException$Reason;").before a0 Z = true := hw _ (List.mem_of_getElem? (i := 24) rfl)
theorem w25 {a0 : Array Value} {Z : State} (hw : Ws a0 Z) : (Jvm.Cond.laysStatic "com/example/shelfmark/shelfmark/model/QueryRefusedException$Reason" "EMPTY_TERM" "Lcom/example/shelfmark/shelfmark/model/QueryRefusedException$Reason;").before a0 Z = true := hw _ (List.mem_of_getElem? (i := 25) rfl)
theorem w26 {a0 : Array Value} {Z : State} (hw : Ws a0 Z) : (Jvm.Cond.fieldLink "com/example/shelfmark/shelfmark/protocol/DiagnosticOfPinLaw" (43 : Nat) "com/example/shelfmark/shelfmark/model/QueryRefusedException$Reason" "UNSUPPORTED_TERM_FOR_RELATION" "Lcom/example/shelfmark/shelfmark/model/QueryRefusedException$Reason;").before a0 Z = true := hw _ (List.mem_of_getElem? (i := 26) rfl)
theorem w27 {a0 : Array Value} {Z : State} (hw : Ws a0 Z) : (Jvm.Cond.laysStatic "com/example/shelfmark/shelfmark/model/QueryRefusedException$Reason" "UNSUPPORTED_TERM_FOR_RELATION" "Lcom/example/shelfmark/shelfmark/model/QueryRefusedException$Reason;").before a0 Z = true := hw _ (List.mem_of_getElem? (i := 27) rfl)
theorem w28 {a0 : Array Value} {Z : State} (hw : Ws a0 Z) : (Jvm.Cond.fieldLink "com/example/shelfmark/shelfmark/protocol/DiagnosticOfPinLaw" (46 : Nat) "com/example/shelfmark/shelfmark/model/QueryRefusedException$Reason" "INVALID_TERM" "Lcom/example/shelfmark/shelfmark/model/QueryRefusedException$Reason;").before a0 Z = true := hw _ (List.mem_of_getElem? (i := 28) rfl)
theorem w29 {a0 : Array Value} {Z : State} (hw : Ws a0 Z) : (Jvm.Cond.laysStatic "com/example/shelfmark/shelfmark/model/QueryRefusedException$Reason" "INVALID_TERM" "Lcom/example/shelfmark/shelfmark/model/QueryRefusedException$Reason;").before a0 Z = true := hw _ (List.mem_of_getElem? (i := 29) rfl)
theorem w30 {a0 : Array Value} {Z : State} (hw : Ws a0 Z) : (Jvm.Cond.fieldLink "com/example/shelfmark/shelfmark/protocol/DiagnosticOfPinLaw" (49 : Nat) "com/example/shelfmark/shelfmark/model/QueryRefusedException$Reason" "MASK_TOO_BROAD" "Lcom/example/shelfmark/shelfmark/model/QueryRefusedException$Reason;").before a0 Z = true := hw _ (List.mem_of_getElem? (i := 30) rfl)
theorem w31 {a0 : Array Value} {Z : State} (hw : Ws a0 Z) : (Jvm.Cond.laysStatic "com/example/shelfmark/shelfmark/model/QueryRefusedException$Reason" "MASK_TOO_BROAD" "Lcom/example/shelfmark/shelfmark/model/QueryRefusedException$Reason;").before a0 Z = true := hw _ (List.mem_of_getElem? (i := 31) rfl)
theorem w32 {a0 : Array Value} {Z : State} (hw : Ws a0 Z) : (Jvm.Cond.fieldLink "com/example/shelfmark/shelfmark/protocol/DiagnosticOfPinLaw" (52 : Nat) "com/example/shelfmark/shelfmark/model/QueryRefusedException$Reason" "MASKED_TERM_TOO_LONG" "Lcom/example/shelfmark/shelfmark/model/QueryRefusedException$Reason;").before a0 Z = true := hw _ (List.mem_of_getElem? (i := 32) rfl)
theorem w33 {a0 : Array Value} {Z : State} (hw : Ws a0 Z) : (Jvm.Cond.laysStatic "com/example/shelfmark/shelfmark/model/QueryRefusedException$Reason" "MASKED_TERM_TOO_LONG" "Lcom/example/shelfmark/shelfmark/model/QueryRefusedException$Reason;").before a0 Z = true := hw _ (List.mem_of_getElem? (i := 33) rfl)
theorem w34 {a0 : Array Value} {Z : State} (hw : Ws a0 Z) : (Jvm.Cond.fieldLink "com/example/shelfmark/shelfmark/protocol/DiagnosticOfPinLaw" (55 : Nat) "com/example/shelfmark/shelfmark/model/QueryRefusedException$Reason" "TOO_MANY_MASKS" "Lcom/example/shelfmark/shelfmark/model/QueryRefusedException$Reason;").before a0 Z = true := hw _ (List.mem_of_getElem? (i := 34) rfl)
theorem w35 {a0 : Array Value} {Z : State} (hw : Ws a0 Z) : (Jvm.Cond.laysStatic "com/example/shelfmark/shelfmark/model/QueryRefusedException$Reason" "TOO_MANY_MASKS" "Lcom/example/shelfmark/shelfmark/model/QueryRefusedException$Reason;").before a0 Z = true := hw _ (List.mem_of_getElem? (i := 35) rfl)
theorem w36 {a0 : Array Value} {Z : State} (hw : Ws a0 Z) : (Jvm.Cond.fieldLink "com/example/shelfmark/shelfmark/protocol/DiagnosticOfPinLaw" (58 : Nat) "com/example/shelfmark/shelfmark/model/QueryRefusedException$Reason" "TOO_MANY_BOOLEANS" "Lcom/example/shelfmark/shelfmark/model/QueryRefusedException$Reason;").before a0 Z = true := hw _ (List.mem_of_getElem? (i := 36) rfl)
theorem w37 {a0 : Array Value} {Z : State} (hw : Ws a0 Z) : (Jvm.Cond.laysStatic "com/example/shelfmark/shelfmark/model/QueryRefusedException$Reason" "TOO_MANY_BOOLEANS" "Lcom/example/shelfmark/shelfmark/model/QueryRefusedException$Reason;").before a0 Z = true := hw _ (List.mem_of_getElem? (i := 37) rfl)
theorem w38 {a0 : Array Value} {Z : State} (hw : Ws a0 Z) : (Jvm.Cond.fieldLink "com/example/shelfmark/shelfmark/protocol/DiagnosticOfPinLaw" (61 : Nat) "com/example/shelfmark/shelfmark/model/QueryRefusedException$Reason" "PROXIMITY_UNSUPPORTED" "Lcom/example/shelfmark/shelfmark/model/QueryRefusedException$Reason;").before a0 Z = true := hw _ (List.mem_of_getElem? (i := 38) rfl)
theorem w39 {a0 : Array Value} {Z : State} (hw : Ws a0 Z) : (Jvm.Cond.laysStatic "com/example/shelfmark/shelfmark/model/QueryRefusedException$Reason" "PROXIMITY_UNSUPPORTED" "Lcom/example/shelfmark/shelfmark/model/QueryRefusedException$Reason;").before a0 Z = true := hw _ (List.mem_of_getElem? (i := 39) rfl)
theorem w40 {a0 : Array Value} {Z : State} (hw : Ws a0 Z) : (Jvm.Cond.fieldLink "com/example/shelfmark/shelfmark/protocol/DiagnosticOfPinLaw" (64 : Nat) "com/example/shelfmark/shelfmark/model/QueryRefusedException$Reason" "UNSUPPORTED_BOOLEAN_MODIFIER" "Lcom/example/shelfmark/shelfmark/model/QueryRefusedException$Reason;").before a0 Z = true := hw _ (List.mem_of_getElem? (i := 40) rfl)
theorem w41 {a0 : Array Value} {Z : State} (hw : Ws a0 Z) : (Jvm.Cond.laysStatic "com/example/shelfmark/shelfmark/model/QueryRefusedException$Reason" "UNSUPPORTED_BOOLEAN_MODIFIER" "Lcom/example/shelfmark/shelfmark/model/QueryRefusedException$Reason;").before a0 Z = true := hw _ (List.mem_of_getElem? (i := 41) rfl)
theorem w42 {a0 : Array Value} {Z : State} (hw : Ws a0 Z) : (Jvm.Cond.arrayClass Jvm.ClassFile.FieldType.int).before a0 Z = true := hw _ (List.mem_of_getElem? (i := 42) rfl)
theorem w43 {a0 : Array Value} {Z : State} (hw : Ws a0 Z) : (Jvm.Cond.constant "com/example/shelfmark/shelfmark/protocol/DiagnosticOfPinLaw" (67 : Nat) (2147483647 : Int32)).before a0 Z = true := hw _ (List.mem_of_getElem? (i := 43) rfl)
theorem w44 {a0 : Array Value} {Z : State} (hw : Ws a0 Z) : (Jvm.Cond.classLink "com/example/shelfmark/shelfmark/protocol/DiagnosticOfPinLaw" (73 : Nat) "com/example/shelfmark/shelfmark/model/QueryRefusedException").before a0 Z = true := hw _ (List.mem_of_getElem? (i := 44) rfl)
theorem w45 {a0 : Array Value} {Z : State} (hw : Ws a0 Z) : (Jvm.Cond.instantiable "com/example/shelfmark/shelfmark/model/QueryRefusedException" (8 : Nat)).before a0 Z = true := hw _ (List.mem_of_getElem? (i := 45) rfl)
theorem w46 {a0 : Array Value} {Z : State} (hw : Ws a0 Z) : (Jvm.Cond.initialized "com/example/shelfmark/shelfmark/model/QueryRefusedException").before a0 Z = true := hw _ (List.mem_of_getElem? (i := 46) rfl)
theorem w47 {a0 : Array Value} {Z : State} (hw : Ws a0 Z) : (Jvm.Cond.methodLink "com/example/shelfmark/shelfmark/protocol/DiagnosticOfPinLaw" (75 : Nat) ({ cls := "com/example/shelfmark/shelfmark/model/QueryRefusedException", name := "<init>", desc := "(Lcom/example/shelfmark/shelfmark/model/QueryRefusedException$Reason;Ljava/lang/String;Ljava/lang/String;)V" } : Jvm.MethodName)).before a0 Z = true := hw _ (List.mem_of_getElem? (i := 47) rfl)
theorem w48 {a0 : Array Value} {Z : State} (hw : Ws a0 Z) : (Jvm.Cond.instanceMethod ({ cls := "com/example/shelfmark/shelfmark/model/QueryRefusedException", name := "<init>", desc := "(Lcom/example/shelfmark/shelfmark/model/QueryRefusedException$Reason;Ljava/lang/String;Ljava/lang/String;)V" } : Jvm.MethodName)).before a0 Z = true := hw _ (List.mem_of_getElem? (i := 48) rfl)
theorem w49 {a0 : Array Value} {Z : State} (hw : Ws a0 Z) : (Jvm.Cond.code ({ cls := "com/example/shelfmark/shelfmark/model/QueryRefusedException", name := "<init>", desc := "(Lcom/example/shelfmark/shelfmark/model/QueryRefusedException$Reason;Ljava/lang/String;Ljava/lang/String;)V" } : Jvm.MethodName) prog_41_method_1_code (4 : Nat) (Option.none : Option Jvm.ClassFile.FieldType)).before a0 Z = true := hw _ (List.mem_of_getElem? (i := 49) rfl)
theorem w50 {a0 : Array Value} {Z : State} (hw : Ws a0 Z) : (Jvm.Cond.methodLink "com/example/shelfmark/shelfmark/model/QueryRefusedException" (1 : Nat) ({ cls := "java/lang/Exception", name := "<init>", desc := "(Ljava/lang/String;)V" } : Jvm.MethodName)).before a0 Z = true := hw _ (List.mem_of_getElem? (i := 50) rfl)
theorem w51 {a0 : Array Value} {Z : State} (hw : Ws a0 Z) : (Jvm.Cond.instanceMethod ({ cls := "java/lang/Exception", name := "<init>", desc := "(Ljava/lang/String;)V" } : Jvm.MethodName)).before a0 Z = true := hw _ (List.mem_of_getElem? (i := 51) rfl)
theorem w53 {a0 : Array Value} {Z : State} (hw : Ws a0 Z) : (Jvm.Cond.initialized "java/lang/Exception").before a0 Z = true := hw _ (List.mem_of_getElem? (i := 53) rfl)
theorem w54 {a0 : Array Value} {Z : State} (hw : Ws a0 Z) : (Jvm.Cond.code ({ cls := "java/lang/Exception", name := "<init>", desc := "(Ljava/lang/String;)V" } : Jvm.MethodName) jdk_59_method_2_code (2 : Nat) (Option.none : Option Jvm.ClassFile.FieldType)).before a0 Z = true := hw _ (List.mem_of_getElem? (i := 54) rfl)
theorem w55 {a0 : Array Value} {Z : State} (hw : Ws a0 Z) : (Jvm.Cond.methodLink "java/lang/Exception" (7 : Nat) ({ cls := "java/lang/Throwable", name := "<init>", desc := "(Ljava/lang/String;)V" } : Jvm.MethodName)).before a0 Z = true := hw _ (List.mem_of_getElem? (i := 55) rfl)
theorem w56 {a0 : Array Value} {Z : State} (hw : Ws a0 Z) : (Jvm.Cond.instanceMethod ({ cls := "java/lang/Throwable", name := "<init>", desc := "(Ljava/lang/String;)V" } : Jvm.MethodName)).before a0 Z = true := hw _ (List.mem_of_getElem? (i := 56) rfl)
theorem w59 {a0 : Array Value} {Z : State} (hw : Ws a0 Z) : (Jvm.Cond.initialized "java/lang/Throwable").before a0 Z = true := hw _ (List.mem_of_getElem? (i := 59) rfl)
theorem w60 {a0 : Array Value} {Z : State} (hw : Ws a0 Z) : (Jvm.Cond.code ({ cls := "java/lang/Throwable", name := "<init>", desc := "(Ljava/lang/String;)V" } : Jvm.MethodName) jdk_78_method_2_code (2 : Nat) (Option.none : Option Jvm.ClassFile.FieldType)).before a0 Z = true := hw _ (List.mem_of_getElem? (i := 60) rfl)
theorem w61 {a0 : Array Value} {Z : State} (hw : Ws a0 Z) : (Jvm.Cond.methodLink "java/lang/Throwable" (1 : Nat) ({ cls := "java/lang/Object", name := "<init>", desc := "()V" } : Jvm.MethodName)).before a0 Z = true := hw _ (List.mem_of_getElem? (i := 61) rfl)
theorem w62 {a0 : Array Value} {Z : State} (hw : Ws a0 Z) : (Jvm.Cond.instanceMethod ({ cls := "java/lang/Object", name := "<init>", desc := "()V" } : Jvm.MethodName)).before a0 Z = true := hw _ (List.mem_of_getElem? (i := 62) rfl)
theorem w63 {a0 : Array Value} {Z : State} (hw : Ws a0 Z) : (Jvm.Cond.code ({ cls := "java/lang/Object", name := "<init>", desc := "()V" } : Jvm.MethodName) object_method_1_code (1 : Nat) (Option.none : Option Jvm.ClassFile.FieldType)).before a0 Z = true := hw _ (List.mem_of_getElem? (i := 63) rfl)
theorem w64 {a0 : Array Value} {Z : State} (hw : Ws a0 Z) : (Jvm.Cond.fieldLink "java/lang/Throwable" (7 : Nat) "java/lang/Throwable" "cause" "Ljava/lang/Throwable;").before a0 Z = true := hw _ (List.mem_of_getElem? (i := 64) rfl)
theorem w65 {a0 : Array Value} {Z : State} (hw : Ws a0 Z) : (Jvm.Cond.lays "com/example/shelfmark/shelfmark/model/QueryRefusedException" "java/lang/Throwable" "cause" "Ljava/lang/Throwable;").before a0 Z = true := hw _ (List.mem_of_getElem? (i := 65) rfl)
theorem w66 {a0 : Array Value} {Z : State} (hw : Ws a0 Z) : (Jvm.Cond.fieldLink "java/lang/Throwable" (13 : Nat) "java/lang/Throwable" "UNASSIGNED_STACK" "[Ljava/lang/StackTraceElement;").before a0 Z = true := hw _ (List.mem_of_getElem? (i := 66) rfl)
theorem w67 {a0 : Array Value} {Z : State} (hw : Ws a0 Z) : (Jvm.Cond.fieldLink "java/lang/Throwable" (17 : Nat) "java/lang/Throwable" "stackTrace" "[Ljava/lang/StackTraceElement;").before a0 Z = true := hw _ (List.mem_of_getElem? (i := 67) rfl)
theorem w68 {a0 : Array Value} {Z : State} (hw : Ws a0 Z) : (Jvm.Cond.lays "com/example/shelfmark/shelfmark/model/QueryRefusedException" "java/lang/Throwable" "stackTrace" "[Ljava/lang/StackTraceElement;").before a0 Z = true := hw _ (List.mem_of_getElem? (i := 68) rfl)
theorem w69 {a0 : Array Value} {Z : State} (hw : Ws a0 Z) : (Jvm.Cond.fieldLink "java/lang/Throwable" (20 : Nat) "java/lang/Throwable" "SUPPRESSED_SENTINEL" "Ljava/util/List;").before a0 Z = true := hw _ (List.mem_of_getElem? (i := 69) rfl)
theorem w70 {a0 : Array Value} {Z : State} (hw : Ws a0 Z) : (Jvm.Cond.fieldLink "java/lang/Throwable" (24 : Nat) "java/lang/Throwable" "suppressedExceptions" "Ljava/util/List;").before a0 Z = true := hw _ (List.mem_of_getElem? (i := 70) rfl)
theorem w71 {a0 : Array Value} {Z : State} (hw : Ws a0 Z) : (Jvm.Cond.lays "com/example/shelfmark/shelfmark/model/QueryRefusedException" "java/lang/Throwable" "suppressedExceptions" "Ljava/util/List;").before a0 Z = true := hw _ (List.mem_of_getElem? (i := 71) rfl)
theorem w72 {a0 : Array Value} {Z : State} (hw : Ws a0 Z) : (Jvm.Cond.methodLink "java/lang/Throwable" (27 : Nat) ({ cls := "java/lang/Throwable", name := "fillInStackTrace", desc := "()Ljava/lang/Throwable;" } : Jvm.MethodName)).before a0 Z = true := hw _ (List.mem_of_getElem? (i := 72) rfl)
theorem w73 {a0 : Array Value} {Z : State} (hw : Ws a0 Z) : (Jvm.Cond.declares ({ cls := "java/lang/Throwable", name := "fillInStackTrace", desc := "()Ljava/lang/Throwable;" } : Jvm.MethodName)).before a0 Z = true := hw _ (List.mem_of_getElem? (i := 73) rfl)
theorem w74 {a0 : Array Value} {Z : State} (hw : Ws a0 Z) : (Jvm.Cond.instanceMethod ({ cls := "java/lang/Throwable", name := "fillInStackTrace", desc := "()Ljava/lang/Throwable;" } : Jvm.MethodName)).before a0 Z = true := hw _ (List.mem_of_getElem? (i := 74) rfl)
theorem w75 {a0 : Array Value} {Z : State} (hw : Ws a0 Z) : (Jvm.Cond.selects "com/example/shelfmark/shelfmark/model/QueryRefusedException" ({ cls := "java/lang/Throwable", name := "fillInStackTrace", desc := "()Ljava/lang/Throwable;" } : Jvm.MethodName) ({ cls := "java/lang/Throwable", name := "fillInStackTrace", desc := "()Ljava/lang/Throwable;" } : Jvm.MethodName)).before a0 Z = true := hw _ (List.mem_of_getElem? (i := 75) rfl)
theorem w92 {a0 : Array Value} {Z : State} (hw : Ws a0 Z) : (Jvm.Cond.laysStatic "java/lang/Throwable" "UNASSIGNED_STACK" "[Ljava/lang/StackTraceElement;").before a0 Z = true := hw _ (List.mem_of_getElem? (i := 92) rfl)
theorem w93 {a0 : Array Value} {Z : State} (hw : Ws a0 Z) : (Jvm.Cond.laysStatic "java/lang/Throwable" "SUPPRESSED_SENTINEL" "Ljava/util/List;").before a0 Z = true := hw _ (List.mem_of_getElem? (i := 93) rfl)
theorem w95 {a0 : Array Value} {Z : State} (hw : Ws a0 Z) : (Jvm.Cond.lays "com/example/shelfmark/shelfmark/model/QueryRefusedException" "java/lang/Throwable" "detailMessage" "Ljava/lang/String;").before a0 Z = true := hw _ (List.mem_of_getElem? (i := 95) rfl)
theorem w96 {a0 : Array Value} {Z : State} (hw : Ws a0 Z) : (Jvm.Cond.lays "com/example/shelfmark/shelfmark/model/QueryRefusedException" "java/lang/Throwable" "backtrace" "Ljava/lang/Object;").before a0 Z = true := hw _ (List.mem_of_getElem? (i := 96) rfl)
theorem w97 {a0 : Array Value} {Z : State} (hw : Ws a0 Z) : (Jvm.Cond.lays "com/example/shelfmark/shelfmark/model/QueryRefusedException" "java/lang/Throwable" "depth" "I").before a0 Z = true := hw _ (List.mem_of_getElem? (i := 97) rfl)
theorem w99 {a0 : Array Value} {Z : State} (hw : Ws a0 Z) : (Jvm.Cond.fieldLink "java/lang/Throwable" (31 : Nat) "java/lang/Throwable" "detailMessage" "Ljava/lang/String;").before a0 Z = true := hw _ (List.mem_of_getElem? (i := 99) rfl)
theorem w100 {a0 : Array Value} {Z : State} (hw : Ws a0 Z) : (Jvm.Cond.fieldLink "com/example/shelfmark/shelfmark/model/QueryRefusedException" (7 : Nat) "com/example/shelfmark/shelfmark/model/QueryRefusedException" "reason" "Lcom/example/shelfmark/shelfmark/model/QueryRefusedException$Reason;").before a0 Z = true := hw _ (List.mem_of_getElem? (i := 100) rfl)
theorem w101 {a0 : Array Value} {Z : State} (hw : Ws a0 Z) : (Jvm.Cond.laysFinal "com/example/shelfmark/shelfmark/model/QueryRefusedException" "com/example/shelfmark/shelfmark/model/QueryRefusedException" "reason" "Lcom/example/shelfmark/shelfmark/model/QueryRefusedException$Reason;").before a0 Z = true := hw _ (List.mem_of_getElem? (i := 101) rfl)
theorem w102 {a0 : Array Value} {Z : State} (hw : Ws a0 Z) : (Jvm.Cond.fieldLink "com/example/shelfmark/shelfmark/model/QueryRefusedException" (13 : Nat) "com/example/shelfmark/shelfmark/model/QueryRefusedException" "details" "Ljava/lang/String;").before a0 Z = true := hw _ (List.mem_of_getElem? (i := 102) rfl)
theorem w103 {a0 : Array Value} {Z : State} (hw : Ws a0 Z) : (Jvm.Cond.laysFinal "com/example/shelfmark/shelfmark/model/QueryRefusedException" "com/example/shelfmark/shelfmark/model/QueryRefusedException" "details" "Ljava/lang/String;").before a0 Z = true := hw _ (List.mem_of_getElem? (i := 103) rfl)
theorem w104 {a0 : Array Value} {Z : State} (hw : Ws a0 Z) : (Jvm.Cond.methodLink "com/example/shelfmark/shelfmark/protocol/DiagnosticOfPinLaw" (78 : Nat) ({ cls := "com/example/shelfmark/shelfmark/protocol/Diagnostic", name := "of", desc := "(Lcom/example/shelfmark/shelfmark/model/QueryRefusedException;)Lcom/example/shelfmark/shelfmark/protocol/Diagnostic;" } : Jvm.MethodName)).before a0 Z = true := hw _ (List.mem_of_getElem? (i := 104) rfl)
theorem w105 {a0 : Array Value} {Z : State} (hw : Ws a0 Z) : (Jvm.Cond.static ({ cls := "com/example/shelfmark/shelfmark/protocol/Diagnostic", name := "of", desc := "(Lcom/example/shelfmark/shelfmark/model/QueryRefusedException;)Lcom/example/shelfmark/shelfmark/protocol/Diagnostic;" } : Jvm.MethodName)).before a0 Z = true := hw _ (List.mem_of_getElem? (i := 105) rfl)
theorem w106 {a0 : Array Value} {Z : State} (hw : Ws a0 Z) : (Jvm.Cond.initialized "com/example/shelfmark/shelfmark/protocol/Diagnostic").before a0 Z = true := hw _ (List.mem_of_getElem? (i := 106) rfl)
theorem w107 {a0 : Array Value} {Z : State} (hw : Ws a0 Z) : (Jvm.Cond.code ({ cls := "com/example/shelfmark/shelfmark/protocol/Diagnostic", name := "of", desc := "(Lcom/example/shelfmark/shelfmark/model/QueryRefusedException;)Lcom/example/shelfmark/shelfmark/protocol/Diagnostic;" } : Jvm.MethodName) prog_50_method_2_code (2 : Nat) (Option.some (Jvm.ClassFile.FieldType.object "com/example/shelfmark/shelfmark/protocol/Diagnostic"))).before a0 Z = true := hw _ (List.mem_of_getElem? (i := 107) rfl)
theorem w108 {a0 : Array Value} {Z : State} (hw : Ws a0 Z) : (Jvm.Cond.fieldLink "com/example/shelfmark/shelfmark/protocol/Diagnostic" (20 : Nat) "com/example/shelfmark/shelfmark/protocol/Diagnostic$1" "$SwitchMap$com$example$shelfmark$shelfmark$model$QueryRefusedException$Reason" "[I").before a0 Z = true := hw _ (List.mem_of_getElem? (i := 108) rfl)
theorem w109 {a0 : Array Value} {Z : State} (hw : Ws a0 Z) : (Jvm.Cond.initialized "com/example/shelfmark/shelfmark/protocol/Diagnostic$1").before a0 Z = true := hw _ (List.mem_of_getElem? (i := 109) rfl)
theorem w110 {a0 : Array Value} {Z : State} (hw : Ws a0 Z) : (Jvm.Cond.laysStatic "com/example/shelfmark/shelfmark/protocol/Diagnostic$1" "$SwitchMap$com$example$shelfmark$shelfmark$model$QueryRefusedException$Reason" "[I").before a0 Z = true := hw _ (List.mem_of_getElem? (i := 110) rfl)
theorem w111 {a0 : Array Value} {Z : State} (hw : Ws a0 Z) : (Jvm.Cond.methodLink "com/example/shelfmark/shelfmark/protocol/Diagnostic" (26 : Nat) ({ cls := "com/example/shelfmark/shelfmark/model/QueryRefusedException", name := "reason", desc := "()Lcom/example/shelfmark/shelfmark/model/QueryRefusedException$Reason;" } : Jvm.MethodName)).before a0 Z = true := hw _ (List.mem_of_getElem? (i := 111) rfl)
theorem w112 {a0 : Array Value} {Z : State} (hw : Ws a0 Z) : (Jvm.Cond.declares ({ cls := "com/example/shelfmark/shelfmark/model/QueryRefusedException", name := "reason", desc := "()Lcom/example/shelfmark/shelfmark/model/QueryRefusedException$Reason;" } : Jvm.MethodName)).before a0 Z = true := hw _ (List.mem_of_getElem? (i := 112) rfl)
theorem w113 {a0 : Array Value} {Z : State} (hw : Ws a0 Z) : (Jvm.Cond.instanceMethod ({ cls := "com/example/shelfmark/shelfmark/model/QueryRefusedException", name := "reason", desc := "()Lcom/example/shelfmark/shelfmark/model/QueryRefusedException$Reason;" } : Jvm.MethodName)).before a0 Z = true := hw _ (List.mem_of_getElem? (i := 113) rfl)
theorem w114 {a0 : Array Value} {Z : State} (hw : Ws a0 Z) : (Jvm.Cond.selects "com/example/shelfmark/shelfmark/model/QueryRefusedException" ({ cls := "com/example/shelfmark/shelfmark/model/QueryRefusedException", name := "reason", desc := "()Lcom/example/shelfmark/shelfmark/model/QueryRefusedException$Reason;" } : Jvm.MethodName) ({ cls := "com/example/shelfmark/shelfmark/model/QueryRefusedException", name := "reason", desc := "()Lcom/example/shelfmark/shelfmark/model/QueryRefusedException$Reason;" } : Jvm.MethodName)).before a0 Z = true := hw _ (List.mem_of_getElem? (i := 114) rfl)
theorem w115 {a0 : Array Value} {Z : State} (hw : Ws a0 Z) : (Jvm.Cond.code ({ cls := "com/example/shelfmark/shelfmark/model/QueryRefusedException", name := "reason", desc := "()Lcom/example/shelfmark/shelfmark/model/QueryRefusedException$Reason;" } : Jvm.MethodName) prog_41_method_2_code (1 : Nat) (Option.some (Jvm.ClassFile.FieldType.object "com/example/shelfmark/shelfmark/model/QueryRefusedException$Reason"))).before a0 Z = true := hw _ (List.mem_of_getElem? (i := 115) rfl)
theorem w116 {a0 : Array Value} {Z : State} (hw : Ws a0 Z) : (Jvm.Cond.methodLink "com/example/shelfmark/shelfmark/protocol/Diagnostic" (32 : Nat) ({ cls := "com/example/shelfmark/shelfmark/model/QueryRefusedException$Reason", name := "ordinal", desc := "()I" } : Jvm.MethodName)).before a0 Z = true := hw _ (List.mem_of_getElem? (i := 116) rfl)
theorem w117 {a0 : Array Value} {Z : State} (hw : Ws a0 Z) : (Jvm.Cond.sameMethod "com/example/shelfmark/shelfmark/model/QueryRefusedException$Reason" "java/lang/Enum" "ordinal" "()I").before a0 Z = true := hw _ (List.mem_of_getElem? (i := 117) rfl)
theorem w118 {a0 : Array Value} {Z : State} (hw : Ws a0 Z) : (Jvm.Cond.declares ({ cls := "java/lang/Enum", name := "ordinal", desc := "()I" } : Jvm.MethodName)).before a0 Z = true := hw _ (List.mem_of_getElem? (i := 118) rfl)
theorem w119 {a0 : Array Value} {Z : State} (hw : Ws a0 Z) : (Jvm.Cond.instanceMethod ({ cls := "java/lang/Enum", name := "ordinal", desc := "()I" } : Jvm.MethodName)).before a0 Z = true := hw _ (List.mem_of_getElem? (i := 119) rfl)
theorem w120 {a0 : Array Value} {Z : State} (hw : Ws a0 Z) : (Jvm.Cond.selects "com/example/shelfmark/shelfmark/model/QueryRefusedException$Reason" ({ cls := "com/example/shelfmark/shelfmark/model/QueryRefusedException$Reason", name := "ordinal", desc := "()I" } : Jvm.MethodName) ({ cls := "java/lang/Enum", name := "ordinal", desc := "()I" } : Jvm.MethodName)).before a0 Z = true := hw _ (List.mem_of_getElem? (i := 120) rfl)
theorem w121 {a0 : Array Value} {Z : State} (hw : Ws a0 Z) : (Jvm.Cond.initialized "java/lang/Enum").before a0 Z = true := hw _ (List.mem_of_getElem? (i := 121) rfl)
theorem w122 {a0 : Array Value} {Z : State} (hw : Ws a0 Z) : (Jvm.Cond.code ({ cls := "java/lang/Enum", name := "ordinal", desc := "()I" } : Jvm.MethodName) jdk_37_method_2_code (1 : Nat) (Option.some Jvm.ClassFile.FieldType.int)).before a0 Z = true := hw _ (List.mem_of_getElem? (i := 122) rfl)
theorem w123 {a0 : Array Value} {Z : State} (hw : Ws a0 Z) : (Jvm.Cond.fieldLink "java/lang/Enum" (7 : Nat) "java/lang/Enum" "ordinal" "I").before a0 Z = true := hw _ (List.mem_of_getElem? (i := 123) rfl)
theorem w125 {a0 : Array Value} {Z : State} (hw : Ws a0 Z) : (Jvm.Cond.classLink "com/example/shelfmark/shelfmark/protocol/Diagnostic" (8 : Nat) "com/example/shelfmark/shelfmark/protocol/Diagnostic").before a0 Z = true := hw _ (List.mem_of_getElem? (i := 125) rfl)
theorem w126 {a0 : Array Value} {Z : State} (hw : Ws a0 Z) : (Jvm.Cond.instantiable "com/example/shelfmark/shelfmark/protocol/Diagnostic" (3 : Nat)).before a0 Z = true := hw _ (List.mem_of_getElem? (i := 126) rfl)
theorem w127 {a0 : Array Value} {Z : State} (hw : Ws a0 Z) : (Jvm.Cond.methodLink "com/example/shelfmark/shelfmark/protocol/Diagnostic" (43 : Nat) ({ cls := "com/example/shelfmark/shelfmark/model/QueryRefusedException", name := "details", desc := "()Ljava/lang/String;" } : Jvm.MethodName)).before a0 Z = true := hw _ (List.mem_of_getElem? (i := 127) rfl)
theorem w128 {a0 : Array Value} {Z : State} (hw : Ws a0 Z) : (Jvm.Cond.declares ({ cls := "com/example/shelfmark/shelfmark/model/QueryRefusedException", name := "details", desc := "()Ljava/lang/String;" } : Jvm.MethodName)).before a0 Z = true := hw _ (List.mem_of_getElem? (i := 128) rfl)
theorem w129 {a0 : Array Value} {Z : State} (hw : Ws a0 Z) : (Jvm.Cond.instanceMethod ({ cls := "com/example/shelfmark/shelfmark/model/QueryRefusedException", name := "details", desc := "()Ljava/lang/String;" } : Jvm.MethodName)).before a0 Z = true := hw _ (List.mem_of_getElem? (i := 129) rfl)
theorem w130 {a0 : Array Value} {Z : State} (hw : Ws a0 Z) : (Jvm.Cond.selects "com/example/shelfmark/shelfmark/model/QueryRefusedException" ({ cls := "com/example/shelfmark/shelfmark/model/QueryRefusedException", name := "details", desc := "()Ljava/lang/String;" } : Jvm.MethodName) ({ cls := "com/example/shelfmark/shelfmark/model/QueryRefusedException", name := "details", desc := "()Ljava/lang/String;" } : Jvm.MethodName)).before a0 Z = true := hw _ (List.mem_of_getElem? (i := 130) rfl)
theorem w131 {a0 : Array Value} {Z : State} (hw : Ws a0 Z) : (Jvm.Cond.code ({ cls := "com/example/shelfmark/shelfmark/model/QueryRefusedException", name := "details", desc := "()Ljava/lang/String;" } : Jvm.MethodName) prog_41_method_3_code (1 : Nat) (Option.some (Jvm.ClassFile.FieldType.object "java/lang/String"))).before a0 Z = true := hw _ (List.mem_of_getElem? (i := 131) rfl)
theorem w132 {a0 : Array Value} {Z : State} (hw : Ws a0 Z) : (Jvm.Cond.methodLink "com/example/shelfmark/shelfmark/protocol/Diagnostic" (46 : Nat) ({ cls := "com/example/shelfmark/shelfmark/model/QueryRefusedException", name := "getMessage", desc := "()Ljava/lang/String;" } : Jvm.MethodName)).before a0 Z = true := hw _ (List.mem_of_getElem? (i := 132) rfl)
theorem w133 {a0 : Array Value} {Z : State} (hw : Ws a0 Z) : (Jvm.Cond.sameMethod "com/example/shelfmark/shelfmark/model/QueryRefusedException" "java/lang/Throwable" "getMessage" "()Ljava/lang/String;").before a0 Z = true := hw _ (List.mem_of_getElem? (i := 133) rfl)
theorem w134 {a0 : Array Value} {Z : State} (hw : Ws a0 Z) : (Jvm.Cond.declares ({ cls := "java/lang/Throwable", name := "getMessage", desc := "()Ljava/lang/String;" } : Jvm.MethodName)).before a0 Z = true := hw _ (List.mem_of_getElem? (i := 134) rfl)
theorem w135 {a0 : Array Value} {Z : State} (hw : Ws a0 Z) : (Jvm.Cond.instanceMethod ({ cls := "java/lang/Throwable", name := "getMessage", desc := "()Ljava/lang/String;" } : Jvm.MethodName)).before a0 Z = true := hw _ (List.mem_of_getElem? (i := 135) rfl)
theorem w136 {a0 : Array Value} {Z : State} (hw : Ws a0 Z) : (Jvm.Cond.selects "com/example/shelfmark/shelfmark/model/QueryRefusedException" ({ cls := "com/example/shelfmark/shelfmark/model/QueryRefusedException", name := "getMessage", desc := "()Ljava/lang/String;" } : Jvm.MethodName) ({ cls := "java/lang/Throwable", name := "getMessage", desc := "()Ljava/lang/String;" } : Jvm.MethodName)).before a0 Z = true := hw _ (List.mem_of_getElem? (i := 136) rfl)
theorem w137 {a0 : Array Value} {Z : State} (hw : Ws a0 Z) : (Jvm.Cond.code ({ cls := "java/lang/Throwable", name := "getMessage", desc := "()Ljava/lang/String;" } : Jvm.MethodName) jdk_78_method_6_code (1 : Nat) (Option.some (Jvm.ClassFile.FieldType.object "java/lang/String"))).before a0 Z = true := hw _ (List.mem_of_getElem? (i := 137) rfl)
theorem w138 {a0 : Array Value} {Z : State} (hw : Ws a0 Z) : (Jvm.Cond.methodLink "com/example/shelfmark/shelfmark/protocol/Diagnostic" (49 : Nat) ({ cls := "com/example/shelfmark/shelfmark/protocol/Diagnostic", name := "<init>", desc := "(ILjava/lang/String;Ljava/lang/String;)V" } : Jvm.MethodName)).before a0 Z = true := hw _ (List.mem_of_getElem? (i := 138) rfl)
theorem w139 {a0 : Array Value} {Z : State} (hw : Ws a0 Z) : (Jvm.Cond.instanceMethod ({ cls := "com/example/shelfmark/shelfmark/protocol/Diagnostic", name := "<init>", desc := "(ILjava/lang/String;Ljava/lang/String;)V" } : Jvm.MethodName)).before a0 Z = true := hw _ (List.mem_of_getElem? (i := 139) rfl)
theorem w140 {a0 : Array Value} {Z : State} (hw : Ws a0 Z) : (Jvm.Cond.code ({ cls := "com/example/shelfmark/shelfmark/protocol/Diagnostic", name := "<init>", desc := "(ILjava/lang/String;Ljava/lang/String;)V" } : Jvm.MethodName) prog_50_method_1_code (4 : Nat) (Option.none : Option Jvm.ClassFile.FieldType)).before a0 Z = true := hw _ (List.mem_of_getElem? (i := 140) rfl)
theorem w141 {a0 : Array Value} {Z : State} (hw : Ws a0 Z) : (Jvm.Cond.methodLink "com/example/shelfmark/shelfmark/protocol/Diagnostic" (1 : Nat) ({ cls := "java/lang/Record", name := "<init>", desc := "()V" } : Jvm.MethodName)).before a0 Z = true := hw _ (List.mem_of_getElem? (i := 141) rfl)
theorem w142 {a0 : Array Value} {Z : State} (hw : Ws a0 Z) : (Jvm.Cond.instanceMethod ({ cls := "java/lang/Record", name := "<init>", desc := "()V" } : Jvm.MethodName)).before a0 Z = true := hw _ (List.mem_of_getElem? (i := 142) rfl)
theorem w144 {a0 : Array Value} {Z : State} (hw : Ws a0 Z) : (Jvm.Cond.initialized "java/lang/Record").before a0 Z = true := hw _ (List.mem_of_getElem? (i := 144) rfl)
theorem w145 {a0 : Array Value} {Z : State} (hw : Ws a0 Z) : (Jvm.Cond.code ({ cls := "java/lang/Record", name := "<init>", desc := "()V" } : Jvm.MethodName) jdk_30_method_1_code (1 : Nat) (Option.none : Option Jvm.ClassFile.FieldType)).before a0 Z = true := hw _ (List.mem_of_getElem? (i := 145) rfl)
theorem w146 {a0 : Array Value} {Z : State} (hw : Ws a0 Z) : (Jvm.Cond.methodLink "java/lang/Record" (1 : Nat) ({ cls := "java/lang/Object", name := "<init>", desc := "()V" } : Jvm.MethodName)).before a0 Z = true := hw _ (List.mem_of_getElem? (i := 146) rfl)
theorem w147 {a0 : Array Value} {Z : State} (hw : Ws a0 Z) : (Jvm.Cond.fieldLink "com/example/shelfmark/shelfmark/protocol/Diagnostic" (7 : Nat) "com/example/shelfmark/shelfmark/protocol/Diagnostic" "number" "I").before a0 Z = true := hw _ (List.mem_of_getElem? (i := 147) rfl)
theorem w148 {a0 : Array Value} {Z : State} (hw : Ws a0 Z) : (Jvm.Cond.laysFinal "com/example/shelfmark/shelfmark/protocol/Diagnostic" "com/example/shelfmark/shelfmark/protocol/Diagnostic" "number" "I").before a0 Z = true := hw _ (List.mem_of_getElem? (i := 148) rfl)
theorem w149 {a0 : Array Value} {Z : State} (hw : Ws a0 Z) : (Jvm.Cond.fieldLink "com/example/shelfmark/shelfmark/protocol/Diagnostic" (13 : Nat) "com/example/shelfmark/shelfmark/protocol/Diagnostic" "details" "Ljava/lang/String;").before a0 Z = true := hw _ (List.mem_of_getElem? (i := 149) rfl)
theorem w150 {a0 : Array Value} {Z : State} (hw : Ws a0 Z) : (Jvm.Cond.laysFinal "com/example/shelfmark/shelfmark/protocol/Diagnostic" "com/example/shelfmark/shelfmark/protocol/Diagnostic" "details" "Ljava/lang/String;").before a0 Z = true := hw _ (List.mem_of_getElem? (i := 150) rfl)
theorem w151 {a0 : Array Value} {Z : State} (hw : Ws a0 Z) : (Jvm.Cond.fieldLink "com/example/shelfmark/shelfmark/protocol/Diagnostic" (17 : Nat) "com/example/shelfmark/shelfmark/protocol/Diagnostic" "message" "Ljava/lang/String;").before a0 Z = true := hw _ (List.mem_of_getElem? (i := 151) rfl)
theorem w152 {a0 : Array Value} {Z : State} (hw : Ws a0 Z) : (Jvm.Cond.laysFinal "com/example/shelfmark/shelfmark/protocol/Diagnostic" "com/example/shelfmark/shelfmark/protocol/Diagnostic" "message" "Ljava/lang/String;").before a0 Z = true := hw _ (List.mem_of_getElem? (i := 152) rfl)
theorem w153 {a0 : Array Value} {Z : State} (hw : Ws a0 Z) : (Jvm.Cond.methodLink "com/example/shelfmark/shelfmark/protocol/DiagnosticOfPinLaw" (84 : Nat) ({ cls := "com/example/shelfmark/shelfmark/protocol/Diagnostic", name := "number", desc := "()I" } : Jvm.MethodName)).before a0 Z = true := hw _ (List.mem_of_getElem? (i := 153) rfl)
theorem w154 {a0 : Array Value} {Z : State} (hw : Ws a0 Z) : (Jvm.Cond.declares ({ cls := "com/example/shelfmark/shelfmark/protocol/Diagnostic", name := "number", desc := "()I" } : Jvm.MethodName)).before a0 Z = true := hw _ (List.mem_of_getElem? (i := 154) rfl)
theorem w155 {a0 : Array Value} {Z : State} (hw : Ws a0 Z) : (Jvm.Cond.instanceMethod ({ cls := "com/example/shelfmark/shelfmark/protocol/Diagnostic", name := "number", desc := "()I" } : Jvm.MethodName)).before a0 Z = true := hw _ (List.mem_of_getElem? (i := 155) rfl)
theorem w156 {a0 : Array Value} {Z : State} (hw : Ws a0 Z) : (Jvm.Cond.selects "com/example/shelfmark/shelfmark/protocol/Diagnostic" ({ cls := "com/example/shelfmark/shelfmark/protocol/Diagnostic", name := "number", desc := "()I" } : Jvm.MethodName) ({ cls := "com/example/shelfmark/shelfmark/protocol/Diagnostic", name := "number", desc := "()I" } : Jvm.MethodName)).before a0 Z = true := hw _ (List.mem_of_getElem? (i := 156) rfl)
theorem w157 {a0 : Array Value} {Z : State} (hw : Ws a0 Z) : (Jvm.Cond.code ({ cls := "com/example/shelfmark/shelfmark/protocol/Diagnostic", name := "number", desc := "()I" } : Jvm.MethodName) prog_50_method_8_code (1 : Nat) (Option.some Jvm.ClassFile.FieldType.int)).before a0 Z = true := hw _ (List.mem_of_getElem? (i := 157) rfl)
theorem w158 {a0 : Array Value} {Z : State} (hw : Ws a0 Z) : (Jvm.Cond.methodLink "com/example/shelfmark/shelfmark/protocol/DiagnosticOfPinLaw" (88 : Nat) ({ cls := "com/example/shelfmark/shelfmark/protocol/Diagnostic", name := "details", desc := "()Ljava/lang/String;" } : Jvm.MethodName)).before a0 Z = true := hw _ (List.mem_of_getElem? (i := 158) rfl)
theorem w159 {a0 : Array Value} {Z : State} (hw : Ws a0 Z) : (Jvm.Cond.declares ({ cls := "com/example/shelfmark/shelfmark/protocol/Diagnostic", name := "details", desc := "()Ljava/lang/String;" } : Jvm.MethodName)).before a0 Z = true := hw _ (List.mem_of_getElem? (i := 159) rfl)
theorem w160 {a0 : Array Value} {Z : State} (hw : Ws a0 Z) : (Jvm.Cond.instanceMethod ({ cls := "com/example/shelfmark/shelfmark/protocol/Diagnostic", name := "details", desc := "()Ljava/lang/String;" } : Jvm.MethodName)).before a0 Z = true := hw _ (List.mem_of_getElem? (i := 160) rfl)
theorem w161 {a0 : Array Value} {Z : State} (hw : Ws a0 Z) : (Jvm.Cond.selects "com/example/shelfmark/shelfmark/protocol/Diagnostic" ({ cls := "com/example/shelfmark/shelfmark/protocol/Diagnostic", name := "details", desc := "()Ljava/lang/String;" } : Jvm.MethodName) ({ cls := "com/example/shelfmark/shelfmark/protocol/Diagnostic", name := "details", desc := "()Ljava/lang/String;" } : Jvm.MethodName)).before a0 Z = true := hw _ (List.mem_of_getElem? (i := 161) rfl)
theorem w162 {a0 : Array Value} {Z : State} (hw : Ws a0 Z) : (Jvm.Cond.code ({ cls := "com/example/shelfmark/shelfmark/protocol/Diagnostic", name := "details", desc := "()Ljava/lang/String;" } : Jvm.MethodName) prog_50_method_9_code (1 : Nat) (Option.some (Jvm.ClassFile.FieldType.object "java/lang/String"))).before a0 Z = true := hw _ (List.mem_of_getElem? (i := 162) rfl)
theorem w163 {a0 : Array Value} {Z : State} (hw : Ws a0 Z) : (Jvm.Cond.methodLink "com/example/shelfmark/shelfmark/protocol/DiagnosticOfPinLaw" (92 : Nat) ({ cls := "com/example/shelfmark/shelfmark/protocol/DiagnosticOfPinLaw", name := "same", desc := "(Ljava/lang/String;Ljava/lang/String;)Z" } : Jvm.MethodName)).before a0 Z = true := hw _ (List.mem_of_getElem? (i := 163) rfl)
theorem w164 {a0 : Array Value} {Z : State} (hw : Ws a0 Z) : (Jvm.Cond.static ({ cls := "com/example/shelfmark/shelfmark/protocol/DiagnosticOfPinLaw", name := "same", desc := "(Ljava/lang/String;Ljava/lang/String;)Z" } : Jvm.MethodName)).before a0 Z = true := hw _ (List.mem_of_getElem? (i := 164) rfl)
theorem w165 {a0 : Array Value} {Z : State} (hw : Ws a0 Z) : (Jvm.Cond.initialized "com/example/shelfmark/shelfmark/protocol/DiagnosticOfPinLaw").before a0 Z = true := hw _ (List.mem_of_getElem? (i := 165) rfl)
theorem w166 {a0 : Array Value} {Z : State} (hw : Ws a0 Z) : (Jvm.Cond.code ({ cls := "com/example/shelfmark/shelfmark/protocol/DiagnosticOfPinLaw", name := "same", desc := "(Ljava/lang/String;Ljava/lang/String;)Z" } : Jvm.MethodName) method_3_code (2 : Nat) (Option.some Jvm.ClassFile.FieldType.boolean)).before a0 Z = true := hw _ (List.mem_of_getElem? (i := 166) rfl)
theorem w167 {a0 : Array Value} {Z : State} (hw : Ws a0 Z) : (Jvm.Cond.methodLink "com/example/shelfmark/shelfmark/protocol/DiagnosticOfPinLaw" (98 : Nat) ({ cls := "com/example/shelfmark/shelfmark/protocol/Diagnostic", name := "message", desc := "()Ljava/lang/String;" } : Jvm.MethodName)).before a0 Z = true := hw _ (List.mem_of_getElem? (i := 167) rfl)
theorem w168 {a0 : Array Value} {Z : State} (hw : Ws a0 Z) : (Jvm.Cond.declares ({ cls := "com/example/shelfmark/shelfmark/protocol/Diagnostic", name := "message", desc := "()Ljava/lang/String;" } : Jvm.MethodName)).before a0 Z = true := hw _ (List.mem_of_getElem? (i := 168) rfl)
theorem w169 {a0 : Array Value} {Z : State} (hw : Ws a0 Z) : (Jvm.Cond.instanceMethod ({ cls := "com/example/shelfmark/shelfmark/protocol/Diagnostic", name := "message", desc := "()Ljava/lang/String;" } : Jvm.MethodName)).before a0 Z = true := hw _ (List.mem_of_getElem? (i := 169) rfl)
theorem w170 {a0 : Array Value} {Z : State} (hw : Ws a0 Z) : (Jvm.Cond.selects "com/example/shelfmark/shelfmark/protocol/Diagnostic" ({ cls := "com/example/shelfmark/shelfmark/protocol/Diagnostic", name := "message", desc := "()Ljava/lang/String;" } : Jvm.MethodName) ({ cls := "com/example/shelfmark/shelfmark/protocol/Diagnostic", name := "message", desc := "()Ljava/lang/String;" } : Jvm.MethodName)).before a0 Z = true := hw _ (List.mem_of_getElem? (i := 170) rfl)
theorem w171 {a0 : Array Value} {Z : State} (hw : Ws a0 Z) : (Jvm.Cond.code ({ cls := "com/example/shelfmark/shelfmark/protocol/Diagnostic", name := "message", desc := "()Ljava/lang/String;" } : Jvm.MethodName) prog_50_method_10_code (1 : Nat) (Option.some (Jvm.ClassFile.FieldType.object "java/lang/String"))).before a0 Z = true := hw _ (List.mem_of_getElem? (i := 171) rfl)
theorem w172 {a0 : Array Value} {Z : State} (hw : Ws a0 Z) : (Jvm.Cond.classLink "com/example/shelfmark/shelfmark/protocol/DiagnosticOfPinLaw" (68 : Nat) "java/lang/String").before a0 Z = true := hw _ (List.mem_of_getElem? (i := 172) rfl)
theorem w173 {a0 : Array Value} {Z : State} (hw : Ws a0 Z) : (Jvm.Cond.instantiable "java/lang/String" (4 : Nat)).before a0 Z = true := hw _ (List.mem_of_getElem? (i := 173) rfl)
theorem w174 {a0 : Array Value} {Z : State} (hw : Ws a0 Z) : (Jvm.Cond.initialized "java/lang/String").before a0 Z = true := hw _ (List.mem_of_getElem? (i := 174) rfl)
theorem w175 {a0 : Array Value} {Z : State} (hw : Ws a0 Z) : (Jvm.Cond.arrayClass Jvm.ClassFile.FieldType.char).before a0 Z = true := hw _ (List.mem_of_getElem? (i := 175) rfl)
theorem w176 {a0 : Array Value} {Z : State} (hw : Ws a0 Z) : (Jvm.Cond.methodLink "com/example/shelfmark/shelfmark/protocol/DiagnosticOfPinLaw" (70 : Nat) ({ cls := "java/lang/String", name := "<init>", desc := "([C)V" } : Jvm.MethodName)).before a0 Z = true := hw _ (List.mem_of_getElem? (i := 176) rfl)
theorem w177 {a0 : Array Value} {Z : State} (hw : Ws a0 Z) : (Jvm.Cond.instanceMethod ({ cls := "java/lang/String", name := "<init>", desc := "([C)V" } : Jvm.MethodName)).before a0 Z = true := hw _ (List.mem_of_getElem? (i := 177) rfl)
theorem w178 {a0 : Array Value} {Z : State} (hw : Ws a0 Z) : (Jvm.Cond.code ({ cls := "java/lang/String", name := "<init>", desc := "([C)V" } : Jvm.MethodName) jdk_42_method_3_code (2 : Nat) (Option.none : Option Jvm.ClassFile.FieldType)).before a0 Z = true := hw _ (List.mem_of_getElem? (i := 178) rfl)
theorem w197 {a0 : Array Value} {Z : State} (hw : Ws a0 Z) : (Jvm.Cond.laysFinal "java/lang/String" "java/lang/String" "coder" "B").before a0 Z = true := hw _ (List.mem_of_getElem? (i := 197) rfl)
theorem w199 {a0 : Array Value} {Z : State} (hw : Ws a0 Z) : (Jvm.Cond.laysFinal "java/lang/String" "java/lang/String" "value" "[B").before a0 Z = true := hw _ (List.mem_of_getElem? (i := 199) rfl)
theorem w200 {a0 : Array Value} {Z : State} (hw : Ws a0 Z) : (Jvm.Cond.methodLink "com/example/shelfmark/shelfmark/protocol/DiagnosticOfPinLaw" (101 : Nat) ({ cls := "java/lang/String", name := "equals", desc := "(Ljava/lang/Object;)Z" } : Jvm.MethodName)).before a0 Z = true := hw _ (List.mem_of_getElem? (i := 200) rfl)
theorem w201 {a0 : Array Value} {Z : State} (hw : Ws a0 Z) : (Jvm.Cond.declares ({ cls := "java/lang/String", name := "equals", desc := "(Ljava/lang/Object;)Z" } : Jvm.MethodName)).before a0 Z = true := hw _ (List.mem_of_getElem? (i := 201) rfl)
theorem w202 {a0 : Array Value} {Z : State} (hw : Ws a0 Z) : (Jvm.Cond.instanceMethod ({ cls := "java/lang/String", name := "equals", desc := "(Ljava/lang/Object;)Z" } : Jvm.MethodName)).before a0 Z = true := hw _ (List.mem_of_getElem? (i := 202) rfl)
theorem w203 {a0 : Array Value} {Z : State} (hw : Ws a0 Z) : (Jvm.Cond.selects "java/lang/String" ({ cls := "java/lang/String", name := "equals", desc := "(Ljava/lang/Object;)Z" } : Jvm.MethodName) ({ cls := "java/lang/String", name := "equals", desc := "(Ljava/lang/Object;)Z" } : Jvm.MethodName)).before a0 Z = true := hw _ (List.mem_of_getElem? (i := 203) rfl)
theorem w204 {a0 : Array Value} {Z : State} (hw : Ws a0 Z) : (Jvm.Cond.code ({ cls := "java/lang/String", name := "equals", desc := "(Ljava/lang/Object;)Z" } : Jvm.MethodName) jdk_42_method_66_code (3 : Nat) (Option.some Jvm.ClassFile.FieldType.boolean)).before a0 Z = true := hw _ (List.mem_of_getElem? (i := 204) rfl)
theorem d_jdk_78m2_0 : decode jdk_78_method_2_code 0 = .ok (.aload_n 0, 1) := by decide +kernel
theorem d_jdk_78m2_1 : decode jdk_78_method_2_code 1 = .ok (.invokespecial 1, 3) := by decide +kernel
theorem d_jdk_78m2_4 : decode jdk_78_method_2_code 4 = .ok (.aload_n 0, 1) := by decide +kernel
theorem d_jdk_78m2_5 : decode jdk_78_method_2_code 5 = .ok (.aload_n 0, 1) := by decide +kernel
theorem d_jdk_78m2_6 : decode jdk_78_method_2_code 6 = .ok (.putfield 7, 3) := by decide +kernel
theorem d_jdk_78m2_9 : decode jdk_78_method_2_code 9 = .ok (.aload_n 0, 1) := by decide +kernel
theorem d_jdk_78m2_10 : decode jdk_78_method_2_code 10 = .ok (.getstatic 13, 3) := by decide +kernel
theorem d_jdk_78m2_13 : decode jdk_78_method_2_code 13 = .ok (.putfield 17, 3) := by decide +kernel
theorem d_jdk_78m2_16 : decode jdk_78_method_2_code 16 = .ok (.aload_n 0, 1) := by decide +kernel
theorem d_jdk_78m2_17 : decode jdk_78_method_2_code 17 = .ok (.getstatic 20, 3) := by decide +kernel
theorem d_jdk_78m2_20 : decode jdk_78_method_2_code 20 = .ok (.putfield 24, 3) := by decide +kernel
theorem d_jdk_78m2_23 : decode jdk_78_method_2_code 23 = .ok (.aload_n 0, 1) := by decide +kernel
theorem d_jdk_78m2_24 : decode jdk_78_method_2_code 24 = .ok (.invokevirtual 27, 3) := by decide +kernel
theorem d_jdk_78m2_27 : decode jdk_78_method_2_code 27 = .ok (.pop, 1) := by decide +kernel
theorem d_jdk_78m2_28 : decode jdk_78_method_2_code 28 = .ok (.aload_n 0, 1) := by decide +kernel
theorem d_jdk_78m2_29 : decode jdk_78_method_2_code 29 = .ok (.aload_n 1, 1) := by decide +kernel
theorem d_jdk_78m2_30 : decode jdk_78_method_2_code 30 = .ok (.putfield 31, 3) := by decide +kernel
theorem d_jdk_78m2_33 : decode jdk_78_method_2_code 33 = .ok (.return_, 1) := by decide +kernel
theorem d_jdk_59m2_0 : decode jdk_59_method_2_code 0 = .ok (.aload_n 0, 1) := by decide +kernel
theorem d_jdk_59m2_1 : decode jdk_59_method_2_code 1 = .ok (.aload_n 1, 1) := by decide +kernel
theorem d_jdk_59m2_2 : decode jdk_59_method_2_code 2 = .ok (.invokespecial 7, 3) := by decide +kernel
theorem d_jdk_59m2_5 : decode jdk_59_method_2_code 5 = .ok (.return_, 1) := by decide +kernel
theorem d_jdk_30m1_0 : decode jdk_30_method_1_code 0 = .ok (.aload_n 0, 1) := by decide +kernel
theorem d_jdk_30m1_1 : decode jdk_30_method_1_code 1 = .ok (.invokespecial 1, 3) := by decide +kernel
theorem d_jdk_30m1_4 : decode jdk_30_method_1_code 4 = .ok (.return_, 1) := by decide +kernel
theorem d_prog_41m1_0 : decode prog_41_method_1_code 0 = .ok (.aload_n 0, 1) := by decide +kernel
theorem d_prog_41m1_1 : decode prog_41_method_1_code 1 = .ok (.aload_n 3, 1) := by decide +kernel
theorem d_prog_41m1_2 : decode prog_41_method_1_code 2 = .ok (.invokespecial 1, 3) := by decide +kernel
theorem d_prog_41m1_5 : decode prog_41_method_1_code 5 = .ok (.aload_n 0, 1) := by decide +kernel
theorem d_prog_41m1_6 : decode prog_41_method_1_code 6 = .ok (.aload_n 1, 1) := by decide +kernel
theorem d_prog_41m1_7 : decode prog_41_method_1_code 7 = .ok (.putfield 7, 3) := by decide +kernel
theorem d_prog_41m1_10 : decode prog_41_method_1_code 10 = .ok (.aload_n 0, 1) := by decide +kernel
theorem d_prog_41m1_11 : decode prog_41_method_1_code 11 = .ok (.aload_n 2, 1) := by decide +kernel
theorem d_prog_41m1_12 : decode prog_41_method_1_code 12 = .ok (.putfield 13, 3) := by decide +kernel
theorem d_prog_41m1_15 : decode prog_41_method_1_code 15 = .ok (.return_, 1) := by decide +kernel
theorem d_prog_41m2_0 : decode prog_41_method_2_code 0 = .ok (.aload_n 0, 1) := by decide +kernel
theorem d_prog_41m2_1 : decode prog_41_method_2_code 1 = .ok (.getfield 7, 3) := by decide +kernel
theorem d_prog_41m2_4 : decode prog_41_method_2_code 4 = .ok (.areturn, 1) := by decide +kernel
theorem d_prog_41m3_0 : decode prog_41_method_3_code 0 = .ok (.aload_n 0, 1) := by decide +kernel
theorem d_prog_41m3_1 : decode prog_41_method_3_code 1 = .ok (.getfield 13, 3) := by decide +kernel
theorem d_prog_41m3_4 : decode prog_41_method_3_code 4 = .ok (.areturn, 1) := by decide +kernel
theorem d_jdk_78m6_0 : decode jdk_78_method_6_code 0 = .ok (.aload_n 0, 1) := by decide +kernel
theorem d_jdk_78m6_1 : decode jdk_78_method_6_code 1 = .ok (.getfield 31, 3) := by decide +kernel
theorem d_jdk_78m6_4 : decode jdk_78_method_6_code 4 = .ok (.areturn, 1) := by decide +kernel
theorem d_jdk_37m2_0 : decode jdk_37_method_2_code 0 = .ok (.aload_n 0, 1) := by decide +kernel
theorem d_jdk_37m2_1 : decode jdk_37_method_2_code 1 = .ok (.getfield 7, 3) := by decide +kernel
theorem d_jdk_37m2_4 : decode jdk_37_method_2_code 4 = .ok (.ireturn, 1) := by decide +kernel
theorem d_prog_50m8_0 : decode prog_50_method_8_code 0 = .ok (.aload_n 0, 1) := by decide +kernel
theorem d_prog_50m8_1 : decode prog_50_method_8_code 1 = .ok (.getfield 7, 3) := by decide +kernel
theorem d_prog_50m8_4 : decode prog_50_method_8_code 4 = .ok (.ireturn, 1) := by decide +kernel
theorem d_prog_50m9_0 : decode prog_50_method_9_code 0 = .ok (.aload_n 0, 1) := by decide +kernel
theorem d_prog_50m9_1 : decode prog_50_method_9_code 1 = .ok (.getfield 13, 3) := by decide +kernel
theorem d_prog_50m9_4 : decode prog_50_method_9_code 4 = .ok (.areturn, 1) := by decide +kernel
theorem d_prog_50m10_0 : decode prog_50_method_10_code 0 = .ok (.aload_n 0, 1) := by decide +kernel
theorem d_prog_50m10_1 : decode prog_50_method_10_code 1 = .ok (.getfield 17, 3) := by decide +kernel
theorem d_prog_50m10_4 : decode prog_50_method_10_code 4 = .ok (.areturn, 1) := by decide +kernel
theorem d_prog_50m1_0 : decode prog_50_method_1_code 0 = .ok (.aload_n 0, 1) := by decide +kernel
theorem d_prog_50m1_1 : decode prog_50_method_1_code 1 = .ok (.invokespecial 1, 3) := by decide +kernel
theorem d_prog_50m1_4 : decode prog_50_method_1_code 4 = .ok (.aload_n 0, 1) := by decide +kernel
theorem d_prog_50m1_5 : decode prog_50_method_1_code 5 = .ok (.iload_n 1, 1) := by decide +kernel
theorem d_prog_50m1_6 : decode prog_50_method_1_code 6 = .ok (.putfield 7, 3) := by decide +kernel
theorem d_prog_50m1_9 : decode prog_50_method_1_code 9 = .ok (.aload_n 0, 1) := by decide +kernel
theorem d_prog_50m1_10 : decode prog_50_method_1_code 10 = .ok (.aload_n 2, 1) := by decide +kernel
theorem d_prog_50m1_11 : decode prog_50_method_1_code 11 = .ok (.putfield 13, 3) := by decide +kernel
theorem d_prog_50m1_14 : decode prog_50_method_1_code 14 = .ok (.aload_n 0, 1) := by decide +kernel
theorem d_prog_50m1_15 : decode prog_50_method_1_code 15 = .ok (.aload_n 3, 1) := by decide +kernel
theorem d_prog_50m1_16 : decode prog_50_method_1_code 16 = .ok (.putfield 17, 3) := by decide +kernel
theorem d_prog_50m1_19 : decode prog_50_method_1_code 19 = .ok (.return_, 1) := by decide +kernel
theorem d_prog_50m2_0 : decode prog_50_method_2_code 0 = .ok (.getstatic 20, 3) := by decide +kernel
theorem d_prog_50m2_3 : decode prog_50_method_2_code 3 = .ok (.aload_n 0, 1) := by decide +kernel
theorem d_prog_50m2_4 : decode prog_50_method_2_code 4 = .ok (.invokevirtual 26, 3) := by decide +kernel
theorem d_prog_50m2_7 : decode prog_50_method_2_code 7 = .ok (.invokevirtual 32, 3) := by decide +kernel
theorem d_prog_50m2_10 : decode prog_50_method_2_code 10 = .ok (.iaload, 1) := by decide +kernel
theorem d_prog_50m2_197 : decode prog_50_method_2_code 197 = .ok (.istore_n 1, 1) := by decide +kernel
theorem d_prog_50m2_198 : decode prog_50_method_2_code 198 = .ok (.new 8, 3) := by decide +kernel
theorem d_prog_50m2_201 : decode prog_50_method_2_code 201 = .ok (.dup, 1) := by decide +kernel
theorem d_prog_50m2_202 : decode prog_50_method_2_code 202 = .ok (.iload_n 1, 1) := by decide +kernel
theorem d_prog_50m2_203 : decode prog_50_method_2_code 203 = .ok (.aload_n 0, 1) := by decide +kernel
theorem d_prog_50m2_204 : decode prog_50_method_2_code 204 = .ok (.invokevirtual 43, 3) := by decide +kernel
theorem d_prog_50m2_207 : decode prog_50_method_2_code 207 = .ok (.aload_n 0, 1) := by decide +kernel
theorem d_prog_50m2_208 : decode prog_50_method_2_code 208 = .ok (.invokevirtual 46, 3) := by decide +kernel
theorem d_prog_50m2_211 : decode prog_50_method_2_code 211 = .ok (.invokespecial 49, 3) := by decide +kernel
theorem d_prog_50m2_214 : decode prog_50_method_2_code 214 = .ok (.areturn, 1) := by decide +kernel
theorem d_prog_50m2_11 : decode prog_50_method_2_code 11 = .ok (.tableswitch 89 1 19 #[99, 104, 109, 114, 119, 119, 124, 129, 134, 139, 144, 149, 154, 159, 164, 169, 174, 179, 184], 89) := by decide +kernel
theorem d_prog_50m2_110 : decode prog_50_method_2_code 110 = .ok (.bipush 10, 2) := by decide +kernel
theorem d_prog_50m2_112 : decode prog_50_method_2_code 112 = .ok (.goto 85, 3) := by decide +kernel
theorem d_prog_50m2_115 : decode prog_50_method_2_code 115 = .ok (.bipush 15, 2) := by decide +kernel
theorem d_prog_50m2_117 : decode prog_50_method_2_code 117 = .ok (.goto 80, 3) := by decide +kernel
theorem d_prog_50m2_120 : decode prog_50_method_2_code 120 = .ok (.bipush 16, 2) := by decide +kernel
theorem d_prog_50m2_122 : decode prog_50_method_2_code 122 = .ok (.goto 75, 3) := by decide +kernel
theorem d_prog_50m2_125 : decode prog_50_method_2_code 125 = .ok (.bipush 19, 2) := by decide +kernel
theorem d_prog_50m2_127 : decode prog_50_method_2_code 127 = .ok (.goto 70, 3) := by decide +kernel
theorem d_prog_50m2_135 : decode prog_50_method_2_code 135 = .ok (.bipush 22, 2) := by decide +kernel
theorem d_prog_50m2_137 : decode prog_50_method_2_code 137 = .ok (.goto 60, 3) := by decide +kernel
theorem d_prog_50m2_130 : decode prog_50_method_2_code 130 = .ok (.bipush 20, 2) := by decide +kernel
theorem d_prog_50m2_132 : decode prog_50_method_2_code 132 = .ok (.goto 65, 3) := by decide +kernel
theorem d_prog_50m2_195 : decode prog_50_method_2_code 195 = .ok (.bipush 88, 2) := by decide +kernel
theorem d_prog_50m2_155 : decode prog_50_method_2_code 155 = .ok (.bipush 28, 2) := by decide +kernel
theorem d_prog_50m2_157 : decode prog_50_method_2_code 157 = .ok (.goto 40, 3) := by decide +kernel
theorem d_prog_50m2_170 : decode prog_50_method_2_code 170 = .ok (.bipush 31, 2) := by decide +kernel
theorem d_prog_50m2_172 : decode prog_50_method_2_code 172 = .ok (.goto 25, 3) := by decide +kernel
theorem d_prog_50m2_150 : decode prog_50_method_2_code 150 = .ok (.bipush 27, 2) := by decide +kernel
theorem d_prog_50m2_152 : decode prog_50_method_2_code 152 = .ok (.goto 45, 3) := by decide +kernel
theorem d_prog_50m2_145 : decode prog_50_method_2_code 145 = .ok (.bipush 24, 2) := by decide +kernel
theorem d_prog_50m2_147 : decode prog_50_method_2_code 147 = .ok (.goto 50, 3) := by decide +kernel
theorem d_prog_50m2_175 : decode prog_50_method_2_code 175 = .ok (.bipush 36, 2) := by decide +kernel
theorem d_prog_50m2_177 : decode prog_50_method_2_code 177 = .ok (.goto 20, 3) := by decide +kernel
theorem d_prog_50m2_160 : decode prog_50_method_2_code 160 = .ok (.bipush 29, 2) := by decide +kernel
theorem d_prog_50m2_162 : decode prog_50_method_2_code 162 = .ok (.goto 35, 3) := by decide +kernel
theorem d_prog_50m2_140 : decode prog_50_method_2_code 140 = .ok (.bipush 23, 2) := by decide +kernel
theorem d_prog_50m2_142 : decode prog_50_method_2_code 142 = .ok (.goto 55, 3) := by decide +kernel
theorem d_prog_50m2_165 : decode prog_50_method_2_code 165 = .ok (.bipush 30, 2) := by decide +kernel
theorem d_prog_50m2_167 : decode prog_50_method_2_code 167 = .ok (.goto 30, 3) := by decide +kernel
theorem d_prog_50m2_180 : decode prog_50_method_2_code 180 = .ok (.bipush 38, 2) := by decide +kernel
theorem d_prog_50m2_182 : decode prog_50_method_2_code 182 = .ok (.goto 15, 3) := by decide +kernel
theorem d_prog_50m2_185 : decode prog_50_method_2_code 185 = .ok (.bipush 39, 2) := by decide +kernel
theorem d_prog_50m2_187 : decode prog_50_method_2_code 187 = .ok (.goto 10, 3) := by decide +kernel
theorem d_prog_50m2_190 : decode prog_50_method_2_code 190 = .ok (.bipush 46, 2) := by decide +kernel
theorem d_prog_50m2_192 : decode prog_50_method_2_code 192 = .ok (.goto 5, 3) := by decide +kernel
theorem d_jdk_42m66_0 : decode jdk_42_method_66_code 0 = .ok (.aload_n 0, 1) := by decide +kernel
theorem d_jdk_42m66_1 : decode jdk_42_method_66_code 1 = .ok (.aload_n 1, 1) := by decide +kernel
theorem d_jdk_42m66_2 : decode jdk_42_method_66_code 2 = .ok (.if_acmp .ne 5, 3) := by decide +kernel
theorem d_jdk_42m66_5 : decode jdk_42_method_66_code 5 = .ok (.iconst 1, 1) := by decide +kernel
theorem d_jdk_42m66_6 : decode jdk_42_method_66_code 6 = .ok (.ireturn, 1) := by decide +kernel
theorem d_method_3_0 : decode method_3_code 0 = .ok (.aload_n 0, 1) := by decide +kernel
theorem d_method_3_1 : decode method_3_code 1 = .ok (.ifnonnull 13, 3) := by decide +kernel
theorem d_method_3_4 : decode method_3_code 4 = .ok (.aload_n 1, 1) := by decide +kernel
theorem d_method_3_5 : decode method_3_code 5 = .ok (.ifnonnull 7, 3) := by decide +kernel
theorem d_method_3_8 : decode method_3_code 8 = .ok (.iconst 1, 1) := by decide +kernel
theorem d_method_3_9 : decode method_3_code 9 = .ok (.goto 4, 3) := by decide +kernel
theorem d_method_3_13 : decode method_3_code 13 = .ok (.ireturn, 1) := by decide +kernel
theorem d_method_3_14 : decode method_3_code 14 = .ok (.aload_n 0, 1) := by decide +kernel
theorem d_method_3_15 : decode method_3_code 15 = .ok (.aload_n 1, 1) := by decide +kernel
theorem d_method_3_16 : decode method_3_code 16 = .ok (.invokevirtual 101, 3) := by decide +kernel
theorem d_method_3_19 : decode method_3_code 19 = .ok (.ireturn, 1) := by decide +kernel
theorem pd0 : parseMethodDescriptor "()Ljava/lang/Throwable;" = some ⟨[], some (.object "java/lang/Throwable")⟩ := by decide +kernel
theorem pd1 : parseMethodDescriptor "(Ljava/lang/String;)V" = some ⟨[(.object "java/lang/String")], none⟩ := by decide +kernel
theorem pd2 : parseMethodDescriptor "()V" = some ⟨[], none⟩ := by decide +kernel
theorem pd3 : parseMethodDescriptor "()Lcom/example/shelfmark/shelfmark/model/QueryRefusedException$Reason;" = some ⟨[], some (.object "com/example/shelfmark/shelfmark/model/QueryRefusedException$Reason")⟩ := by decide +kernel
theorem pd4 : parseMethodDescriptor "()I" = some ⟨[], some .int⟩ := by decide +kernel
theorem pd5 : parseMethodDescriptor "()Ljava/lang/String;" = some ⟨[], some (.object "java/lang/String")⟩ := by decide +kernel
theorem pd6 : parseMethodDescriptor "(ILjava/lang/String;Ljava/lang/String;)V" = some ⟨[.int, (.object "java/lang/String"), (.object "java/lang/String")], none⟩ := by decide +kernel
theorem pd7 : parseMethodDescriptor "(Ljava/lang/Object;)Z" = some ⟨[(.object "java/lang/Object")], some .boolean⟩ := by decide +kernel
theorem pd8 : parseMethodDescriptor "(Lcom/example/shelfmark/shelfmark/model/QueryRefusedException$Reason;Ljava/lang/String;Ljava/lang/String;)V" = some ⟨[(.object "com/example/shelfmark/shelfmark/model/QueryRefusedException$Reason"), (.object "java/lang/String"), (.object "java/lang/String")], none⟩ := by decide +kernel
theorem pd9 : parseMethodDescriptor "(Lcom/example/shelfmark/shelfmark/model/QueryRefusedException;)Lcom/example/shelfmark/shelfmark/protocol/Diagnostic;" = some ⟨[(.object "com/example/shelfmark/shelfmark/model/QueryRefusedException")], some (.object "com/example/shelfmark/shelfmark/protocol/Diagnostic")⟩ := by decide +kernel
theorem pd10 : parseMethodDescriptor "(Ljava/lang/String;Ljava/lang/String;)Z" = some ⟨[(.object "java/lang/String"), (.object "java/lang/String")], some .boolean⟩ := by decide +kernel
theorem pd11 : parseMethodDescriptor "([C)V" = some ⟨[(.array .char)], none⟩ := by decide +kernel
theorem pn0 : plainName "java/lang/Throwable" = true := by first | (simp [plainName, overriddenIn]; done) | decide +kernel
theorem pn1 : plainName "java/lang/Exception" = true := by first | (simp [plainName, overriddenIn]; done) | decide +kernel
theorem pn2 : plainName "java/lang/Record" = true := by first | (simp [plainName, overriddenIn]; done) | decide +kernel
theorem pn3 : plainName "com/example/shelfmark/shelfmark/model/QueryRefusedException" = true := by first | (simp [plainName, overriddenIn]; done) | decide +kernel
theorem pn4 : plainName "java/lang/Enum" = true := by first | (simp [plainName, overriddenIn]; done) | decide +kernel
theorem pn5 : plainName "com/example/shelfmark/shelfmark/protocol/Diagnostic" = true := by first | (simp [plainName, overriddenIn]; done) | decide +kernel
theorem pn6 : plainName "java/lang/String" = true := by first | (simp [plainName, overriddenIn]; done) | decide +kernel
theorem pn7 : plainName "com/example/shelfmark/shelfmark/protocol/DiagnosticOfPinLaw" = true := by first | (simp [plainName, overriddenIn]; done) | decide +kernel
theorem ef0 (m : MethodId) (x0 : Addr) (x1 : Value) (hx1 : x1.isRef = true) : entryFrame m #[(.ref x0), x1] 2 = mkF m 0 #[.val (.ref x0), .val x1] [] := by rcases ref_cases hx1 with rfl | ⟨_, rfl⟩ <;> (first | (simp [entryFrame, mkF, argsToLocals, Value.category]; done) | rfl)
theorem ef1 (m : MethodId) (x0 : Addr) (x1 : Value) (hx1 : x1.isRef = true) : entryFrame m #[(.ref x0), x1] 2 = mkF m 0 #[.val (.ref x0), .val x1] [] := by rcases ref_cases hx1 with rfl | ⟨_, rfl⟩ <;> (first | (simp [entryFrame, mkF, argsToLocals, Value.category]; done) | rfl)
theorem ef2 (m : MethodId) (x0 : Addr) : entryFrame m #[(.ref x0)] 1 = mkF m 0 #[.val (.ref x0)] [] := by (first | (simp [entryFrame, mkF, argsToLocals, Value.category]; done) | rfl)
theorem ef3 (m : MethodId) (x0 : Addr) (x1 : Addr) (x2 : Value) (hx2 : x2.isRef = true) (x3 : Value) (hx3 : x3.isRef = true) : entryFrame m #[(.ref x0), (.ref x1), x2, x3] 4 = mkF m 0 #[.val (.ref x0), .val (.ref x1), .val x2, .val x3] [] := by rcases ref_cases hx2 with rfl | ⟨_, rfl⟩ <;> rcases ref_cases hx3 with rfl | ⟨_, rfl⟩ <;> (first | (simp [entryFrame, mkF, argsToLocals, Value.category]; done) | rfl)
theorem ef4 (m : MethodId) (x0 : Addr) : entryFrame m #[(.ref x0)] 1 = mkF m 0 #[.val (.ref x0)] [] := by (first | (simp [entryFrame, mkF, argsToLocals, Value.category]; done) | rfl)
theorem ef5 (m : MethodId) (x0 : Addr) : entryFrame m #[(.ref x0)] 1 = mkF m 0 #[.val (.ref x0)] [] := by (first | (simp [entryFrame, mkF, argsToLocals, Value.category]; done) | rfl)
theorem ef6 (m : MethodId) (x0 : Addr) : entryFrame m #[(.ref x0)] 1 = mkF m 0 #[.val (.ref x0)] [] := by (first | (simp [entryFrame, mkF, argsToLocals, Value.category]; done) | rfl)
theorem ef7 (m : MethodId) (x0 : Addr) : entryFrame m #[(.ref x0)] 1 = mkF m 0 #[.val (.ref x0)] [] := by (first | (simp [entryFrame, mkF, argsToLocals, Value.category]; done) | rfl)
theorem ef8 (m : MethodId) (x0 : Addr) : entryFrame m #[(.ref x0)] 1 = mkF m 0 #[.val (.ref x0)] [] := by (first | (simp [entryFrame, mkF, argsToLocals, Value.category]; done) | rfl)
theorem ef9 (m : MethodId) (x0 : Addr) : entryFrame m #[(.ref x0)] 1 = mkF m 0 #[.val (.ref x0)] [] := by (first | (simp [entryFrame, mkF, argsToLocals, Value.category]; done) | rfl)
theorem ef10 (m : MethodId) (x0 : Addr) : entryFrame m #[(.ref x0)] 1 = mkF m 0 #[.val (.ref x0)] [] := by (first | (simp [entryFrame, mkF, argsToLocals, Value.category]; done) | rfl)
theorem ef11 (m : MethodId) (x0 : Addr) (x1 : Int32) (x2 : Value) (hx2 : x2.isRef = true) (x3 : Value) (hx3 : x3.isRef = true) : entryFrame m #[(.ref x0), (.int x1), x2, x3] 4 = mkF m 0 #[.val (.ref x0), .val (.int x1), .val x2, .val x3] [] := by rcases ref_cases hx2 with rfl | ⟨_, rfl⟩ <;> rcases ref_cases hx3 with rfl | ⟨_, rfl⟩ <;> (first | (simp [entryFrame, mkF, argsToLocals, Value.category]; done) | rfl)
theorem ef12 (m : MethodId) (x0 : Addr) : entryFrame m #[(.ref x0)] 2 = mkF m 0 #[.val (.ref x0), .unset] [] := by (first | (simp [entryFrame, mkF, argsToLocals, Value.category]; done) | rfl)
theorem ef13 (m : MethodId) (x0 : Addr) (x1 : Addr) : entryFrame m #[(.ref x0), (.ref x1)] 3 = mkF m 0 #[.val (.ref x0), .val (.ref x1), .unset] [] := by (first | (simp [entryFrame, mkF, argsToLocals, Value.category]; done) | rfl)
theorem ef14 (m : MethodId)  : entryFrame m #[.null, .null] 2 = mkF m 0 #[.val .null, .val .null] [] := by (first | (simp [entryFrame, mkF, argsToLocals, Value.category]; done) | rfl)
theorem ef15 (m : MethodId) (x0 : Addr) (x1 : Addr) : entryFrame m #[(.ref x0), (.ref x1)] 2 = mkF m 0 #[.val (.ref x0), .val (.ref x1)] [] := by (first | (simp [entryFrame, mkF, argsToLocals, Value.category]; done) | rfl)
theorem ef16 (m : MethodId) (x0 : Int32) (x1 : Int32) (x2 : Int32) : entryFrame m #[(.int x0), (.int x1), (.int x2)] maxLocals = mkF m 0 #[.val (.int x0), .val (.int x1), .val (.int x2), .unset, .unset, .unset, .unset, .unset, .unset, .unset] [] := by (first | (simp [entryFrame, mkF, argsToLocals, Value.category, maxLocals]; done) | rfl)
/-- the String at x spells cs (Latin-1, at most 4,000 signs) -/
def Str (Z : State) (h : Heap) (x : Addr) (cs : List Int32) : Prop := Exa Z h x StN ∧ Fld Z h x StN "coder" "B" (.int 0) ∧ (∃ t, Fld Z h x StN "value" "[B" (.ref t) ∧ Wk.Ary Z h t .byte ((cs.map fun c => c.toInt8.toInt32).map Value.int)) ∧ (∀ c ∈ cs, ¬ c < 0 ∧ ¬ (255 : Int32) < c) ∧ cs.length ≤ 4000
theorem Str.ext {Z : State} {h h' : Heap} {x : Addr} {cs : List Int32} (F : Str Z h x cs) (E : Ext h h') : Str Z h' x cs := by
  obtain ⟨a, b, ⟨t, c, d⟩, r⟩ := F
  exact ⟨a.ext E, b.ext E, ⟨t, c.ext E, d.ext E⟩, r⟩
theorem Str.exa {Z : State} {h : Heap} {x : Addr} {cs : List Int32} (F : Str Z h x cs) : Exa Z h x StN := F.1
theorem Str.lt {Z : State} {h : Heap} {x : Addr} {cs : List Int32} (F : Str Z h x cs) : x < h.size := F.1.lt
theorem strNew {l : Launch} {R : Room} {Z : State} {W : Wk.Wd} {a0 : Array Value} {own nm : String} {code : ByteArray} {maxL : Nat} {ret : Option FieldType} (C : Wk.Cx Z W own nm code maxL ret) (hw : Ws a0 Z) (hs : Sets Z) {h : Heap} (O : Ext Z.heap h) {x b : Addr} {cs : List Int32} {n Wn : Nat} {v0 c0 : Value}
    (hx0 : Z.heap.size ≤ x) (E : Exa Z h x StN) (V : Fld Z h x StN "value" "[B" v0) (Cd : Fld Z h x StN "coder" "B" c0) (K : Wk.Ary Z h b .char (cs.map Value.int)) (hn : cs.length = n) (l0 : 0 < n) (l2 : n ≤ 4000) (hp : ∀ c ∈ cs, ¬ c < 0 ∧ ¬ (255 : Int32) < c) (hfr : 4 ≤ R.frames) (hlo : Wn + 65 ≤ R.locals) :
    Wk.Pays l R W (⟨"java/lang/String", "<init>", "([C)V"⟩ : MethodName) 3 Wn #[.ref x, .ref b] h 1 n (StrChars.Road.QV Z x (Int32.ofNat n) (cs.map fun c => c.toInt8.toInt32) h Z.heap.size) := by
  obtain ⟨z, fm, S1, hz, -, -⟩ := hs
  obtain ⟨kc, A⟩ := K.arv (d := .int 0)
  rw [List.length_map, hn] at A
  have hws : ∀ d ∈ StrChars.Road.words, d.before a0 Z = true := fun d hd => hw d ((by decide +kernel : ∀ d ∈ StrChars.Road.words, d ∈ tables_1) d hd)
  exact StrChars.Road.backV (W := Wn) C.hZ hws (kI := 4) (w173 hw) (cs := cs) hx0 O.1 E V Cd A (S1.ext O) hz hn rfl l0 l2 hp rfl hfr hlo
theorem strNewC {Z : State} {h : Heap} {x : Addr} {cs : List Int32} {n : Nat} (O : Ext Z.heap h) (hx0 : Z.heap.size ≤ x) (hn : cs.length = n) (l2 : n ≤ 4000) (hp : ∀ c ∈ cs, ¬ c < 0 ∧ ¬ (255 : Int32) < c) :
    Wk.Clean Z (fun v h' => v = none ∧ Keep h h' [x] ∧ Str Z h' x cs) (StrChars.Road.QV Z x (Int32.ofNat n) (cs.map fun c => c.toInt8.toInt32) h Z.heap.size) := by
  rintro v h' L ⟨rfl, N, K, E, Cd, t, kb, -, -, -, V, A⟩
  refine ⟨⟨rfl, K, E, Cd, ⟨t, V, Wk.Ary.of_arv A ?_⟩, hp, by omega⟩, Wk.Ext.keep1 (Z := Z) O K hx0, N⟩
  rw [Int32.toNatClampNeg_ofNat_of_lt (by omega)]; simp [hn]
def numL : List Int32 := [10, 15, 16, 19, 22, 20, 20, 88, 28, 31, 27, 24, 36, 29, 23, 30, 38, 39, 46]
def smL : List Int32 := [1, 2, 3, 4, 7, 5, 6, 19, 11, 14, 10, 9, 15, 12, 8, 13, 16, 17, 18]
theorem own_numLen : numL.length = 19 := rfl
theorem own_smLen : smL.length = 19 := rfl
theorem own_swk (k : Nat) (h : k < 19) : (smL.getD k 0 = 1 ∧ numL.getD k 0 = 10) ∨ (smL.getD k 0 = 2 ∧ numL.getD k 0 = 15) ∨ (smL.getD k 0 = 3 ∧ numL.getD k 0 = 16) ∨ (smL.getD k 0 = 4 ∧ numL.getD k 0 = 19) ∨ (smL.getD k 0 = 7 ∧ numL.getD k 0 = 22) ∨ (smL.getD k 0 = 5 ∧ numL.getD k 0 = 20) ∨ (smL.getD k 0 = 6 ∧ numL.getD k 0 = 20) ∨ (smL.getD k 0 = 19 ∧ numL.getD k 0 = 88) ∨ (smL.getD k 0 = 11 ∧ numL.getD k 0 = 28) ∨ (smL.getD k 0 = 14 ∧ numL.getD k 0 = 31) ∨ (smL.getD k 0 = 10 ∧ numL.getD k 0 = 27) ∨ (smL.getD k 0 = 9 ∧ numL.getD k 0 = 24) ∨ (smL.getD k 0 = 15 ∧ numL.getD k 0 = 36) ∨ (smL.getD k 0 = 12 ∧ numL.getD k 0 = 29) ∨ (smL.getD k 0 = 8 ∧ numL.getD k 0 = 23) ∨ (smL.getD k 0 = 13 ∧ numL.getD k 0 = 30) ∨ (smL.getD k 0 = 16 ∧ numL.getD k 0 = 38) ∨ (smL.getD k 0 = 17 ∧ numL.getD k 0 = 39) ∨ (smL.getD k 0 = 18 ∧ numL.getD k 0 = 46) := by
  have e : k = 0 ∨ k = 1 ∨ k = 2 ∨ k = 3 ∨ k = 4 ∨ k = 5 ∨ k = 6 ∨ k = 7 ∨ k = 8 ∨ k = 9 ∨ k = 10 ∨ k = 11 ∨ k = 12 ∨ k = 13 ∨ k = 14 ∨ k = 15 ∨ k = 16 ∨ k = 17 ∨ k = 18 := by omega
  rcases e with rfl | rfl | rfl | rfl | rfl | rfl | rfl | rfl | rfl | rfl | rfl | rfl | rfl | rfl | rfl | rfl | rfl | rfl | rfl
  · exact Or.inl ⟨rfl, rfl⟩
  · exact Or.inr (Or.inl ⟨rfl, rfl⟩)
  · exact Or.inr (Or.inr (Or.inl ⟨rfl, rfl⟩))
  · exact Or.inr (Or.inr (Or.inr (Or.inl ⟨rfl, rfl⟩)))
  · exact Or.inr (Or.inr (Or.inr (Or.inr (Or.inl ⟨rfl, rfl⟩))))
  · exact Or.inr (Or.inr (Or.inr (Or.inr (Or.inr (Or.inl ⟨rfl, rfl⟩)))))
  · exact Or.inr (Or.inr (Or.inr (Or.inr (Or.inr (Or.inr (Or.inl ⟨rfl, rfl⟩))))))
  · exact Or.inr (Or.inr (Or.inr (Or.inr (Or.inr (Or.inr (Or.inr (Or.inl ⟨rfl, rfl⟩)))))))
  · exact Or.inr (Or.inr (Or.inr (Or.inr (Or.inr (Or.inr (Or.inr (Or.inr (Or.inl ⟨rfl, rfl⟩))))))))
  · exact Or.inr (Or.inr (Or.inr (Or.inr (Or.inr (Or.inr (Or.inr (Or.inr (Or.inr (Or.inl ⟨rfl, rfl⟩)))))))))
  · exact Or.inr (Or.inr (Or.inr (Or.inr (Or.inr (Or.inr (Or.inr (Or.inr (Or.inr (Or.inr (Or.inl ⟨rfl, rfl⟩))))))))))
  · exact Or.inr (Or.inr (Or.inr (Or.inr (Or.inr (Or.inr (Or.inr (Or.inr (Or.inr (Or.inr (Or.inr (Or.inl ⟨rfl, rfl⟩)))))))))))
  · exact Or.inr (Or.inr (Or.inr (Or.inr (Or.inr (Or.inr (Or.inr (Or.inr (Or.inr (Or.inr (Or.inr (Or.inr (Or.inl ⟨rfl, rfl⟩))))))))))))
  · exact Or.inr (Or.inr (Or.inr (Or.inr (Or.inr (Or.inr (Or.inr (Or.inr (Or.inr (Or.inr (Or.inr (Or.inr (Or.inr (Or.inl ⟨rfl, rfl⟩)))))))))))))
  · exact Or.inr (Or.inr (Or.inr (Or.inr (Or.inr (Or.inr (Or.inr (Or.inr (Or.inr (Or.inr (Or.inr (Or.inr (Or.inr (Or.inr (Or.inl ⟨rfl, rfl⟩))))))))))))))
  · exact Or.inr (Or.inr (Or.inr (Or.inr (Or.inr (Or.inr (Or.inr (Or.inr (Or.inr (Or.inr (Or.inr (Or.inr (Or.inr (Or.inr (Or.inr (Or.inl ⟨rfl, rfl⟩)))))))))))))))
  · exact Or.inr (Or.inr (Or.inr (Or.inr (Or.inr (Or.inr (Or.inr (Or.inr (Or.inr (Or.inr (Or.inr (Or.inr (Or.inr (Or.inr (Or.inr (Or.inr (Or.inl ⟨rfl, rfl⟩))))))))))))))))
  · exact Or.inr (Or.inr (Or.inr (Or.inr (Or.inr (Or.inr (Or.inr (Or.inr (Or.inr (Or.inr (Or.inr (Or.inr (Or.inr (Or.inr (Or.inr (Or.inr (Or.inr (Or.inl ⟨rfl, rfl⟩)))))))))))))))))
  · exact Or.inr (Or.inr (Or.inr (Or.inr (Or.inr (Or.inr (Or.inr (Or.inr (Or.inr (Or.inr (Or.inr (Or.inr (Or.inr (Or.inr (Or.inr (Or.inr (Or.inr (Or.inr (⟨rfl, rfl⟩))))))))))))))))))
theorem own_sw {k : Nat} {z : Int32} (h : k < 19) (hz : smL.getD k 0 = z) : (z = 1 ∧ numL.getD k 0 = 10) ∨ (z = 2 ∧ numL.getD k 0 = 15) ∨ (z = 3 ∧ numL.getD k 0 = 16) ∨ (z = 4 ∧ numL.getD k 0 = 19) ∨ (z = 7 ∧ numL.getD k 0 = 22) ∨ (z = 5 ∧ numL.getD k 0 = 20) ∨ (z = 6 ∧ numL.getD k 0 = 20) ∨ (z = 19 ∧ numL.getD k 0 = 88) ∨ (z = 11 ∧ numL.getD k 0 = 28) ∨ (z = 14 ∧ numL.getD k 0 = 31) ∨ (z = 10 ∧ numL.getD k 0 = 27) ∨ (z = 9 ∧ numL.getD k 0 = 24) ∨ (z = 15 ∧ numL.getD k 0 = 36) ∨ (z = 12 ∧ numL.getD k 0 = 29) ∨ (z = 8 ∧ numL.getD k 0 = 23) ∨ (z = 13 ∧ numL.getD k 0 = 30) ∨ (z = 16 ∧ numL.getD k 0 = 38) ∨ (z = 17 ∧ numL.getD k 0 = 39) ∨ (z = 18 ∧ numL.getD k 0 = 46) := by
  have q := own_swk k h
  rw [hz] at q
  exact q
theorem own_rget {rs : List Addr} {k : Nat} (h : k < rs.length) : (rs.map Value.ref)[k]? = some (.ref (rs.getD k 0)) := by simp [List.getD_eq_getElem?_getD, h]
theorem own_exW : ∀ w ∈ Jvm.Free.Exc.excAtoms "com/example/shelfmark/shelfmark/model/QueryRefusedException", w ≠ Wk.supW → w ∈ tables_1 := by decide +kernel
theorem own_exA {a0 : Array Value} {Z : State} (hw : Ws a0 Z) : ∀ w : Jvm.Cond, w ∈ Jvm.Free.Exc.excAtoms "com/example/shelfmark/shelfmark/model/QueryRefusedException" → w ≠ Wk.supW → w.before a0 Z = true := fun w h1 h2 => hw w (own_exW w h1 h2)
set_option maxRecDepth 65536 in
set_option maxHeartbeats 40000000 in
theorem own_tInit (l : Launch) {Z : State} {a0 : Array Value} (hw : Ws a0 Z) {h0 : Heap} (O0 : Ext Z.heap h0) (hl : l.stackTraces = true) (uS sS : Addr) (SU : Sta Z Z.heap "java/lang/Throwable" "UNASSIGNED_STACK" "[Ljava/lang/StackTraceElement;" (.ref uS)) (SS : Sta Z Z.heap "java/lang/Throwable" "SUPPRESSED_SENTINEL" "Ljava/util/List;" (.ref sS)) (a1 : Addr) (e2 : Value) (he2 : e2.isRef = true) (g1 : Z.heap.size ≤ a1) (E1 : Exa Z h0 a1 "com/example/shelfmark/shelfmark/model/QueryRefusedException") (U1 : Unt h0 a1) (B1 : Fld Z h0 a1 "java/lang/Throwable" "backtrace" "Ljava/lang/Object;" .null) :
    Wk.Con l Z (⟨"java/lang/Throwable", "<init>", "(Ljava/lang/String;)V"⟩ : MethodName) jdk_78_method_2_code 2 none ({ frames := 3, cells := 1, slots := 2752, locals := 42 } : Room) #[(.ref a1), e2] h0 (fun v h' => v = none ∧ Keep h0 h' [a1] ∧ Exa Z h' a1 "com/example/shelfmark/shelfmark/model/QueryRefusedException" ∧ Fld Z h' a1 "java/lang/Throwable" "detailMessage" "Ljava/lang/String;" e2) := by
  refine Wk.Con.intro (plainFor_of_name pn0) O0 (fun m => ef0 m a1 e2 he2) ?_
  intro W C
  replace C : Wk.Cx Z W "java/lang/Throwable" "<init>" jdk_78_method_2_code 2 none := C
  refine Wk.aloadN (pc' := 1) C d_jdk_78m2_0 rfl rfl rfl ?_
  refine Wk.initO (pc' := 4) C d_jdk_78m2_1 (Wn := 0) (w61 hw) (w62 hw) (w63 hw) rfl (by decide) (Nat.le_of_eq rfl) (by decide) rfl ?_
  obtain ⟨v11, F12⟩ := Wk.fldOf U1 (show Keep h0 h0 [a1] from (Keep.refl _ _)) E1 (w45 hw) (Or.inl (w65 hw))
  obtain ⟨v13, F14⟩ := Wk.fldOf U1 (show Keep h0 h0 [a1] from (Keep.refl _ _)) E1 (w45 hw) (Or.inl (w68 hw))
  obtain ⟨v15, F16⟩ := Wk.fldOf U1 (show Keep h0 h0 [a1] from (Keep.refl _ _)) E1 (w45 hw) (Or.inl (w71 hw))
  refine Wk.aloadN (pc' := 5) C d_jdk_78m2_4 rfl rfl rfl ?_
  refine Wk.aloadN (pc' := 6) C d_jdk_78m2_5 rfl rfl rfl ?_
  refine Wk.putF (pc' := 9) C d_jdk_78m2_6 (w64 hw) Via.refl F12 E1 (Or.inl (w65 hw)) (w45 hw) (ty := (.object "java/lang/Throwable")) (by decide) rfl rfl g1 rfl ?_
  intro h17 W17 O17
  have F18 := F12.same W17
  refine Wk.aloadN (pc' := 10) C d_jdk_78m2_9 rfl rfl rfl ?_
  refine Wk.getS (pc' := 13) C d_jdk_78m2_10 (w66 hw) Via.refl (SU.ext O17) rfl ?_
  refine Wk.putF (pc' := 16) C d_jdk_78m2_13 (w67 hw) Via.refl (F14.other W17 (Or.inr (slot_ne (Or.inl (w68 hw)) (Or.inl (w65 hw)) (by decide) (t := (.array (.object "java/lang/StackTraceElement"))) (t' := (.object "java/lang/Throwable")) (by decide) (by decide)))) (E1.wr W17) (Or.inl (w68 hw)) (w45 hw) (ty := (.array (.object "java/lang/StackTraceElement"))) (by decide) rfl rfl g1 rfl ?_
  intro h19 W19 O19
  have F20 := (F14.other W17 (Or.inr (slot_ne (Or.inl (w68 hw)) (Or.inl (w65 hw)) (by decide) (t := (.array (.object "java/lang/StackTraceElement"))) (t' := (.object "java/lang/Throwable")) (by decide) (by decide)))).same W19
  refine Wk.aloadN (pc' := 17) C d_jdk_78m2_16 rfl rfl rfl ?_
  refine Wk.getS (pc' := 20) C d_jdk_78m2_17 (w69 hw) Via.refl (SS.ext O19) rfl ?_
  refine Wk.putF (pc' := 23) C d_jdk_78m2_20 (w70 hw) Via.refl ((F16.other W17 (Or.inr (slot_ne (Or.inl (w71 hw)) (Or.inl (w65 hw)) (by decide) (t := (.object "java/util/List")) (t' := (.object "java/lang/Throwable")) (by decide) (by decide)))).other W19 (Or.inr (slot_ne (Or.inl (w71 hw)) (Or.inl (w68 hw)) (by decide) (t := (.object "java/util/List")) (t' := (.array (.object "java/lang/StackTraceElement"))) (by decide) (by decide)))) ((E1.wr W17).wr W19) (Or.inl (w71 hw)) (w45 hw) (ty := (.object "java/util/List")) (by decide) rfl rfl g1 rfl ?_
  intro h21 W21 O21
  have F22 := ((F16.other W17 (Or.inr (slot_ne (Or.inl (w71 hw)) (Or.inl (w65 hw)) (by decide) (t := (.object "java/util/List")) (t' := (.object "java/lang/Throwable")) (by decide) (by decide)))).other W19 (Or.inr (slot_ne (Or.inl (w71 hw)) (Or.inl (w68 hw)) (by decide) (t := (.object "java/util/List")) (t' := (.array (.object "java/lang/StackTraceElement"))) (by decide) (by decide)))).same W21
  refine Wk.aloadN (pc' := 24) C d_jdk_78m2_23 rfl rfl rfl ?_
  refine Wk.callV (pc' := 27) C d_jdk_78m2_24 (a := a1) (Wk.fillP C hl (rc := "com/example/shelfmark/shelfmark/model/QueryRefusedException") (Wn := 0) (by decide) (own_exA hw) (w45 hw) (a := a1) (u := uS) g1 (((E1.wr W17).wr W19).wr W21) (Wk.untWr (Wk.untWr (Wk.untWr U1 W17) W19) W21) (((B1.other W17 (Or.inr (slot_ne (Or.inl (w96 hw)) (Or.inl (w65 hw)) (by decide) (t := (.object "java/lang/Object")) (t' := (.object "java/lang/Throwable")) (by decide) (by decide)))).other W19 (Or.inr (slot_ne (Or.inl (w96 hw)) (Or.inl (w68 hw)) (by decide) (t := (.object "java/lang/Object")) (t' := (.array (.object "java/lang/StackTraceElement"))) (by decide) (by decide)))).other W21 (Or.inr (slot_ne (Or.inl (w96 hw)) (Or.inl (w71 hw)) (by decide) (t := (.object "java/lang/Object")) (t' := (.object "java/util/List")) (by decide) (by decide)))) (F20.other W21 (Or.inr (slot_ne (Or.inl (w68 hw)) (Or.inl (w71 hw)) (by decide) (t := (.array (.object "java/lang/StackTraceElement"))) (t' := (.object "java/util/List")) (by decide) (by decide)))) SU O21 (by decide) (by decide)) Wk.cleanC (((E1.wr W17).wr W19).wr W21) (w72 hw) (w73 hw) (notFace_of_selects (args := #[]) (mvT C.hZ (w75 hw))) (w75 hw) (w74 hw) (by decide) (argsL := []) (st := []) rfl rfl (lenOf pd0 rfl) rfl (Nat.le_of_eq rfl) (k' := 1) rfl (n' := 2752) rfl (by decide) (by decide) rfl ?_
  intro r23 h24 Q24 O24
  obtain ⟨rfl, K24⟩ := Q24
  refine Wk.pop (pc' := 28) C d_jdk_78m2_27 rfl rfl ?_
  obtain ⟨v25, F26⟩ := Wk.fldOf U1 (show Keep h0 h24 [a1] from (((((Keep.refl _ _).wr W17 (Or.inl (List.mem_singleton.mpr rfl))).wr W19 (Or.inl (List.mem_singleton.mpr rfl))).wr W21 (Or.inl (List.mem_singleton.mpr rfl))).trans K24 (allS (Or.inl (List.mem_singleton.mpr rfl)) all0))) ((((E1.wr W17).wr W19).wr W21).keep K24) (w45 hw) (Or.inl (w95 hw))
  refine Wk.aloadN (pc' := 29) C d_jdk_78m2_28 rfl rfl rfl ?_
  refine Wk.aloadN (pc' := 30) C d_jdk_78m2_29 rfl he2 rfl ?_
  refine Wk.putF (pc' := 33) C d_jdk_78m2_30 (w99 hw) Via.refl F26 ((((E1.wr W17).wr W19).wr W21).keep K24) (Or.inl (w95 hw)) (w45 hw) (ty := (.object "java/lang/String")) (by decide) (Wk.narR he2 rfl) (Wk.fitR he2 rfl) g1 rfl ?_
  intro h27 W27 O27
  have F28 := F26.same W27
  exact Wk.retV C d_jdk_78m2_33 (by decide) (by decide) ⟨rfl, ((((((Keep.refl _ _).wr W17 (Or.inl (List.mem_singleton.mpr rfl))).wr W19 (Or.inl (List.mem_singleton.mpr rfl))).wr W21 (Or.inl (List.mem_singleton.mpr rfl))).trans K24 (allS (Or.inl (List.mem_singleton.mpr rfl)) all0)).wr W27 (Or.inl (List.mem_singleton.mpr rfl))), (((((E1.wr W17).wr W19).wr W21).keep K24).wr W27), F28⟩
set_option maxRecDepth 65536 in
set_option maxHeartbeats 40000000 in
theorem own_eInit (l : Launch) {Z : State} {a0 : Array Value} (hw : Ws a0 Z) {h0 : Heap} (O0 : Ext Z.heap h0) (hl : l.stackTraces = true) (uS sS : Addr) (SU : Sta Z Z.heap "java/lang/Throwable" "UNASSIGNED_STACK" "[Ljava/lang/StackTraceElement;" (.ref uS)) (SS : Sta Z Z.heap "java/lang/Throwable" "SUPPRESSED_SENTINEL" "Ljava/util/List;" (.ref sS)) (a1 : Addr) (e2 : Value) (he2 : e2.isRef = true) (g1 : Z.heap.size ≤ a1) (E1 : Exa Z h0 a1 "com/example/shelfmark/shelfmark/model/QueryRefusedException") (U1 : Unt h0 a1) (B1 : Fld Z h0 a1 "java/lang/Throwable" "backtrace" "Ljava/lang/Object;" .null) :
    Wk.Con l Z (⟨"java/lang/Exception", "<init>", "(Ljava/lang/String;)V"⟩ : MethodName) jdk_59_method_2_code 2 none ({ frames := 4, cells := 1, slots := 2752, locals := 55 } : Room) #[(.ref a1), e2] h0 (fun v h' => v = none ∧ Keep h0 h' [a1] ∧ Exa Z h' a1 "com/example/shelfmark/shelfmark/model/QueryRefusedException" ∧ Fld Z h' a1 "java/lang/Throwable" "detailMessage" "Ljava/lang/String;" e2) := by
  refine Wk.Con.intro (plainFor_of_name pn1) O0 (fun m => ef1 m a1 e2 he2) ?_
  intro W C
  replace C : Wk.Cx Z W "java/lang/Exception" "<init>" jdk_59_method_2_code 2 none := C
  refine Wk.aloadN (pc' := 1) C d_jdk_59m2_0 rfl rfl rfl ?_
  refine Wk.aloadN (pc' := 2) C d_jdk_59m2_1 rfl he2 rfl ?_
  refine Wk.callI (pc' := 5) C d_jdk_59m2_2 (a := a1) (Wk.Con.pays C (Wn := 0) (own_tInit l hw O0 hl uS sS SU SS a1 e2 he2 g1 E1 U1 B1) (w60 hw) (w59 hw) (by decide) (by decide)) Wk.cleanC rfl (w55 hw) (w56 hw) (w60 hw) (by decide) (argsL := [e2]) (st := []) rfl rfl (lenOf pd1 rfl) rfl (Nat.le_of_eq rfl) (k' := 1) rfl (n' := 2752) rfl (by decide) (by decide) rfl ?_
  intro r11 h12 Q12 O12
  obtain ⟨rfl, K12, A12, M12⟩ := Q12
  exact Wk.retV C d_jdk_59m2_5 (by decide) (by decide) ⟨rfl, ((Keep.refl _ _).trans K12 (allS (Or.inl (List.mem_singleton.mpr rfl)) all0)), A12, M12⟩
set_option maxRecDepth 65536 in
set_option maxHeartbeats 40000000 in
theorem own_record (l : Launch) {Z : State} {a0 : Array Value} (hw : Ws a0 Z) {h0 : Heap} (O0 : Ext Z.heap h0) (a1 : Addr)  :
    Wk.Con l Z (⟨"java/lang/Record", "<init>", "()V"⟩ : MethodName) jdk_30_method_1_code 1 none ({ frames := 1, cells := 0, slots := 0, locals := 12 } : Room) #[(.ref a1)] h0 (fun v h' => v = none ∧ h' = h0) := by
  refine Wk.Con.intro (plainFor_of_name pn2) O0 (fun m => ef2 m a1) ?_
  intro W C
  replace C : Wk.Cx Z W "java/lang/Record" "<init>" jdk_30_method_1_code 1 none := C
  refine Wk.aloadN (pc' := 1) C d_jdk_30m1_0 rfl rfl rfl ?_
  refine Wk.initO (pc' := 4) C d_jdk_30m1_1 (Wn := 0) (w146 hw) (w62 hw) (w63 hw) rfl (by decide) (Nat.le_of_eq rfl) (by decide) rfl ?_
  exact Wk.retV C d_jdk_30m1_4 (by decide) (by decide) ⟨rfl, rfl⟩
set_option maxRecDepth 65536 in
set_option maxHeartbeats 40000000 in
theorem own_qInit (l : Launch) {Z : State} {a0 : Array Value} (hw : Ws a0 Z) {h0 : Heap} (O0 : Ext Z.heap h0) (hl : l.stackTraces = true) (uS sS : Addr) (SU : Sta Z Z.heap "java/lang/Throwable" "UNASSIGNED_STACK" "[Ljava/lang/StackTraceElement;" (.ref uS)) (SS : Sta Z Z.heap "java/lang/Throwable" "SUPPRESSED_SENTINEL" "Ljava/util/List;" (.ref sS)) (a1 rk : Addr) (e1 e2 : Value) (he1 : e1.isRef = true) (he2 : e2.isRef = true) (g1 : Z.heap.size ≤ a1) (E1 : Exa Z h0 a1 "com/example/shelfmark/shelfmark/model/QueryRefusedException") (U1 : Unt h0 a1) (B1 : Fld Z h0 a1 "java/lang/Throwable" "backtrace" "Ljava/lang/Object;" .null) :
    Wk.Con l Z (⟨"com/example/shelfmark/shelfmark/model/QueryRefusedException", "<init>", "(Lcom/example/shelfmark/shelfmark/model/QueryRefusedException$Reason;Ljava/lang/String;Ljava/lang/String;)V"⟩ : MethodName) prog_41_method_1_code 4 none ({ frames := 5, cells := 1, slots := 2752, locals := 72 } : Room) #[(.ref a1), (.ref rk), e1, e2] h0 (fun v h' => v = none ∧ Keep h0 h' [a1] ∧ Exa Z h' a1 "com/example/shelfmark/shelfmark/model/QueryRefusedException" ∧ Fld Z h' a1 "com/example/shelfmark/shelfmark/model/QueryRefusedException" "reason" "Lcom/example/shelfmark/shelfmark/model/QueryRefusedException$Reason;" (.ref rk) ∧ Fld Z h' a1 "com/example/shelfmark/shelfmark/model/QueryRefusedException" "details" "Ljava/lang/String;" e1 ∧ Fld Z h' a1 "java/lang/Throwable" "detailMessage" "Ljava/lang/String;" e2) := by
  refine Wk.Con.intro (plainFor_of_name pn3) O0 (fun m => ef3 m a1 rk e1 he1 e2 he2) ?_
  intro W C
  replace C : Wk.Cx Z W "com/example/shelfmark/shelfmark/model/QueryRefusedException" "<init>" prog_41_method_1_code 4 none := C
  refine Wk.aloadN (pc' := 1) C d_prog_41m1_0 rfl rfl rfl ?_
  refine Wk.aloadN (pc' := 2) C d_prog_41m1_1 rfl he2 rfl ?_
  refine Wk.callI (pc' := 5) C d_prog_41m1_2 (a := a1) (Wk.Con.pays C (Wn := 0) (own_eInit l hw O0 hl uS sS SU SS a1 e2 he2 g1 E1 U1 B1) (w54 hw) (w53 hw) (by decide) (by decide)) Wk.cleanC rfl (w50 hw) (w51 hw) (w54 hw) (by decide) (argsL := [e2]) (st := []) rfl rfl (lenOf pd1 rfl) rfl (Nat.le_of_eq rfl) (k' := 1) rfl (n' := 2752) rfl (by decide) (by decide) rfl ?_
  intro r11 h12 Q12 O12
  obtain ⟨rfl, K12, A12, M12⟩ := Q12
  obtain ⟨v13, F14⟩ := Wk.fldOf U1 (show Keep h0 h12 [a1] from ((Keep.refl _ _).trans K12 (allS (Or.inl (List.mem_singleton.mpr rfl)) all0))) A12 (w45 hw) (Or.inr (w101 hw))
  obtain ⟨v15, F16⟩ := Wk.fldOf U1 (show Keep h0 h12 [a1] from ((Keep.refl _ _).trans K12 (allS (Or.inl (List.mem_singleton.mpr rfl)) all0))) A12 (w45 hw) (Or.inr (w103 hw))
  refine Wk.aloadN (pc' := 6) C d_prog_41m1_5 rfl rfl rfl ?_
  refine Wk.aloadN (pc' := 7) C d_prog_41m1_6 rfl rfl rfl ?_
  refine Wk.putF (pc' := 10) C d_prog_41m1_7 (w100 hw) Via.refl F14 A12 (Or.inr ⟨(w101 hw), rfl, rfl⟩) (w45 hw) (ty := (.object "com/example/shelfmark/shelfmark/model/QueryRefusedException$Reason")) (by decide) rfl rfl g1 rfl ?_
  intro h17 W17 O17
  have F18 := F14.same W17
  refine Wk.aloadN (pc' := 11) C d_prog_41m1_10 rfl rfl rfl ?_
  refine Wk.aloadN (pc' := 12) C d_prog_41m1_11 rfl he1 rfl ?_
  refine Wk.putF (pc' := 15) C d_prog_41m1_12 (w102 hw) Via.refl (F16.other W17 (Or.inr (slot_ne (Or.inr (w103 hw)) (Or.inr (w101 hw)) (by decide) (t := (.object "java/lang/String")) (t' := (.object "com/example/shelfmark/shelfmark/model/QueryRefusedException$Reason")) (by decide) (by decide)))) (A12.wr W17) (Or.inr ⟨(w103 hw), rfl, rfl⟩) (w45 hw) (ty := (.object "java/lang/String")) (by decide) (Wk.narR he1 rfl) (Wk.fitR he1 rfl) g1 rfl ?_
  intro h19 W19 O19
  have F20 := (F16.other W17 (Or.inr (slot_ne (Or.inr (w103 hw)) (Or.inr (w101 hw)) (by decide) (t := (.object "java/lang/String")) (t' := (.object "com/example/shelfmark/shelfmark/model/QueryRefusedException$Reason")) (by decide) (by decide)))).same W19
  exact Wk.retV C d_prog_41m1_15 (by decide) (by decide) ⟨rfl, ((((Keep.refl _ _).trans K12 (allS (Or.inl (List.mem_singleton.mpr rfl)) all0)).wr W17 (Or.inl (List.mem_singleton.mpr rfl))).wr W19 (Or.inl (List.mem_singleton.mpr rfl))), ((A12.wr W17).wr W19), (F18.other W19 (Or.inr (slot_ne (Or.inr (w101 hw)) (Or.inr (w103 hw)) (by decide) (t := (.object "com/example/shelfmark/shelfmark/model/QueryRefusedException$Reason")) (t' := (.object "java/lang/String")) (by decide) (by decide)))), F20, ((M12.other W17 (Or.inr (slot_ne (Or.inl (w95 hw)) (Or.inr (w101 hw)) (by decide) (t := (.object "java/lang/String")) (t' := (.object "com/example/shelfmark/shelfmark/model/QueryRefusedException$Reason")) (by decide) (by decide)))).other W19 (Or.inr (slot_ne (Or.inl (w95 hw)) (Or.inr (w103 hw)) (by decide) (t := (.object "java/lang/String")) (t' := (.object "java/lang/String")) (by decide) (by decide))))⟩
set_option maxRecDepth 65536 in
set_option maxHeartbeats 40000000 in
theorem own_reason (l : Launch) {Z : State} {a0 : Array Value} (hw : Ws a0 Z) {h0 : Heap} (O0 : Ext Z.heap h0) (a1 : Addr) (r : Addr) (F : Fld Z h0 a1 "com/example/shelfmark/shelfmark/model/QueryRefusedException" "reason" "Lcom/example/shelfmark/shelfmark/model/QueryRefusedException$Reason;" (.ref r)) :
    Wk.Con l Z (⟨"com/example/shelfmark/shelfmark/model/QueryRefusedException", "reason", "()Lcom/example/shelfmark/shelfmark/model/QueryRefusedException$Reason;"⟩ : MethodName) prog_41_method_2_code 1 (some (.object "com/example/shelfmark/shelfmark/model/QueryRefusedException$Reason")) ({ frames := 0, cells := 0, slots := 0, locals := 0 } : Room) #[(.ref a1)] h0 (fun v h' => v = some (.ref r) ∧ h' = h0) := by
  refine Wk.Con.intro (plainFor_of_name pn3) O0 (fun m => ef4 m a1) ?_
  intro W C
  replace C : Wk.Cx Z W "com/example/shelfmark/shelfmark/model/QueryRefusedException" "reason" prog_41_method_2_code 1 (some (.object "com/example/shelfmark/shelfmark/model/QueryRefusedException$Reason")) := C
  refine Wk.aloadN (pc' := 1) C d_prog_41m2_0 rfl rfl rfl ?_
  refine Wk.getF (pc' := 4) C d_prog_41m2_1 (w100 hw) Via.refl F rfl ?_
  exact Wk.retA C rfl rfl d_prog_41m2_4 (by decide) (by decide) ⟨rfl, rfl⟩
set_option maxRecDepth 65536 in
set_option maxHeartbeats 40000000 in
theorem own_details (l : Launch) {Z : State} {a0 : Array Value} (hw : Ws a0 Z) {h0 : Heap} (O0 : Ext Z.heap h0) (a1 : Addr) (r : Value) (hr : r.isRef = true) (F : Fld Z h0 a1 "com/example/shelfmark/shelfmark/model/QueryRefusedException" "details" "Ljava/lang/String;" r) :
    Wk.Con l Z (⟨"com/example/shelfmark/shelfmark/model/QueryRefusedException", "details", "()Ljava/lang/String;"⟩ : MethodName) prog_41_method_3_code 1 (some (.object "java/lang/String")) ({ frames := 0, cells := 0, slots := 0, locals := 0 } : Room) #[(.ref a1)] h0 (fun v h' => v = some r ∧ h' = h0) := by
  refine Wk.Con.intro (plainFor_of_name pn3) O0 (fun m => ef5 m a1) ?_
  intro W C
  replace C : Wk.Cx Z W "com/example/shelfmark/shelfmark/model/QueryRefusedException" "details" prog_41_method_3_code 1 (some (.object "java/lang/String")) := C
  refine Wk.aloadN (pc' := 1) C d_prog_41m3_0 rfl rfl rfl ?_
  refine Wk.getF (pc' := 4) C d_prog_41m3_1 (w102 hw) Via.refl F rfl ?_
  exact Wk.retA C rfl hr d_prog_41m3_4 (by decide) (by decide) ⟨rfl, rfl⟩
set_option maxRecDepth 65536 in
set_option maxHeartbeats 40000000 in
theorem own_getMsg (l : Launch) {Z : State} {a0 : Array Value} (hw : Ws a0 Z) {h0 : Heap} (O0 : Ext Z.heap h0) (a1 : Addr) (r : Value) (hr : r.isRef = true) (F : Fld Z h0 a1 "java/lang/Throwable" "detailMessage" "Ljava/lang/String;" r) :
    Wk.Con l Z (⟨"java/lang/Throwable", "getMessage", "()Ljava/lang/String;"⟩ : MethodName) jdk_78_method_6_code 1 (some (.object "java/lang/String")) ({ frames := 0, cells := 0, slots := 0, locals := 0 } : Room) #[(.ref a1)] h0 (fun v h' => v = some r ∧ h' = h0) := by
  refine Wk.Con.intro (plainFor_of_name pn0) O0 (fun m => ef6 m a1) ?_
  intro W C
  replace C : Wk.Cx Z W "java/lang/Throwable" "getMessage" jdk_78_method_6_code 1 (some (.object "java/lang/String")) := C
  refine Wk.aloadN (pc' := 1) C d_jdk_78m6_0 rfl rfl rfl ?_
  refine Wk.getF (pc' := 4) C d_jdk_78m6_1 (w99 hw) Via.refl F rfl ?_
  exact Wk.retA C rfl hr d_jdk_78m6_4 (by decide) (by decide) ⟨rfl, rfl⟩
set_option maxRecDepth 65536 in
set_option maxHeartbeats 40000000 in
theorem own_ordinal (l : Launch) {Z : State} {a0 : Array Value} (hw : Ws a0 Z) {h0 : Heap} (O0 : Ext Z.heap h0) (a1 : Addr) (r : Int32) (F : Fld Z h0 a1 "java/lang/Enum" "ordinal" "I" (.int r)) :
    Wk.Con l Z (⟨"java/lang/Enum", "ordinal", "()I"⟩ : MethodName) jdk_37_method_2_code 1 (some .int) ({ frames := 0, cells := 0, slots := 0, locals := 0 } : Room) #[(.ref a1)] h0 (fun v h' => v = some (.int r) ∧ h' = h0) := by
  refine Wk.Con.intro (plainFor_of_name pn4) O0 (fun m => ef7 m a1) ?_
  intro W C
  replace C : Wk.Cx Z W "java/lang/Enum" "ordinal" jdk_37_method_2_code 1 (some .int) := C
  refine Wk.aloadN (pc' := 1) C d_jdk_37m2_0 rfl rfl rfl ?_
  refine Wk.getF (pc' := 4) C d_jdk_37m2_1 (w123 hw) Via.refl F rfl ?_
  exact Wk.retI C d_jdk_37m2_4 (by decide) (by decide) ⟨rfl, rfl⟩
set_option maxRecDepth 65536 in
set_option maxHeartbeats 40000000 in
theorem own_number (l : Launch) {Z : State} {a0 : Array Value} (hw : Ws a0 Z) {h0 : Heap} (O0 : Ext Z.heap h0) (a1 : Addr) (r : Int32) (F : Fld Z h0 a1 "com/example/shelfmark/shelfmark/protocol/Diagnostic" "number" "I" (.int r)) :
    Wk.Con l Z (⟨"com/example/shelfmark/shelfmark/protocol/Diagnostic", "number", "()I"⟩ : MethodName) prog_50_method_8_code 1 (some .int) ({ frames := 0, cells := 0, slots := 0, locals := 0 } : Room) #[(.ref a1)] h0 (fun v h' => v = some (.int r) ∧ h' = h0) := by
  refine Wk.Con.intro (plainFor_of_name pn5) O0 (fun m => ef8 m a1) ?_
  intro W C
  replace C : Wk.Cx Z W "com/example/shelfmark/shelfmark/protocol/Diagnostic" "number" prog_50_method_8_code 1 (some .int) := C
  refine Wk.aloadN (pc' := 1) C d_prog_50m8_0 rfl rfl rfl ?_
  refine Wk.getF (pc' := 4) C d_prog_50m8_1 (w147 hw) Via.refl F rfl ?_
  exact Wk.retI C d_prog_50m8_4 (by decide) (by decide) ⟨rfl, rfl⟩
set_option maxRecDepth 65536 in
set_option maxHeartbeats 40000000 in
theorem own_ddet (l : Launch) {Z : State} {a0 : Array Value} (hw : Ws a0 Z) {h0 : Heap} (O0 : Ext Z.heap h0) (a1 : Addr) (r : Value) (hr : r.isRef = true) (F : Fld Z h0 a1 "com/example/shelfmark/shelfmark/protocol/Diagnostic" "details" "Ljava/lang/String;" r) :
    Wk.Con l Z (⟨"com/example/shelfmark/shelfmark/protocol/Diagnostic", "details", "()Ljava/lang/String;"⟩ : MethodName) prog_50_method_9_code 1 (some (.object "java/lang/String")) ({ frames := 0, cells := 0, slots := 0, locals := 0 } : Room) #[(.ref a1)] h0 (fun v h' => v = some r ∧ h' = h0) := by
  refine Wk.Con.intro (plainFor_of_name pn5) O0 (fun m => ef9 m a1) ?_
  intro W C
  replace C : Wk.Cx Z W "com/example/shelfmark/shelfmark/protocol/Diagnostic" "details" prog_50_method_9_code 1 (some (.object "java/lang/String")) := C
  refine Wk.aloadN (pc' := 1) C d_prog_50m9_0 rfl rfl rfl ?_
  refine Wk.getF (pc' := 4) C d_prog_50m9_1 (w149 hw) Via.refl F rfl ?_
  exact Wk.retA C rfl hr d_prog_50m9_4 (by decide) (by decide) ⟨rfl, rfl⟩
set_option maxRecDepth 65536 in
set_option maxHeartbeats 40000000 in
theorem own_dmsg (l : Launch) {Z : State} {a0 : Array Value} (hw : Ws a0 Z) {h0 : Heap} (O0 : Ext Z.heap h0) (a1 : Addr) (r : Value) (hr : r.isRef = true) (F : Fld Z h0 a1 "com/example/shelfmark/shelfmark/protocol/Diagnostic" "message" "Ljava/lang/String;" r) :
    Wk.Con l Z (⟨"com/example/shelfmark/shelfmark/protocol/Diagnostic", "message", "()Ljava/lang/String;"⟩ : MethodName) prog_50_method_10_code 1 (some (.object "java/lang/String")) ({ frames := 0, cells := 0, slots := 0, locals := 0 } : Room) #[(.ref a1)] h0 (fun v h' => v = some r ∧ h' = h0) := by
  refine Wk.Con.intro (plainFor_of_name pn5) O0 (fun m => ef10 m a1) ?_
  intro W C
  replace C : Wk.Cx Z W "com/example/shelfmark/shelfmark/protocol/Diagnostic" "message" prog_50_method_10_code 1 (some (.object "java/lang/String")) := C
  refine Wk.aloadN (pc' := 1) C d_prog_50m10_0 rfl rfl rfl ?_
  refine Wk.getF (pc' := 4) C d_prog_50m10_1 (w151 hw) Via.refl F rfl ?_
  exact Wk.retA C rfl hr d_prog_50m10_4 (by decide) (by decide) ⟨rfl, rfl⟩
set_option maxRecDepth 65536 in
set_option maxHeartbeats 40000000 in
theorem own_dInit (l : Launch) {Z : State} {a0 : Array Value} (hw : Ws a0 Z) {h0 : Heap} (O0 : Ext Z.heap h0) (a1 : Addr) (c : Int32) (e1 e2 : Value) (he1 : e1.isRef = true) (he2 : e2.isRef = true) (g1 : Z.heap.size ≤ a1) (E1 : Exa Z h0 a1 "com/example/shelfmark/shelfmark/protocol/Diagnostic") (F0 : Fld Z h0 a1 "com/example/shelfmark/shelfmark/protocol/Diagnostic" "number" "I" (.int (0 : Int32))) (F1 : Fld Z h0 a1 "com/example/shelfmark/shelfmark/protocol/Diagnostic" "details" "Ljava/lang/String;" .null) (F2 : Fld Z h0 a1 "com/example/shelfmark/shelfmark/protocol/Diagnostic" "message" "Ljava/lang/String;" .null) :
    Wk.Con l Z (⟨"com/example/shelfmark/shelfmark/protocol/Diagnostic", "<init>", "(ILjava/lang/String;Ljava/lang/String;)V"⟩ : MethodName) prog_50_method_1_code 4 none ({ frames := 2, cells := 0, slots := 0, locals := 24 } : Room) #[(.ref a1), (.int c), e1, e2] h0 (fun v h' => v = none ∧ Keep h0 h' [a1] ∧ Exa Z h' a1 "com/example/shelfmark/shelfmark/protocol/Diagnostic" ∧ Fld Z h' a1 "com/example/shelfmark/shelfmark/protocol/Diagnostic" "number" "I" (.int c) ∧ Fld Z h' a1 "com/example/shelfmark/shelfmark/protocol/Diagnostic" "details" "Ljava/lang/String;" e1 ∧ Fld Z h' a1 "com/example/shelfmark/shelfmark/protocol/Diagnostic" "message" "Ljava/lang/String;" e2) := by
  refine Wk.Con.intro (plainFor_of_name pn5) O0 (fun m => ef11 m a1 c e1 he1 e2 he2) ?_
  intro W C
  replace C : Wk.Cx Z W "com/example/shelfmark/shelfmark/protocol/Diagnostic" "<init>" prog_50_method_1_code 4 none := C
  refine Wk.aloadN (pc' := 1) C d_prog_50m1_0 rfl rfl rfl ?_
  refine Wk.callI (pc' := 4) C d_prog_50m1_1 (a := a1) (Wk.Con.pays C (Wn := 0) (own_record l hw O0 a1) (w145 hw) (w144 hw) (by decide) (by decide)) Wk.cleanC rfl (w141 hw) (w142 hw) (w145 hw) (by decide) (argsL := []) (st := []) rfl rfl (lenOf pd2 rfl) rfl (Nat.le_of_eq rfl) (k' := 0) rfl (n' := 0) rfl (by decide) (by decide) rfl ?_
  intro r11 h12 Q12 O12
  obtain ⟨rfl, e13⟩ := Q12
  obtain rfl := e13.symm
  refine Wk.aloadN (pc' := 5) C d_prog_50m1_4 rfl rfl rfl ?_
  refine Wk.iloadN (pc' := 6) C d_prog_50m1_5 rfl rfl ?_
  refine Wk.putF (pc' := 9) C d_prog_50m1_6 (w147 hw) Via.refl F0 E1 (Or.inr ⟨(w148 hw), rfl, rfl⟩) (w126 hw) (ty := .int) (by decide) rfl rfl g1 rfl ?_
  intro h14 W14 O14
  have F15 := F0.same W14
  refine Wk.aloadN (pc' := 10) C d_prog_50m1_9 rfl rfl rfl ?_
  refine Wk.aloadN (pc' := 11) C d_prog_50m1_10 rfl he1 rfl ?_
  refine Wk.putF (pc' := 14) C d_prog_50m1_11 (w149 hw) Via.refl (F1.other W14 (Or.inr (slot_ne (Or.inr (w150 hw)) (Or.inr (w148 hw)) (by decide) (t := (.object "java/lang/String")) (t' := .int) (by decide) (by decide)))) (E1.wr W14) (Or.inr ⟨(w150 hw), rfl, rfl⟩) (w126 hw) (ty := (.object "java/lang/String")) (by decide) (Wk.narR he1 rfl) (Wk.fitR he1 rfl) g1 rfl ?_
  intro h16 W16 O16
  have F17 := (F1.other W14 (Or.inr (slot_ne (Or.inr (w150 hw)) (Or.inr (w148 hw)) (by decide) (t := (.object "java/lang/String")) (t' := .int) (by decide) (by decide)))).same W16
  refine Wk.aloadN (pc' := 15) C d_prog_50m1_14 rfl rfl rfl ?_
  refine Wk.aloadN (pc' := 16) C d_prog_50m1_15 rfl he2 rfl ?_
  refine Wk.putF (pc' := 19) C d_prog_50m1_16 (w151 hw) Via.refl ((F2.other W14 (Or.inr (slot_ne (Or.inr (w152 hw)) (Or.inr (w148 hw)) (by decide) (t := (.object "java/lang/String")) (t' := .int) (by decide) (by decide)))).other W16 (Or.inr (slot_ne (Or.inr (w152 hw)) (Or.inr (w150 hw)) (by decide) (t := (.object "java/lang/String")) (t' := (.object "java/lang/String")) (by decide) (by decide)))) ((E1.wr W14).wr W16) (Or.inr ⟨(w152 hw), rfl, rfl⟩) (w126 hw) (ty := (.object "java/lang/String")) (by decide) (Wk.narR he2 rfl) (Wk.fitR he2 rfl) g1 rfl ?_
  intro h18 W18 O18
  have F19 := ((F2.other W14 (Or.inr (slot_ne (Or.inr (w152 hw)) (Or.inr (w148 hw)) (by decide) (t := (.object "java/lang/String")) (t' := .int) (by decide) (by decide)))).other W16 (Or.inr (slot_ne (Or.inr (w152 hw)) (Or.inr (w150 hw)) (by decide) (t := (.object "java/lang/String")) (t' := (.object "java/lang/String")) (by decide) (by decide)))).same W18
  exact Wk.retV C d_prog_50m1_19 (by decide) (by decide) ⟨rfl, ((((Keep.refl _ _).wr W14 (Or.inl (List.mem_singleton.mpr rfl))).wr W16 (Or.inl (List.mem_singleton.mpr rfl))).wr W18 (Or.inl (List.mem_singleton.mpr rfl))), (((E1.wr W14).wr W16).wr W18), ((F15.other W16 (Or.inr (slot_ne (Or.inr (w148 hw)) (Or.inr (w150 hw)) (by decide) (t := .int) (t' := (.object "java/lang/String")) (by decide) (by decide)))).other W18 (Or.inr (slot_ne (Or.inr (w148 hw)) (Or.inr (w152 hw)) (by decide) (t := .int) (t' := (.object "java/lang/String")) (by decide) (by decide)))), (F17.other W18 (Or.inr (slot_ne (Or.inr (w150 hw)) (Or.inr (w152 hw)) (by decide) (t := (.object "java/lang/String")) (t' := (.object "java/lang/String")) (by decide) (by decide)))), F19⟩
set_option maxRecDepth 65536 in
set_option maxHeartbeats 40000000 in
theorem own_of (l : Launch) {Z : State} {a0 : Array Value} (hw : Ws a0 Z) {h0 : Heap} (O0 : Ext Z.heap h0) (aM x rk : Addr) (kN : Nat) (e1 e2 : Value) (he1 : e1.isRef = true) (he2 : e2.isRef = true) (SM : Sta Z Z.heap "com/example/shelfmark/shelfmark/protocol/Diagnostic$1" "$SwitchMap$com$example$shelfmark$shelfmark$model$QueryRefusedException$Reason" "[I" (.ref aM)) (VM : Wk.Ary Z Z.heap aM .int (smL.map Value.int)) (hk : kN < 19) (EX : Exa Z h0 x "com/example/shelfmark/shelfmark/model/QueryRefusedException") (ER : Exa Z h0 rk "com/example/shelfmark/shelfmark/model/QueryRefusedException$Reason") (FR : Fld Z h0 rk "java/lang/Enum" "ordinal" "I" (.int (Int32.ofNat kN))) (F0 : Fld Z h0 x "com/example/shelfmark/shelfmark/model/QueryRefusedException" "reason" "Lcom/example/shelfmark/shelfmark/model/QueryRefusedException$Reason;" (.ref rk)) (F1 : Fld Z h0 x "com/example/shelfmark/shelfmark/model/QueryRefusedException" "details" "Ljava/lang/String;" e1) (F2 : Fld Z h0 x "java/lang/Throwable" "detailMessage" "Ljava/lang/String;" e2) :
    Wk.Con l Z (⟨"com/example/shelfmark/shelfmark/protocol/Diagnostic", "of", "(Lcom/example/shelfmark/shelfmark/model/QueryRefusedException;)Lcom/example/shelfmark/shelfmark/protocol/Diagnostic;"⟩ : MethodName) prog_50_method_2_code 2 (some (.object "com/example/shelfmark/shelfmark/protocol/Diagnostic")) ({ frames := 3, cells := 1, slots := 3, locals := 40 } : Room) #[(.ref x)] h0 (fun v h' => ∃ b : Addr, v = some (.ref b) ∧ b = h0.size ∧ Ext h0 h' ∧ Exa Z h' b "com/example/shelfmark/shelfmark/protocol/Diagnostic" ∧ Fld Z h' b "com/example/shelfmark/shelfmark/protocol/Diagnostic" "number" "I" (.int (numL.getD kN 0)) ∧ Fld Z h' b "com/example/shelfmark/shelfmark/protocol/Diagnostic" "details" "Ljava/lang/String;" e1 ∧ Fld Z h' b "com/example/shelfmark/shelfmark/protocol/Diagnostic" "message" "Ljava/lang/String;" e2) := by
  refine Wk.Con.intro (plainFor_of_name pn5) O0 (fun m => ef12 m x) ?_
  intro W C
  replace C : Wk.Cx Z W "com/example/shelfmark/shelfmark/protocol/Diagnostic" "of" prog_50_method_2_code 2 (some (.object "com/example/shelfmark/shelfmark/protocol/Diagnostic")) := C
  refine Wk.getS (pc' := 3) C d_prog_50m2_0 (w108 hw) Via.refl (SM.ext O0) rfl ?_
  refine Wk.aloadN (pc' := 4) C d_prog_50m2_3 rfl rfl rfl ?_
  refine Wk.callV (pc' := 7) C d_prog_50m2_4 (a := x) (Wk.Con.pays C (Wn := 1) (own_reason l hw O0 x rk F0) (w115 hw) (w46 hw) (by decide) (by decide)) Wk.cleanC EX (w111 hw) (w112 hw) (notFace_of_selects (args := #[]) (mvT C.hZ (w114 hw))) (w114 hw) (w113 hw) (by decide) (argsL := []) (st := [(.ref aM)]) rfl rfl (lenOf pd3 rfl) rfl (Nat.le_of_eq rfl) (k' := 0) rfl (n' := 0) rfl (by decide) (by decide) rfl ?_
  intro r11 h12 Q12 O12
  obtain ⟨rfl, e13⟩ := Q12
  obtain rfl := e13.symm
  refine Wk.callVU (pc' := 10) C d_prog_50m2_7 (a := rk) (Wk.Con.pays C (Wn := 1) (own_ordinal l hw O0 rk (Int32.ofNat kN) FR) (w122 hw) (w121 hw) (by decide) (by decide)) Wk.cleanC ER (w116 hw) (w117 hw) (w118 hw) (w120 hw) (w119 hw) (by decide) (argsL := []) (st := [(.ref aM)]) rfl rfl (lenOf pd4 rfl) rfl (Nat.le_of_eq rfl) (k' := 0) rfl (n' := 0) rfl (by decide) (by decide) rfl ?_
  intro r14 h15 Q15 O15
  obtain ⟨rfl, e16⟩ := Q15
  obtain rfl := e16.symm
  obtain ⟨zz, hzz⟩ : ∃ z, smL.getD kN 0 = z := ⟨_, rfl⟩
  refine Wk.iaload (pc' := 11) C d_prog_50m2_10 (VM.ext O0) (Wk.nn (by rw [(Wk.nat32 (n := kN) (by omega)).1]; omega)) (v := (.int zz)) (by rw [(Wk.nat32 (n := kN) (by omega)).2, ← hzz]; exact Wk.getd (by rw [own_smLen]; exact hk)) rfl ?_
  have J197 : ∀ c : Int32, numL.getD kN 0 = c → Wk.Run l ({ frames := 3, cells := 1, slots := 3, locals := 40 } : Room) Z W (fun v h' => ∃ b : Addr, v = some (.ref b) ∧ b = h0.size ∧ Ext h0 h' ∧ Exa Z h' b "com/example/shelfmark/shelfmark/protocol/Diagnostic" ∧ Fld Z h' b "com/example/shelfmark/shelfmark/protocol/Diagnostic" "number" "I" (.int (numL.getD kN 0)) ∧ Fld Z h' b "com/example/shelfmark/shelfmark/protocol/Diagnostic" "details" "Ljava/lang/String;" e1 ∧ Fld Z h' b "com/example/shelfmark/shelfmark/protocol/Diagnostic" "message" "Ljava/lang/String;" e2) h0 0 0 (mkF W.m 197 #[.val (.ref x), .unset] [(.int c)]) := by
    intro c hc
    refine Wk.istoreN (pc' := 198) C d_prog_50m2_197 (Ls' := #[.val (.ref x), .val (.int c)]) rfl rfl ?_
    refine Wk.newO (pc' := 201) C d_prog_50m2_198 (w125 hw) (w126 hw) (w106 hw) (k' := 1) rfl (n' := 3) rfl (by decide) (by decide) rfl ?_
    intro a17 h18 ga17 za17 E18 Aa17 Da17 Ua17 O18
    have F19 : Fld Z h18 a17 "com/example/shelfmark/shelfmark/protocol/Diagnostic" "number" "I" (.int (0 : Int32)) := Da17 (Or.inr (w148 hw)) (ty := .int) (by decide)
    have F20 : Fld Z h18 a17 "com/example/shelfmark/shelfmark/protocol/Diagnostic" "details" "Ljava/lang/String;" .null := Da17 (Or.inr (w150 hw)) (ty := (.object "java/lang/String")) (by decide)
    have F21 : Fld Z h18 a17 "com/example/shelfmark/shelfmark/protocol/Diagnostic" "message" "Ljava/lang/String;" .null := Da17 (Or.inr (w152 hw)) (ty := (.object "java/lang/String")) (by decide)
    refine Wk.dup (pc' := 202) C d_prog_50m2_201 rfl rfl ?_
    refine Wk.iloadN (pc' := 203) C d_prog_50m2_202 rfl rfl ?_
    refine Wk.aloadN (pc' := 204) C d_prog_50m2_203 rfl rfl rfl ?_
    refine Wk.callV (pc' := 207) C d_prog_50m2_204 (a := x) (Wk.Con.pays C (Wn := 3) (own_details l hw O18 x e1 he1 (F1.ext E18)) (w131 hw) (w46 hw) (by decide) (by decide)) Wk.cleanC (EX.ext E18) (w127 hw) (w128 hw) (notFace_of_selects (args := #[]) (mvT C.hZ (w130 hw))) (w130 hw) (w129 hw) (by decide) (argsL := []) (st := [(.int c), (.ref a17), (.ref a17)]) rfl rfl (lenOf pd5 rfl) rfl (Nat.le_of_eq rfl) (k' := 1) rfl (n' := 3) rfl (by decide) (by decide) rfl ?_
    intro r22 h23 Q23 O23
    obtain ⟨rfl, e24⟩ := Q23
    obtain rfl := e24.symm
    refine Wk.aloadN (pc' := 208) C d_prog_50m2_207 rfl rfl rfl ?_
    refine Wk.callVU (pc' := 211) C d_prog_50m2_208 (a := x) (Wk.Con.pays C (Wn := 4) (own_getMsg l hw O18 x e2 he2 (F2.ext E18)) (w137 hw) (w59 hw) (by decide) (by decide)) Wk.cleanC (EX.ext E18) (w132 hw) (w133 hw) (w134 hw) (w136 hw) (w135 hw) (by decide) (argsL := []) (st := [e1, (.int c), (.ref a17), (.ref a17)]) rfl rfl (lenOf pd5 rfl) rfl (Nat.le_of_eq (Wk.catS (Wk.catR he1) (Wk.catS rfl (Wk.catS rfl (Wk.catS rfl rfl))))) (k' := 1) rfl (n' := 3) rfl (by decide) (by decide) rfl ?_
    intro r25 h26 Q26 O26
    obtain ⟨rfl, e27⟩ := Q26
    obtain rfl := e27.symm
    refine Wk.callI (pc' := 214) C d_prog_50m2_211 (a := a17) (Wk.Con.pays C (Wn := 1) (own_dInit l hw O18 a17 c e1 e2 he1 he2 za17 Aa17 F19 F20 F21) (w140 hw) (w106 hw) (by decide) (by decide)) Wk.cleanC rfl (w138 hw) (w139 hw) (w140 hw) (by decide) (argsL := [(.int c), e1, e2]) (st := [(.ref a17)]) rfl rfl (lenOf pd6 rfl) rfl (Nat.le_of_eq rfl) (k' := 1) rfl (n' := 3) rfl (by decide) (by decide) rfl ?_
    intro r28 h29 Q29 O29
    obtain ⟨rfl, K29, A29, P29, D29, M29⟩ := Q29
    have X30 : Ext h0 h29 := Wk.Ext.keep1 (Z := Z) E18 K29 (Nat.le_of_eq ga17.symm)
    exact Wk.retA C rfl rfl d_prog_50m2_214 (by decide) (by decide) ⟨_, rfl, ga17, X30, A29, by rw [hc]; exact P29, D29, M29⟩
  rcases own_sw hk hzz with ⟨rfl, hn⟩ | ⟨rfl, hn⟩ | ⟨rfl, hn⟩ | ⟨rfl, hn⟩ | ⟨rfl, hn⟩ | ⟨rfl, hn⟩ | ⟨rfl, hn⟩ | ⟨rfl, hn⟩ | ⟨rfl, hn⟩ | ⟨rfl, hn⟩ | ⟨rfl, hn⟩ | ⟨rfl, hn⟩ | ⟨rfl, hn⟩ | ⟨rfl, hn⟩ | ⟨rfl, hn⟩ | ⟨rfl, hn⟩ | ⟨rfl, hn⟩ | ⟨rfl, hn⟩ | ⟨rfl, hn⟩
  · -- zz = 1
    refine Wk.tswIn C d_prog_50m2_11 (by decide) (o := 99) (by decide) (by decide) (pc' := 110) (by decide) ?_
    refine Wk.bipush (pc' := 112) C d_prog_50m2_110 (v := (10 : Int32)) rfl rfl ?_
    refine Wk.goto C d_prog_50m2_112 (by decide) (pc' := 197) (by decide) ?_
    exact J197 (10 : Int32) hn
  · -- zz = 2
    refine Wk.tswIn C d_prog_50m2_11 (by decide) (o := 104) (by decide) (by decide) (pc' := 115) (by decide) ?_
    refine Wk.bipush (pc' := 117) C d_prog_50m2_115 (v := (15 : Int32)) rfl rfl ?_
    refine Wk.goto C d_prog_50m2_117 (by decide) (pc' := 197) (by decide) ?_
    exact J197 (15 : Int32) hn
  · -- zz = 3
    refine Wk.tswIn C d_prog_50m2_11 (by decide) (o := 109) (by decide) (by decide) (pc' := 120) (by decide) ?_
    refine Wk.bipush (pc' := 122) C d_prog_50m2_120 (v := (16 : Int32)) rfl rfl ?_
    refine Wk.goto C d_prog_50m2_122 (by decide) (pc' := 197) (by decide) ?_
    exact J197 (16 : Int32) hn
  · -- zz = 4
    refine Wk.tswIn C d_prog_50m2_11 (by decide) (o := 114) (by decide) (by decide) (pc' := 125) (by decide) ?_
    refine Wk.bipush (pc' := 127) C d_prog_50m2_125 (v := (19 : Int32)) rfl rfl ?_
    refine Wk.goto C d_prog_50m2_127 (by decide) (pc' := 197) (by decide) ?_
    exact J197 (19 : Int32) hn
  · -- zz = 7
    refine Wk.tswIn C d_prog_50m2_11 (by decide) (o := 124) (by decide) (by decide) (pc' := 135) (by decide) ?_
    refine Wk.bipush (pc' := 137) C d_prog_50m2_135 (v := (22 : Int32)) rfl rfl ?_
    refine Wk.goto C d_prog_50m2_137 (by decide) (pc' := 197) (by decide) ?_
    exact J197 (22 : Int32) hn
  · -- zz = 5
    refine Wk.tswIn C d_prog_50m2_11 (by decide) (o := 119) (by decide) (by decide) (pc' := 130) (by decide) ?_
    refine Wk.bipush (pc' := 132) C d_prog_50m2_130 (v := (20 : Int32)) rfl rfl ?_
    refine Wk.goto C d_prog_50m2_132 (by decide) (pc' := 197) (by decide) ?_
    exact J197 (20 : Int32) hn
  · -- zz = 6
    refine Wk.tswIn C d_prog_50m2_11 (by decide) (o := 119) (by decide) (by decide) (pc' := 130) (by decide) ?_
    refine Wk.bipush (pc' := 132) C d_prog_50m2_130 (v := (20 : Int32)) rfl rfl ?_
    refine Wk.goto C d_prog_50m2_132 (by decide) (pc' := 197) (by decide) ?_
    exact J197 (20 : Int32) hn
  · -- zz = 19
    refine Wk.tswIn C d_prog_50m2_11 (by decide) (o := 184) (by decide) (by decide) (pc' := 195) (by decide) ?_
    refine Wk.bipush (pc' := 197) C d_prog_50m2_195 (v := (88 : Int32)) rfl rfl ?_
    exact J197 (88 : Int32) hn
  · -- zz = 11
    refine Wk.tswIn C d_prog_50m2_11 (by decide) (o := 144) (by decide) (by decide) (pc' := 155) (by decide) ?_
    refine Wk.bipush (pc' := 157) C d_prog_50m2_155 (v := (28 : Int32)) rfl rfl ?_
    refine Wk.goto C d_prog_50m2_157 (by decide) (pc' := 197) (by decide) ?_
    exact J197 (28 : Int32) hn
  · -- zz = 14
    refine Wk.tswIn C d_prog_50m2_11 (by decide) (o := 159) (by decide) (by decide) (pc' := 170) (by decide) ?_
    refine Wk.bipush (pc' := 172) C d_prog_50m2_170 (v := (31 : Int32)) rfl rfl ?_
    refine Wk.goto C d_prog_50m2_172 (by decide) (pc' := 197) (by decide) ?_
    exact J197 (31 : Int32) hn
  · -- zz = 10
    refine Wk.tswIn C d_prog_50m2_11 (by decide) (o := 139) (by decide) (by decide) (pc' := 150) (by decide) ?_
    refine Wk.bipush (pc' := 152) C d_prog_50m2_150 (v := (27 : Int32)) rfl rfl ?_
    refine Wk.goto C d_prog_50m2_152 (by decide) (pc' := 197) (by decide) ?_
    exact J197 (27 : Int32) hn
  · -- zz = 9
    refine Wk.tswIn C d_prog_50m2_11 (by decide) (o := 134) (by decide) (by decide) (pc' := 145) (by decide) ?_
    refine Wk.bipush (pc' := 147) C d_prog_50m2_145 (v := (24 : Int32)) rfl rfl ?_
    refine Wk.goto C d_prog_50m2_147 (by decide) (pc' := 197) (by decide) ?_
    exact J197 (24 : Int32) hn
  · -- zz = 15
    refine Wk.tswIn C d_prog_50m2_11 (by decide) (o := 164) (by decide) (by decide) (pc' := 175) (by decide) ?_
    refine Wk.bipush (pc' := 177) C d_prog_50m2_175 (v := (36 : Int32)) rfl rfl ?_
    refine Wk.goto C d_prog_50m2_177 (by decide) (pc' := 197) (by decide) ?_
    exact J197 (36 : Int32) hn
  · -- zz = 12
    refine Wk.tswIn C d_prog_50m2_11 (by decide) (o := 149) (by decide) (by decide) (pc' := 160) (by decide) ?_
    refine Wk.bipush (pc' := 162) C d_prog_50m2_160 (v := (29 : Int32)) rfl rfl ?_
    refine Wk.goto C d_prog_50m2_162 (by decide) (pc' := 197) (by decide) ?_
    exact J197 (29 : Int32) hn
  · -- zz = 8
    refine Wk.tswIn C d_prog_50m2_11 (by decide) (o := 129) (by decide) (by decide) (pc' := 140) (by decide) ?_
    refine Wk.bipush (pc' := 142) C d_prog_50m2_140 (v := (23 : Int32)) rfl rfl ?_
    refine Wk.goto C d_prog_50m2_142 (by decide) (pc' := 197) (by decide) ?_
    exact J197 (23 : Int32) hn
  · -- zz = 13
    refine Wk.tswIn C d_prog_50m2_11 (by decide) (o := 154) (by decide) (by decide) (pc' := 165) (by decide) ?_
    refine Wk.bipush (pc' := 167) C d_prog_50m2_165 (v := (30 : Int32)) rfl rfl ?_
    refine Wk.goto C d_prog_50m2_167 (by decide) (pc' := 197) (by decide) ?_
    exact J197 (30 : Int32) hn
  · -- zz = 16
    refine Wk.tswIn C d_prog_50m2_11 (by decide) (o := 169) (by decide) (by decide) (pc' := 180) (by decide) ?_
    refine Wk.bipush (pc' := 182) C d_prog_50m2_180 (v := (38 : Int32)) rfl rfl ?_
    refine Wk.goto C d_prog_50m2_182 (by decide) (pc' := 197) (by decide) ?_
    exact J197 (38 : Int32) hn
  · -- zz = 17
    refine Wk.tswIn C d_prog_50m2_11 (by decide) (o := 174) (by decide) (by decide) (pc' := 185) (by decide) ?_
    refine Wk.bipush (pc' := 187) C d_prog_50m2_185 (v := (39 : Int32)) rfl rfl ?_
    refine Wk.goto C d_prog_50m2_187 (by decide) (pc' := 197) (by decide) ?_
    exact J197 (39 : Int32) hn
  · -- zz = 18
    refine Wk.tswIn C d_prog_50m2_11 (by decide) (o := 179) (by decide) (by decide) (pc' := 190) (by decide) ?_
    refine Wk.bipush (pc' := 192) C d_prog_50m2_190 (v := (46 : Int32)) rfl rfl ?_
    refine Wk.goto C d_prog_50m2_192 (by decide) (pc' := 197) (by decide) ?_
    exact J197 (46 : Int32) hn
set_option maxRecDepth 65536 in
set_option maxHeartbeats 40000000 in
theorem own_eqSelf (l : Launch) {Z : State} {a0 : Array Value} (hw : Ws a0 Z) {h0 : Heap} (O0 : Ext Z.heap h0) (x : Addr)  :
    Wk.Con l Z (⟨"java/lang/String", "equals", "(Ljava/lang/Object;)Z"⟩ : MethodName) jdk_42_method_66_code 3 (some .boolean) ({ frames := 0, cells := 0, slots := 0, locals := 0 } : Room) #[(.ref x), (.ref x)] h0 (fun v h' => v = some (.int 1) ∧ h' = h0) := by
  refine Wk.Con.intro (plainFor_of_name pn6) O0 (fun m => ef13 m x x) ?_
  intro W C
  replace C : Wk.Cx Z W "java/lang/String" "equals" jdk_42_method_66_code 3 (some .boolean) := C
  refine Wk.aloadN (pc' := 1) C d_jdk_42m66_0 rfl rfl rfl ?_
  refine Wk.aloadN (pc' := 2) C d_jdk_42m66_1 rfl rfl rfl ?_
  refine Wk.acmp_ne C d_jdk_42m66_2 rfl rfl (by decide) (pcT := 7) (by decide) (pc' := 5) rfl (fun q => absurd rfl q) (fun q11 => ?_)
  refine Wk.iconst (pc' := 6) C d_jdk_42m66_5 (v := (1 : Int32)) rfl rfl ?_
  exact Wk.retNar (ty := .boolean) C (by simp) d_jdk_42m66_6 rfl (by decide) (by decide) ⟨rfl, rfl⟩
set_option maxRecDepth 65536 in
set_option maxHeartbeats 40000000 in
theorem own_sameN (l : Launch) {Z : State} {a0 : Array Value} (hw : Ws a0 Z) {h0 : Heap} (O0 : Ext Z.heap h0)   :
    Wk.Con l Z (⟨"com/example/shelfmark/shelfmark/protocol/DiagnosticOfPinLaw", "same", "(Ljava/lang/String;Ljava/lang/String;)Z"⟩ : MethodName) method_3_code 2 (some .boolean) ({ frames := 1, cells := 0, slots := 0, locals := 15 } : Room) #[.null, .null] h0 (fun v h' => v = some (.int 1) ∧ h' = h0) := by
  refine Wk.Con.intro (plainFor_of_name pn7) O0 (fun m => ef14 m) ?_
  intro W C
  replace C : Wk.Cx Z W "com/example/shelfmark/shelfmark/protocol/DiagnosticOfPinLaw" "same" method_3_code 2 (some .boolean) := C
  refine Wk.aloadN (pc' := 1) C d_method_3_0 rfl rfl rfl ?_
  refine Wk.ifnonnullN (pc' := 4) C d_method_3_1 rfl ?_
  refine Wk.aloadN (pc' := 5) C d_method_3_4 rfl rfl rfl ?_
  refine Wk.ifnonnullN (pc' := 8) C d_method_3_5 rfl ?_
  refine Wk.iconst (pc' := 9) C d_method_3_8 (v := (1 : Int32)) rfl rfl ?_
  refine Wk.goto C d_method_3_9 (by decide) (pc' := 13) (by decide) ?_
  exact Wk.retNar (ty := .boolean) C (by simp) d_method_3_13 rfl (by decide) (by decide) ⟨rfl, rfl⟩
set_option maxRecDepth 65536 in
set_option maxHeartbeats 40000000 in
theorem own_sameR (l : Launch) {Z : State} {a0 : Array Value} (hw : Ws a0 Z) {h0 : Heap} (O0 : Ext Z.heap h0) (x : Addr) (E : Exa Z h0 x "java/lang/String") :
    Wk.Con l Z (⟨"com/example/shelfmark/shelfmark/protocol/DiagnosticOfPinLaw", "same", "(Ljava/lang/String;Ljava/lang/String;)Z"⟩ : MethodName) method_3_code 2 (some .boolean) ({ frames := 1, cells := 0, slots := 0, locals := 15 } : Room) #[(.ref x), (.ref x)] h0 (fun v h' => v = some (.int 1) ∧ h' = h0) := by
  refine Wk.Con.intro (plainFor_of_name pn7) O0 (fun m => ef15 m x x) ?_
  intro W C
  replace C : Wk.Cx Z W "com/example/shelfmark/shelfmark/protocol/DiagnosticOfPinLaw" "same" method_3_code 2 (some .boolean) := C
  refine Wk.aloadN (pc' := 1) C d_method_3_0 rfl rfl rfl ?_
  refine Wk.ifnonnullY C d_method_3_1 (by decide) (pc' := 14) (by decide) ?_
  refine Wk.aloadN (pc' := 15) C d_method_3_14 rfl rfl rfl ?_
  refine Wk.aloadN (pc' := 16) C d_method_3_15 rfl rfl rfl ?_
  refine Wk.callV (pc' := 19) C d_method_3_16 (a := x) (Wk.Con.pays C (Wn := 0) (own_eqSelf l hw O0 x) (w204 hw) (w174 hw) (by decide) (by decide)) Wk.cleanC E (w200 hw) (w201 hw) (notFace_of_selects (args := #[]) (mvT C.hZ (w203 hw))) (w203 hw) (w202 hw) (by decide) (argsL := [(.ref x)]) (st := []) rfl rfl (lenOf pd7 rfl) rfl (Nat.le_of_eq rfl) (k' := 0) rfl (n' := 0) rfl (by decide) (by decide) rfl ?_
  intro r11 h12 Q12 O12
  obtain ⟨rfl, e13⟩ := Q12
  obtain rfl := e13.symm
  exact Wk.retNar (ty := .boolean) C (by simp) d_method_3_19 rfl (by decide) (by decide) ⟨rfl, rfl⟩
theorem own_same (l : Launch) {Z : State} {a0 : Array Value} (hw : Ws a0 Z) {h0 : Heap} (O0 : Ext Z.heap h0) {e : Value} (F : SN Z h0 e) : Wk.Con l Z (⟨"com/example/shelfmark/shelfmark/protocol/DiagnosticOfPinLaw", "same", "(Ljava/lang/String;Ljava/lang/String;)Z"⟩ : MethodName) method_3_code 2 (some .boolean) ({ frames := 1, cells := 0, slots := 0, locals := 15 } : Room) #[e, e] h0 (fun v h' => v = some (.int 1) ∧ h' = h0) := by
  rcases F with rfl | ⟨x, rfl, E⟩
  · exact own_sameN l hw O0
  · exact own_sameR l hw O0 x E
set_option maxRecDepth 65536 in
set_option maxHeartbeats 80000000 in
theorem own_law (l : Launch) {Z : State} {a0 : Array Value} (hw : Ws a0 Z) (hl : l.stackTraces = true) (uS sS : Addr) (SU : Sta Z Z.heap "java/lang/Throwable" "UNASSIGNED_STACK" "[Ljava/lang/StackTraceElement;" (.ref uS)) (SS : Sta Z Z.heap "java/lang/Throwable" "SUPPRESSED_SENTINEL" "Ljava/util/List;" (.ref sS)) (p0 p1 p2 : Int32) (rz0 rz1 rz2 rz3 rz4 rz5 rz6 rz7 rz8 rz9 rz10 rz11 rz12 rz13 rz14 rz15 rz16 rz17 rz18 aM : Addr) (hs : Sets Z) (S0 : Sta Z Z.heap "com/example/shelfmark/shelfmark/model/QueryRefusedException$Reason" "SYNTAX_ERROR" "Lcom/example/shelfmark/shelfmark/model/QueryRefusedException$Reason;" (.ref rz0)) (S1 : Sta Z Z.heap "com/example/shelfmark/shelfmark/model/QueryRefusedException$Reason" "UNKNOWN_CONTEXT_SET" "Lcom/example/shelfmark/shelfmark/model/QueryRefusedException$Reason;" (.ref rz1)) (S2 : Sta Z Z.heap "com/example/shelfmark/shelfmark/model/QueryRefusedException$Reason" "UNKNOWN_INDEX" "Lcom/example/shelfmark/shelfmark/model/QueryRefusedException$Reason;" (.ref rz2)) (S3 : Sta Z Z.heap "com/example/shelfmark/shelfmark/model/QueryRefusedException$Reason" "UNSUPPORTED_RELATION" "Lcom/example/shelfmark/shelfmark/model/QueryRefusedException$Reason;" (.ref rz3)) (S4 : Sta Z Z.heap "com/example/shelfmark/shelfmark/model/QueryRefusedException$Reason" "UNSUPPORTED_RELATION_FOR_INDEX" "Lcom/example/shelfmark/shelfmark/model/QueryRefusedException$Reason;" (.ref rz4)) (S5 : Sta Z Z.heap "com/example/shelfmark/shelfmark/model/QueryRefusedException$Reason" "UNSUPPORTED_RELATION_MODIFIER" "Lcom/example/shelfmark/shelfmark/model/QueryRefusedException$Reason;" (.ref rz5)) (S6 : Sta Z Z.heap "com/example/shelfmark/shelfmark/model/QueryRefusedException$Reason" "UNSUPPORTED_SORT_MODIFIER" "Lcom/example/shelfmark/shelfmark/model/QueryRefusedException$Reason;" (.ref rz6)) (S7 : Sta Z Z.heap "com/example/shelfmark/shelfmark/model/QueryRefusedException$Reason" "UNSORTABLE_INDEX" "Lcom/example/shelfmark/shelfmark/model/QueryRefusedException$Reason;" (.ref rz7)) (S8 : Sta Z Z.heap "com/example/shelfmark/shelfmark/model/QueryRefusedException$Reason" "MASKING_UNSUPPORTED" "Lcom/example/shelfmark/shelfmark/model/QueryRefusedException$Reason;" (.ref rz8)) (S9 : Sta Z Z.heap "com/example/shelfmark/shelfmark/model/QueryRefusedException$Reason" "ANCHORING_UNSUPPORTED" "Lcom/example/shelfmark/shelfmark/model/QueryRefusedException$Reason;" (.ref rz9)) (S10 : Sta Z Z.heap "com/example/shelfmark/shelfmark/model/QueryRefusedException$Reason" "EMPTY_TERM" "Lcom/example/shelfmark/shelfmark/model/QueryRefusedException$Reason;" (.ref rz10)) (S11 : Sta Z Z.heap "com/example/shelfmark/shelfmark/model/QueryRefusedException$Reason" "UNSUPPORTED_TERM_FOR_RELATION" "Lcom/example/shelfmark/shelfmark/model/QueryRefusedException$Reason;" (.ref rz11)) (S12 : Sta Z Z.heap "com/example/shelfmark/shelfmark/model/QueryRefusedException$Reason" "INVALID_TERM" "Lcom/example/shelfmark/shelfmark/model/QueryRefusedException$Reason;" (.ref rz12)) (S13 : Sta Z Z.heap "com/example/shelfmark/shelfmark/model/QueryRefusedException$Reason" "MASK_TOO_BROAD" "Lcom/example/shelfmark/shelfmark/model/QueryRefusedException$Reason;" (.ref rz13)) (S14 : Sta Z Z.heap "com/example/shelfmark/shelfmark/model/QueryRefusedException$Reason" "MASKED_TERM_TOO_LONG" "Lcom/example/shelfmark/shelfmark/model/QueryRefusedException$Reason;" (.ref rz14)) (S15 : Sta Z Z.heap "com/example/shelfmark/shelfmark/model/QueryRefusedException$Reason" "TOO_MANY_MASKS" "Lcom/example/shelfmark/shelfmark/model/QueryRefusedException$Reason;" (.ref rz15)) (S16 : Sta Z Z.heap "com/example/shelfmark/shelfmark/model/QueryRefusedException$Reason" "TOO_MANY_BOOLEANS" "Lcom/example/shelfmark/shelfmark/model/QueryRefusedException$Reason;" (.ref rz16)) (S17 : Sta Z Z.heap "com/example/shelfmark/shelfmark/model/QueryRefusedException$Reason" "PROXIMITY_UNSUPPORTED" "Lcom/example/shelfmark/shelfmark/model/QueryRefusedException$Reason;" (.ref rz17)) (S18 : Sta Z Z.heap "com/example/shelfmark/shelfmark/model/QueryRefusedException$Reason" "UNSUPPORTED_BOOLEAN_MODIFIER" "Lcom/example/shelfmark/shelfmark/model/QueryRefusedException$Reason;" (.ref rz18)) (SM : Sta Z Z.heap "com/example/shelfmark/shelfmark/protocol/Diagnostic$1" "$SwitchMap$com$example$shelfmark$shelfmark$model$QueryRefusedException$Reason" "[I" (.ref aM)) (VM : Wk.Ary Z Z.heap aM .int (smL.map Value.int)) (EX : ∀ i, i < 19 → Exa Z Z.heap ([rz0, rz1, rz2, rz3, rz4, rz5, rz6, rz7, rz8, rz9, rz10, rz11, rz12, rz13, rz14, rz15, rz16, rz17, rz18].getD i 0) "com/example/shelfmark/shelfmark/model/QueryRefusedException$Reason") (FO : ∀ i, i < 19 → Fld Z Z.heap ([rz0, rz1, rz2, rz3, rz4, rz5, rz6, rz7, rz8, rz9, rz10, rz11, rz12, rz13, rz14, rz15, rz16, rz17, rz18].getD i 0) "java/lang/Enum" "ordinal" "I" (.int (Int32.ofNat i))) :
    Wk.Con l Z x code maxLocals ret room_1 #[(.int p0), (.int p1), (.int p2)] Z.heap (fun v _ => v = some (.int 1)) := by
  refine Wk.Con.intro (plainFor_of_name pn7) (Wk.Ext.refl _) (fun m => ef16 m p0 p1 p2) ?_
  intro W C
  replace C : Wk.Cx Z W "com/example/shelfmark/shelfmark/protocol/DiagnosticOfPinLaw" "law" code 10 (some .boolean) := C
  have O0 : Ext Z.heap Z.heap := Wk.Ext.refl _
  refine Wk.bipush (pc' := 2) C at_0 (v := (19 : Int32)) rfl rfl ?_
  refine Wk.newR (pc' := 5) C at_2 (w0 hw) (w1 hw) (ad := "[Lcom/example/shelfmark/shelfmark/model/QueryRefusedException$Reason;") (by decide) (by decide) (cap := 19) (by decide) (by decide) (k' := 1) rfl (n' := 19) rfl (by decide) (by decide) rfl ?_
  intro a11 h12 ga11 za11 E12 Va11 Aa11 Ra11 O12
  have V13 : Wk.Ary Z h12 a11 (.object "com/example/shelfmark/shelfmark/model/QueryRefusedException$Reason") [.null, .null, .null, .null, .null, .null, .null, .null, .null, .null, .null, .null, .null, .null, .null, .null, .null, .null, .null] := Va11
  refine Wk.dup (pc' := 6) C at_5 rfl rfl ?_
  refine Wk.iconst (pc' := 7) C at_6 (v := (0 : Int32)) rfl rfl ?_
  refine Wk.getS (pc' := 10) C at_7 (w2 hw) Via.refl (S0.ext O12) rfl ?_
  refine Wk.aastore (pc' := 11) C at_10 V13 (by decide) (show _ < _ from Nat.le_of_ble_eq_true rfl) rfl (Wk.RefA.sto Ra11 V13 (Ins.self ((EX 0 (by decide)).ext O12))) rfl (vs' := [(.ref rz0), .null, .null, .null, .null, .null, .null, .null, .null, .null, .null, .null, .null, .null, .null, .null, .null, .null, .null]) rfl za11 rfl ?_
  intro h14 W14 V14 O14
  refine Wk.dup (pc' := 12) C at_11 rfl rfl ?_
  refine Wk.iconst (pc' := 13) C at_12 (v := (1 : Int32)) rfl rfl ?_
  refine Wk.getS (pc' := 16) C at_13 (w6 hw) Via.refl (S1.ext O14) rfl ?_
  refine Wk.aastore (pc' := 17) C at_16 V14 (by decide) (show _ < _ from Nat.le_of_ble_eq_true rfl) rfl (Wk.RefA.sto (Ra11.wr W14) V14 (Ins.self ((EX 1 (by decide)).ext O14))) rfl (vs' := [(.ref rz0), (.ref rz1), .null, .null, .null, .null, .null, .null, .null, .null, .null, .null, .null, .null, .null, .null, .null, .null, .null]) rfl za11 rfl ?_
  intro h15 W15 V15 O15
  refine Wk.dup (pc' := 18) C at_17 rfl rfl ?_
  refine Wk.iconst (pc' := 19) C at_18 (v := (2 : Int32)) rfl rfl ?_
  refine Wk.getS (pc' := 22) C at_19 (w8 hw) Via.refl (S2.ext O15) rfl ?_
  refine Wk.aastore (pc' := 23) C at_22 V15 (by decide) (show _ < _ from Nat.le_of_ble_eq_true rfl) rfl (Wk.RefA.sto ((Ra11.wr W14).wr W15) V15 (Ins.self ((EX 2 (by decide)).ext O15))) rfl (vs' := [(.ref rz0), (.ref rz1), (.ref rz2), .null, .null, .null, .null, .null, .null, .null, .null, .null, .null, .null, .null, .null, .null, .null, .null]) rfl za11 rfl ?_
  intro h16 W16 V16 O16
  refine Wk.dup (pc' := 24) C at_23 rfl rfl ?_
  refine Wk.iconst (pc' := 25) C at_24 (v := (3 : Int32)) rfl rfl ?_
  refine Wk.getS (pc' := 28) C at_25 (w10 hw) Via.refl (S3.ext O16) rfl ?_
  refine Wk.aastore (pc' := 29) C at_28 V16 (by decide) (show _ < _ from Nat.le_of_ble_eq_true rfl) rfl (Wk.RefA.sto (((Ra11.wr W14).wr W15).wr W16) V16 (Ins.self ((EX 3 (by decide)).ext O16))) rfl (vs' := [(.ref rz0), (.ref rz1), (.ref rz2), (.ref rz3), .null, .null, .null, .null, .null, .null, .null, .null, .null, .null, .null, .null, .null, .null, .null]) rfl za11 rfl ?_
  intro h17 W17 V17 O17
  refine Wk.dup (pc' := 30) C at_29 rfl rfl ?_
  refine Wk.iconst (pc' := 31) C at_30 (v := (4 : Int32)) rfl rfl ?_
  refine Wk.getS (pc' := 34) C at_31 (w12 hw) Via.refl (S4.ext O17) rfl ?_
  refine Wk.aastore (pc' := 35) C at_34 V17 (by decide) (show _ < _ from Nat.le_of_ble_eq_true rfl) rfl (Wk.RefA.sto ((((Ra11.wr W14).wr W15).wr W16).wr W17) V17 (Ins.self ((EX 4 (by decide)).ext O17))) rfl (vs' := [(.ref rz0), (.ref rz1), (.ref rz2), (.ref rz3), (.ref rz4), .null, .null, .null, .null, .null, .null, .null, .null, .null, .null, .null, .null, .null, .null]) rfl za11 rfl ?_
  intro h18 W18 V18 O18
  refine Wk.dup (pc' := 36) C at_35 rfl rfl ?_
  refine Wk.iconst (pc' := 37) C at_36 (v := (5 : Int32)) rfl rfl ?_
  refine Wk.getS (pc' := 40) C at_37 (w14 hw) Via.refl (S5.ext O18) rfl ?_
  refine Wk.aastore (pc' := 41) C at_40 V18 (by decide) (show _ < _ from Nat.le_of_ble_eq_true rfl) rfl (Wk.RefA.sto (((((Ra11.wr W14).wr W15).wr W16).wr W17).wr W18) V18 (Ins.self ((EX 5 (by decide)).ext O18))) rfl (vs' := [(.ref rz0), (.ref rz1), (.ref rz2), (.ref rz3), (.ref rz4), (.ref rz5), .null, .null, .null, .null, .null, .null, .null, .null, .null, .null, .null, .null, .null]) rfl za11 rfl ?_
  intro h19 W19 V19 O19
  refine Wk.dup (pc' := 42) C at_41 rfl rfl ?_
  refine Wk.bipush (pc' := 44) C at_42 (v := (6 : Int32)) rfl rfl ?_
  refine Wk.getS (pc' := 47) C at_44 (w16 hw) Via.refl (S6.ext O19) rfl ?_
  refine Wk.aastore (pc' := 48) C at_47 V19 (by decide) (show _ < _ from Nat.le_of_ble_eq_true rfl) rfl (Wk.RefA.sto ((((((Ra11.wr W14).wr W15).wr W16).wr W17).wr W18).wr W19) V19 (Ins.self ((EX 6 (by decide)).ext O19))) rfl (vs' := [(.ref rz0), (.ref rz1), (.ref rz2), (.ref rz3), (.ref rz4), (.ref rz5), (.ref rz6), .null, .null, .null, .null, .null, .null, .null, .null, .null, .null, .null, .null]) rfl za11 rfl ?_
  intro h20 W20 V20 O20
  refine Wk.dup (pc' := 49) C at_48 rfl rfl ?_
  refine Wk.bipush (pc' := 51) C at_49 (v := (7 : Int32)) rfl rfl ?_
  refine Wk.getS (pc' := 54) C at_51 (w18 hw) Via.refl (S7.ext O20) rfl ?_
  refine Wk.aastore (pc' := 55) C at_54 V20 (by decide) (show _ < _ from Nat.le_of_ble_eq_true rfl) rfl (Wk.RefA.sto (((((((Ra11.wr W14).wr W15).wr W16).wr W17).wr W18).wr W19).wr W20) V20 (Ins.self ((EX 7 (by decide)).ext O20))) rfl (vs' := [(.ref rz0), (.ref rz1), (.ref rz2), (.ref rz3), (.ref rz4), (.ref rz5), (.ref rz6), (.ref rz7), .null, .null, .null, .null, .null, .null, .null, .null, .null, .null, .null]) rfl za11 rfl ?_
  intro h21 W21 V21 O21
  refine Wk.dup (pc' := 56) C at_55 rfl rfl ?_
  refine Wk.bipush (pc' := 58) C at_56 (v := (8 : Int32)) rfl rfl ?_
  refine Wk.getS (pc' := 61) C at_58 (w20 hw) Via.refl (S8.ext O21) rfl ?_
  refine Wk.aastore (pc' := 62) C at_61 V21 (by decide) (show _ < _ from Nat.le_of_ble_eq_true rfl) rfl (Wk.RefA.sto ((((((((Ra11.wr W14).wr W15).wr W16).wr W17).wr W18).wr W19).wr W20).wr W21) V21 (Ins.self ((EX 8 (by decide)).ext O21))) rfl (vs' := [(.ref rz0), (.ref rz1), (.ref rz2), (.ref rz3), (.ref rz4), (.ref rz5), (.ref rz6), (.ref rz7), (.ref rz8), .null, .null, .null, .null, .null, .null, .null, .null, .null, .null]) rfl za11 rfl ?_
  intro h22 W22 V22 O22
  refine Wk.dup (pc' := 63) C at_62 rfl rfl ?_
  refine Wk.bipush (pc' := 65) C at_63 (v := (9 : Int32)) rfl rfl ?_
  refine Wk.getS (pc' := 68) C at_65 (w22 hw) Via.refl (S9.ext O22) rfl ?_
  refine Wk.aastore (pc' := 69) C at_68 V22 (by decide) (show _ < _ from Nat.le_of_ble_eq_true rfl) rfl (Wk.RefA.sto (((((((((Ra11.wr W14).wr W15).wr W16).wr W17).wr W18).wr W19).wr W20).wr W21).wr W22) V22 (Ins.self ((EX 9 (by decide)).ext O22))) rfl (vs' := [(.ref rz0), (.ref rz1), (.ref rz2), (.ref rz3), (.ref rz4), (.ref rz5), (.ref rz6), (.ref rz7), (.ref rz8), (.ref rz9), .null, .null, .null, .null, .null, .null, .null, .null, .null]) rfl za11 rfl ?_
  intro h23 W23 V23 O23
  refine Wk.dup (pc' := 70) C at_69 rfl rfl ?_
  refine Wk.bipush (pc' := 72) C at_70 (v := (10 : Int32)) rfl rfl ?_
  refine Wk.getS (pc' := 75) C at_72 (w24 hw) Via.refl (S10.ext O23) rfl ?_
  refine Wk.aastore (pc' := 76) C at_75 V23 (by decide) (show _ < _ from Nat.le_of_ble_eq_true rfl) rfl (Wk.RefA.sto ((((((((((Ra11.wr W14).wr W15).wr W16).wr W17).wr W18).wr W19).wr W20).wr W21).wr W22).wr W23) V23 (Ins.self ((EX 10 (by decide)).ext O23))) rfl (vs' := [(.ref rz0), (.ref rz1), (.ref rz2), (.ref rz3), (.ref rz4), (.ref rz5), (.ref rz6), (.ref rz7), (.ref rz8), (.ref rz9), (.ref rz10), .null, .null, .null, .null, .null, .null, .null, .null]) rfl za11 rfl ?_
  intro h24 W24 V24 O24
  refine Wk.dup (pc' := 77) C at_76 rfl rfl ?_
  refine Wk.bipush (pc' := 79) C at_77 (v := (11 : Int32)) rfl rfl ?_
  refine Wk.getS (pc' := 82) C at_79 (w26 hw) Via.refl (S11.ext O24) rfl ?_
  refine Wk.aastore (pc' := 83) C at_82 V24 (by decide) (show _ < _ from Nat.le_of_ble_eq_true rfl) rfl (Wk.RefA.sto (((((((((((Ra11.wr W14).wr W15).wr W16).wr W17).wr W18).wr W19).wr W20).wr W21).wr W22).wr W23).wr W24) V24 (Ins.self ((EX 11 (by decide)).ext O24))) rfl (vs' := [(.ref rz0), (.ref rz1), (.ref rz2), (.ref rz3), (.ref rz4), (.ref rz5), (.ref rz6), (.ref rz7), (.ref rz8), (.ref rz9), (.ref rz10), (.ref rz11), .null, .null, .null, .null, .null, .null, .null]) rfl za11 rfl ?_
  intro h25 W25 V25 O25
  refine Wk.dup (pc' := 84) C at_83 rfl rfl ?_
  refine Wk.bipush (pc' := 86) C at_84 (v := (12 : Int32)) rfl rfl ?_
  refine Wk.getS (pc' := 89) C at_86 (w28 hw) Via.refl (S12.ext O25) rfl ?_
  refine Wk.aastore (pc' := 90) C at_89 V25 (by decide) (show _ < _ from Nat.le_of_ble_eq_true rfl) rfl (Wk.RefA.sto ((((((((((((Ra11.wr W14).wr W15).wr W16).wr W17).wr W18).wr W19).wr W20).wr W21).wr W22).wr W23).wr W24).wr W25) V25 (Ins.self ((EX 12 (by decide)).ext O25))) rfl (vs' := [(.ref rz0), (.ref rz1), (.ref rz2), (.ref rz3), (.ref rz4), (.ref rz5), (.ref rz6), (.ref rz7), (.ref rz8), (.ref rz9), (.ref rz10), (.ref rz11), (.ref rz12), .null, .null, .null, .null, .null, .null]) rfl za11 rfl ?_
  intro h26 W26 V26 O26
  refine Wk.dup (pc' := 91) C at_90 rfl rfl ?_
  refine Wk.bipush (pc' := 93) C at_91 (v := (13 : Int32)) rfl rfl ?_
  refine Wk.getS (pc' := 96) C at_93 (w30 hw) Via.refl (S13.ext O26) rfl ?_
  refine Wk.aastore (pc' := 97) C at_96 V26 (by decide) (show _ < _ from Nat.le_of_ble_eq_true rfl) rfl (Wk.RefA.sto (((((((((((((Ra11.wr W14).wr W15).wr W16).wr W17).wr W18).wr W19).wr W20).wr W21).wr W22).wr W23).wr W24).wr W25).wr W26) V26 (Ins.self ((EX 13 (by decide)).ext O26))) rfl (vs' := [(.ref rz0), (.ref rz1), (.ref rz2), (.ref rz3), (.ref rz4), (.ref rz5), (.ref rz6), (.ref rz7), (.ref rz8), (.ref rz9), (.ref rz10), (.ref rz11), (.ref rz12), (.ref rz13), .null, .null, .null, .null, .null]) rfl za11 rfl ?_
  intro h27 W27 V27 O27
  refine Wk.dup (pc' := 98) C at_97 rfl rfl ?_
  refine Wk.bipush (pc' := 100) C at_98 (v := (14 : Int32)) rfl rfl ?_
  refine Wk.getS (pc' := 103) C at_100 (w32 hw) Via.refl (S14.ext O27) rfl ?_
  refine Wk.aastore (pc' := 104) C at_103 V27 (by decide) (show _ < _ from Nat.le_of_ble_eq_true rfl) rfl (Wk.RefA.sto ((((((((((((((Ra11.wr W14).wr W15).wr W16).wr W17).wr W18).wr W19).wr W20).wr W21).wr W22).wr W23).wr W24).wr W25).wr W26).wr W27) V27 (Ins.self ((EX 14 (by decide)).ext O27))) rfl (vs' := [(.ref rz0), (.ref rz1), (.ref rz2), (.ref rz3), (.ref rz4), (.ref rz5), (.ref rz6), (.ref rz7), (.ref rz8), (.ref rz9), (.ref rz10), (.ref rz11), (.ref rz12), (.ref rz13), (.ref rz14), .null, .null, .null, .null]) rfl za11 rfl ?_
  intro h28 W28 V28 O28
  refine Wk.dup (pc' := 105) C at_104 rfl rfl ?_
  refine Wk.bipush (pc' := 107) C at_105 (v := (15 : Int32)) rfl rfl ?_
  refine Wk.getS (pc' := 110) C at_107 (w34 hw) Via.refl (S15.ext O28) rfl ?_
  refine Wk.aastore (pc' := 111) C at_110 V28 (by decide) (show _ < _ from Nat.le_of_ble_eq_true rfl) rfl (Wk.RefA.sto (((((((((((((((Ra11.wr W14).wr W15).wr W16).wr W17).wr W18).wr W19).wr W20).wr W21).wr W22).wr W23).wr W24).wr W25).wr W26).wr W27).wr W28) V28 (Ins.self ((EX 15 (by decide)).ext O28))) rfl (vs' := [(.ref rz0), (.ref rz1), (.ref rz2), (.ref rz3), (.ref rz4), (.ref rz5), (.ref rz6), (.ref rz7), (.ref rz8), (.ref rz9), (.ref rz10), (.ref rz11), (.ref rz12), (.ref rz13), (.ref rz14), (.ref rz15), .null, .null, .null]) rfl za11 rfl ?_
  intro h29 W29 V29 O29
  refine Wk.dup (pc' := 112) C at_111 rfl rfl ?_
  refine Wk.bipush (pc' := 114) C at_112 (v := (16 : Int32)) rfl rfl ?_
  refine Wk.getS (pc' := 117) C at_114 (w36 hw) Via.refl (S16.ext O29) rfl ?_
  refine Wk.aastore (pc' := 118) C at_117 V29 (by decide) (show _ < _ from Nat.le_of_ble_eq_true rfl) rfl (Wk.RefA.sto ((((((((((((((((Ra11.wr W14).wr W15).wr W16).wr W17).wr W18).wr W19).wr W20).wr W21).wr W22).wr W23).wr W24).wr W25).wr W26).wr W27).wr W28).wr W29) V29 (Ins.self ((EX 16 (by decide)).ext O29))) rfl (vs' := [(.ref rz0), (.ref rz1), (.ref rz2), (.ref rz3), (.ref rz4), (.ref rz5), (.ref rz6), (.ref rz7), (.ref rz8), (.ref rz9), (.ref rz10), (.ref rz11), (.ref rz12), (.ref rz13), (.ref rz14), (.ref rz15), (.ref rz16), .null, .null]) rfl za11 rfl ?_
  intro h30 W30 V30 O30
  refine Wk.dup (pc' := 119) C at_118 rfl rfl ?_
  refine Wk.bipush (pc' := 121) C at_119 (v := (17 : Int32)) rfl rfl ?_
  refine Wk.getS (pc' := 124) C at_121 (w38 hw) Via.refl (S17.ext O30) rfl ?_
  refine Wk.aastore (pc' := 125) C at_124 V30 (by decide) (show _ < _ from Nat.le_of_ble_eq_true rfl) rfl (Wk.RefA.sto (((((((((((((((((Ra11.wr W14).wr W15).wr W16).wr W17).wr W18).wr W19).wr W20).wr W21).wr W22).wr W23).wr W24).wr W25).wr W26).wr W27).wr W28).wr W29).wr W30) V30 (Ins.self ((EX 17 (by decide)).ext O30))) rfl (vs' := [(.ref rz0), (.ref rz1), (.ref rz2), (.ref rz3), (.ref rz4), (.ref rz5), (.ref rz6), (.ref rz7), (.ref rz8), (.ref rz9), (.ref rz10), (.ref rz11), (.ref rz12), (.ref rz13), (.ref rz14), (.ref rz15), (.ref rz16), (.ref rz17), .null]) rfl za11 rfl ?_
  intro h31 W31 V31 O31
  refine Wk.dup (pc' := 126) C at_125 rfl rfl ?_
  refine Wk.bipush (pc' := 128) C at_126 (v := (18 : Int32)) rfl rfl ?_
  refine Wk.getS (pc' := 131) C at_128 (w40 hw) Via.refl (S18.ext O31) rfl ?_
  refine Wk.aastore (pc' := 132) C at_131 V31 (by decide) (show _ < _ from Nat.le_of_ble_eq_true rfl) rfl (Wk.RefA.sto ((((((((((((((((((Ra11.wr W14).wr W15).wr W16).wr W17).wr W18).wr W19).wr W20).wr W21).wr W22).wr W23).wr W24).wr W25).wr W26).wr W27).wr W28).wr W29).wr W30).wr W31) V31 (Ins.self ((EX 18 (by decide)).ext O31))) rfl (vs' := [(.ref rz0), (.ref rz1), (.ref rz2), (.ref rz3), (.ref rz4), (.ref rz5), (.ref rz6), (.ref rz7), (.ref rz8), (.ref rz9), (.ref rz10), (.ref rz11), (.ref rz12), (.ref rz13), (.ref rz14), (.ref rz15), (.ref rz16), (.ref rz17), (.ref rz18)]) rfl za11 rfl ?_
  intro h32 W32 V32 O32
  refine Wk.astoreN (pc' := 133) C at_132 rfl (Ls' := #[.val (.int p0), .val (.int p1), .val (.int p2), .val (.ref a11), .unset, .unset, .unset, .unset, .unset, .unset]) rfl rfl ?_
  refine Wk.bipush (pc' := 135) C at_133 (v := (19 : Int32)) rfl rfl ?_
  refine Wk.newA (pc' := 137) C at_135 (ty := .int) rfl (w42 hw) (by decide) (cap := 19) (by decide) (by decide) (k' := 2) rfl (n' := 38) rfl (by decide) (by decide) rfl rfl ?_
  intro a33 h34 ga33 za33 E34 Va33 O34
  have V35 : Wk.Ary Z h34 a33 .int [(.int (0 : Int32)), (.int (0 : Int32)), (.int (0 : Int32)), (.int (0 : Int32)), (.int (0 : Int32)), (.int (0 : Int32)), (.int (0 : Int32)), (.int (0 : Int32)), (.int (0 : Int32)), (.int (0 : Int32)), (.int (0 : Int32)), (.int (0 : Int32)), (.int (0 : Int32)), (.int (0 : Int32)), (.int (0 : Int32)), (.int (0 : Int32)), (.int (0 : Int32)), (.int (0 : Int32)), (.int (0 : Int32))] := Va33
  refine Wk.dup (pc' := 138) C at_137 rfl rfl ?_
  refine Wk.iconst (pc' := 139) C at_138 (v := (0 : Int32)) rfl rfl ?_
  refine Wk.bipush (pc' := 141) C at_139 (v := (10 : Int32)) rfl rfl ?_
  refine Wk.iastore (pc' := 142) C at_141 V35 (by decide) (show _ < _ from Nat.le_of_ble_eq_true rfl) (vs' := [(.int (10 : Int32)), (.int (0 : Int32)), (.int (0 : Int32)), (.int (0 : Int32)), (.int (0 : Int32)), (.int (0 : Int32)), (.int (0 : Int32)), (.int (0 : Int32)), (.int (0 : Int32)), (.int (0 : Int32)), (.int (0 : Int32)), (.int (0 : Int32)), (.int (0 : Int32)), (.int (0 : Int32)), (.int (0 : Int32)), (.int (0 : Int32)), (.int (0 : Int32)), (.int (0 : Int32)), (.int (0 : Int32))]) rfl za33 rfl ?_
  intro h36 W36 V36 O36
  refine Wk.dup (pc' := 143) C at_142 rfl rfl ?_
  refine Wk.iconst (pc' := 144) C at_143 (v := (1 : Int32)) rfl rfl ?_
  refine Wk.bipush (pc' := 146) C at_144 (v := (15 : Int32)) rfl rfl ?_
  refine Wk.iastore (pc' := 147) C at_146 V36 (by decide) (show _ < _ from Nat.le_of_ble_eq_true rfl) (vs' := [(.int (10 : Int32)), (.int (15 : Int32)), (.int (0 : Int32)), (.int (0 : Int32)), (.int (0 : Int32)), (.int (0 : Int32)), (.int (0 : Int32)), (.int (0 : Int32)), (.int (0 : Int32)), (.int (0 : Int32)), (.int (0 : Int32)), (.int (0 : Int32)), (.int (0 : Int32)), (.int (0 : Int32)), (.int (0 : Int32)), (.int (0 : Int32)), (.int (0 : Int32)), (.int (0 : Int32)), (.int (0 : Int32))]) rfl za33 rfl ?_
  intro h37 W37 V37 O37
  refine Wk.dup (pc' := 148) C at_147 rfl rfl ?_
  refine Wk.iconst (pc' := 149) C at_148 (v := (2 : Int32)) rfl rfl ?_
  refine Wk.bipush (pc' := 151) C at_149 (v := (16 : Int32)) rfl rfl ?_
  refine Wk.iastore (pc' := 152) C at_151 V37 (by decide) (show _ < _ from Nat.le_of_ble_eq_true rfl) (vs' := [(.int (10 : Int32)), (.int (15 : Int32)), (.int (16 : Int32)), (.int (0 : Int32)), (.int (0 : Int32)), (.int (0 : Int32)), (.int (0 : Int32)), (.int (0 : Int32)), (.int (0 : Int32)), (.int (0 : Int32)), (.int (0 : Int32)), (.int (0 : Int32)), (.int (0 : Int32)), (.int (0 : Int32)), (.int (0 : Int32)), (.int (0 : Int32)), (.int (0 : Int32)), (.int (0 : Int32)), (.int (0 : Int32))]) rfl za33 rfl ?_
  intro h38 W38 V38 O38
  refine Wk.dup (pc' := 153) C at_152 rfl rfl ?_
  refine Wk.iconst (pc' := 154) C at_153 (v := (3 : Int32)) rfl rfl ?_
  refine Wk.bipush (pc' := 156) C at_154 (v := (19 : Int32)) rfl rfl ?_
  refine Wk.iastore (pc' := 157) C at_156 V38 (by decide) (show _ < _ from Nat.le_of_ble_eq_true rfl) (vs' := [(.int (10 : Int32)), (.int (15 : Int32)), (.int (16 : Int32)), (.int (19 : Int32)), (.int (0 : Int32)), (.int (0 : Int32)), (.int (0 : Int32)), (.int (0 : Int32)), (.int (0 : Int32)), (.int (0 : Int32)), (.int (0 : Int32)), (.int (0 : Int32)), (.int (0 : Int32)), (.int (0 : Int32)), (.int (0 : Int32)), (.int (0 : Int32)), (.int (0 : Int32)), (.int (0 : Int32)), (.int (0 : Int32))]) rfl za33 rfl ?_
  intro h39 W39 V39 O39
  refine Wk.dup (pc' := 158) C at_157 rfl rfl ?_
  refine Wk.iconst (pc' := 159) C at_158 (v := (4 : Int32)) rfl rfl ?_
  refine Wk.bipush (pc' := 161) C at_159 (v := (22 : Int32)) rfl rfl ?_
  refine Wk.iastore (pc' := 162) C at_161 V39 (by decide) (show _ < _ from Nat.le_of_ble_eq_true rfl) (vs' := [(.int (10 : Int32)), (.int (15 : Int32)), (.int (16 : Int32)), (.int (19 : Int32)), (.int (22 : Int32)), (.int (0 : Int32)), (.int (0 : Int32)), (.int (0 : Int32)), (.int (0 : Int32)), (.int (0 : Int32)), (.int (0 : Int32)), (.int (0 : Int32)), (.int (0 : Int32)), (.int (0 : Int32)), (.int (0 : Int32)), (.int (0 : Int32)), (.int (0 : Int32)), (.int (0 : Int32)), (.int (0 : Int32))]) rfl za33 rfl ?_
  intro h40 W40 V40 O40
  refine Wk.dup (pc' := 163) C at_162 rfl rfl ?_
  refine Wk.iconst (pc' := 164) C at_163 (v := (5 : Int32)) rfl rfl ?_
  refine Wk.bipush (pc' := 166) C at_164 (v := (20 : Int32)) rfl rfl ?_
  refine Wk.iastore (pc' := 167) C at_166 V40 (by decide) (show _ < _ from Nat.le_of_ble_eq_true rfl) (vs' := [(.int (10 : Int32)), (.int (15 : Int32)), (.int (16 : Int32)), (.int (19 : Int32)), (.int (22 : Int32)), (.int (20 : Int32)), (.int (0 : Int32)), (.int (0 : Int32)), (.int (0 : Int32)), (.int (0 : Int32)), (.int (0 : Int32)), (.int (0 : Int32)), (.int (0 : Int32)), (.int (0 : Int32)), (.int (0 : Int32)), (.int (0 : Int32)), (.int (0 : Int32)), (.int (0 : Int32)), (.int (0 : Int32))]) rfl za33 rfl ?_
  intro h41 W41 V41 O41
  refine Wk.dup (pc' := 168) C at_167 rfl rfl ?_
  refine Wk.bipush (pc' := 170) C at_168 (v := (6 : Int32)) rfl rfl ?_
  refine Wk.bipush (pc' := 172) C at_170 (v := (20 : Int32)) rfl rfl ?_
  refine Wk.iastore (pc' := 173) C at_172 V41 (by decide) (show _ < _ from Nat.le_of_ble_eq_true rfl) (vs' := [(.int (10 : Int32)), (.int (15 : Int32)), (.int (16 : Int32)), (.int (19 : Int32)), (.int (22 : Int32)), (.int (20 : Int32)), (.int (20 : Int32)), (.int (0 : Int32)), (.int (0 : Int32)), (.int (0 : Int32)), (.int (0 : Int32)), (.int (0 : Int32)), (.int (0 : Int32)), (.int (0 : Int32)), (.int (0 : Int32)), (.int (0 : Int32)), (.int (0 : Int32)), (.int (0 : Int32)), (.int (0 : Int32))]) rfl za33 rfl ?_
  intro h42 W42 V42 O42
  refine Wk.dup (pc' := 174) C at_173 rfl rfl ?_
  refine Wk.bipush (pc' := 176) C at_174 (v := (7 : Int32)) rfl rfl ?_
  refine Wk.bipush (pc' := 178) C at_176 (v := (88 : Int32)) rfl rfl ?_
  refine Wk.iastore (pc' := 179) C at_178 V42 (by decide) (show _ < _ from Nat.le_of_ble_eq_true rfl) (vs' := [(.int (10 : Int32)), (.int (15 : Int32)), (.int (16 : Int32)), (.int (19 : Int32)), (.int (22 : Int32)), (.int (20 : Int32)), (.int (20 : Int32)), (.int (88 : Int32)), (.int (0 : Int32)), (.int (0 : Int32)), (.int (0 : Int32)), (.int (0 : Int32)), (.int (0 : Int32)), (.int (0 : Int32)), (.int (0 : Int32)), (.int (0 : Int32)), (.int (0 : Int32)), (.int (0 : Int32)), (.int (0 : Int32))]) rfl za33 rfl ?_
  intro h43 W43 V43 O43
  refine Wk.dup (pc' := 180) C at_179 rfl rfl ?_
  refine Wk.bipush (pc' := 182) C at_180 (v := (8 : Int32)) rfl rfl ?_
  refine Wk.bipush (pc' := 184) C at_182 (v := (28 : Int32)) rfl rfl ?_
  refine Wk.iastore (pc' := 185) C at_184 V43 (by decide) (show _ < _ from Nat.le_of_ble_eq_true rfl) (vs' := [(.int (10 : Int32)), (.int (15 : Int32)), (.int (16 : Int32)), (.int (19 : Int32)), (.int (22 : Int32)), (.int (20 : Int32)), (.int (20 : Int32)), (.int (88 : Int32)), (.int (28 : Int32)), (.int (0 : Int32)), (.int (0 : Int32)), (.int (0 : Int32)), (.int (0 : Int32)), (.int (0 : Int32)), (.int (0 : Int32)), (.int (0 : Int32)), (.int (0 : Int32)), (.int (0 : Int32)), (.int (0 : Int32))]) rfl za33 rfl ?_
  intro h44 W44 V44 O44
  refine Wk.dup (pc' := 186) C at_185 rfl rfl ?_
  refine Wk.bipush (pc' := 188) C at_186 (v := (9 : Int32)) rfl rfl ?_
  refine Wk.bipush (pc' := 190) C at_188 (v := (31 : Int32)) rfl rfl ?_
  refine Wk.iastore (pc' := 191) C at_190 V44 (by decide) (show _ < _ from Nat.le_of_ble_eq_true rfl) (vs' := [(.int (10 : Int32)), (.int (15 : Int32)), (.int (16 : Int32)), (.int (19 : Int32)), (.int (22 : Int32)), (.int (20 : Int32)), (.int (20 : Int32)), (.int (88 : Int32)), (.int (28 : Int32)), (.int (31 : Int32)), (.int (0 : Int32)), (.int (0 : Int32)), (.int (0 : Int32)), (.int (0 : Int32)), (.int (0 : Int32)), (.int (0 : Int32)), (.int (0 : Int32)), (.int (0 : Int32)), (.int (0 : Int32))]) rfl za33 rfl ?_
  intro h45 W45 V45 O45
  refine Wk.dup (pc' := 192) C at_191 rfl rfl ?_
  refine Wk.bipush (pc' := 194) C at_192 (v := (10 : Int32)) rfl rfl ?_
  refine Wk.bipush (pc' := 196) C at_194 (v := (27 : Int32)) rfl rfl ?_
  refine Wk.iastore (pc' := 197) C at_196 V45 (by decide) (show _ < _ from Nat.le_of_ble_eq_true rfl) (vs' := [(.int (10 : Int32)), (.int (15 : Int32)), (.int (16 : Int32)), (.int (19 : Int32)), (.int (22 : Int32)), (.int (20 : Int32)), (.int (20 : Int32)), (.int (88 : Int32)), (.int (28 : Int32)), (.int (31 : Int32)), (.int (27 : Int32)), (.int (0 : Int32)), (.int (0 : Int32)), (.int (0 : Int32)), (.int (0 : Int32)), (.int (0 : Int32)), (.int (0 : Int32)), (.int (0 : Int32)), (.int (0 : Int32))]) rfl za33 rfl ?_
  intro h46 W46 V46 O46
  refine Wk.dup (pc' := 198) C at_197 rfl rfl ?_
  refine Wk.bipush (pc' := 200) C at_198 (v := (11 : Int32)) rfl rfl ?_
  refine Wk.bipush (pc' := 202) C at_200 (v := (24 : Int32)) rfl rfl ?_
  refine Wk.iastore (pc' := 203) C at_202 V46 (by decide) (show _ < _ from Nat.le_of_ble_eq_true rfl) (vs' := [(.int (10 : Int32)), (.int (15 : Int32)), (.int (16 : Int32)), (.int (19 : Int32)), (.int (22 : Int32)), (.int (20 : Int32)), (.int (20 : Int32)), (.int (88 : Int32)), (.int (28 : Int32)), (.int (31 : Int32)), (.int (27 : Int32)), (.int (24 : Int32)), (.int (0 : Int32)), (.int (0 : Int32)), (.int (0 : Int32)), (.int (0 : Int32)), (.int (0 : Int32)), (.int (0 : Int32)), (.int (0 : Int32))]) rfl za33 rfl ?_
  intro h47 W47 V47 O47
  refine Wk.dup (pc' := 204) C at_203 rfl rfl ?_
  refine Wk.bipush (pc' := 206) C at_204 (v := (12 : Int32)) rfl rfl ?_
  refine Wk.bipush (pc' := 208) C at_206 (v := (36 : Int32)) rfl rfl ?_
  refine Wk.iastore (pc' := 209) C at_208 V47 (by decide) (show _ < _ from Nat.le_of_ble_eq_true rfl) (vs' := [(.int (10 : Int32)), (.int (15 : Int32)), (.int (16 : Int32)), (.int (19 : Int32)), (.int (22 : Int32)), (.int (20 : Int32)), (.int (20 : Int32)), (.int (88 : Int32)), (.int (28 : Int32)), (.int (31 : Int32)), (.int (27 : Int32)), (.int (24 : Int32)), (.int (36 : Int32)), (.int (0 : Int32)), (.int (0 : Int32)), (.int (0 : Int32)), (.int (0 : Int32)), (.int (0 : Int32)), (.int (0 : Int32))]) rfl za33 rfl ?_
  intro h48 W48 V48 O48
  refine Wk.dup (pc' := 210) C at_209 rfl rfl ?_
  refine Wk.bipush (pc' := 212) C at_210 (v := (13 : Int32)) rfl rfl ?_
  refine Wk.bipush (pc' := 214) C at_212 (v := (29 : Int32)) rfl rfl ?_
  refine Wk.iastore (pc' := 215) C at_214 V48 (by decide) (show _ < _ from Nat.le_of_ble_eq_true rfl) (vs' := [(.int (10 : Int32)), (.int (15 : Int32)), (.int (16 : Int32)), (.int (19 : Int32)), (.int (22 : Int32)), (.int (20 : Int32)), (.int (20 : Int32)), (.int (88 : Int32)), (.int (28 : Int32)), (.int (31 : Int32)), (.int (27 : Int32)), (.int (24 : Int32)), (.int (36 : Int32)), (.int (29 : Int32)), (.int (0 : Int32)), (.int (0 : Int32)), (.int (0 : Int32)), (.int (0 : Int32)), (.int (0 : Int32))]) rfl za33 rfl ?_
  intro h49 W49 V49 O49
  refine Wk.dup (pc' := 216) C at_215 rfl rfl ?_
  refine Wk.bipush (pc' := 218) C at_216 (v := (14 : Int32)) rfl rfl ?_
  refine Wk.bipush (pc' := 220) C at_218 (v := (23 : Int32)) rfl rfl ?_
  refine Wk.iastore (pc' := 221) C at_220 V49 (by decide) (show _ < _ from Nat.le_of_ble_eq_true rfl) (vs' := [(.int (10 : Int32)), (.int (15 : Int32)), (.int (16 : Int32)), (.int (19 : Int32)), (.int (22 : Int32)), (.int (20 : Int32)), (.int (20 : Int32)), (.int (88 : Int32)), (.int (28 : Int32)), (.int (31 : Int32)), (.int (27 : Int32)), (.int (24 : Int32)), (.int (36 : Int32)), (.int (29 : Int32)), (.int (23 : Int32)), (.int (0 : Int32)), (.int (0 : Int32)), (.int (0 : Int32)), (.int (0 : Int32))]) rfl za33 rfl ?_
  intro h50 W50 V50 O50
  refine Wk.dup (pc' := 222) C at_221 rfl rfl ?_
  refine Wk.bipush (pc' := 224) C at_222 (v := (15 : Int32)) rfl rfl ?_
  refine Wk.bipush (pc' := 226) C at_224 (v := (30 : Int32)) rfl rfl ?_
  refine Wk.iastore (pc' := 227) C at_226 V50 (by decide) (show _ < _ from Nat.le_of_ble_eq_true rfl) (vs' := [(.int (10 : Int32)), (.int (15 : Int32)), (.int (16 : Int32)), (.int (19 : Int32)), (.int (22 : Int32)), (.int (20 : Int32)), (.int (20 : Int32)), (.int (88 : Int32)), (.int (28 : Int32)), (.int (31 : Int32)), (.int (27 : Int32)), (.int (24 : Int32)), (.int (36 : Int32)), (.int (29 : Int32)), (.int (23 : Int32)), (.int (30 : Int32)), (.int (0 : Int32)), (.int (0 : Int32)), (.int (0 : Int32))]) rfl za33 rfl ?_
  intro h51 W51 V51 O51
  refine Wk.dup (pc' := 228) C at_227 rfl rfl ?_
  refine Wk.bipush (pc' := 230) C at_228 (v := (16 : Int32)) rfl rfl ?_
  refine Wk.bipush (pc' := 232) C at_230 (v := (38 : Int32)) rfl rfl ?_
  refine Wk.iastore (pc' := 233) C at_232 V51 (by decide) (show _ < _ from Nat.le_of_ble_eq_true rfl) (vs' := [(.int (10 : Int32)), (.int (15 : Int32)), (.int (16 : Int32)), (.int (19 : Int32)), (.int (22 : Int32)), (.int (20 : Int32)), (.int (20 : Int32)), (.int (88 : Int32)), (.int (28 : Int32)), (.int (31 : Int32)), (.int (27 : Int32)), (.int (24 : Int32)), (.int (36 : Int32)), (.int (29 : Int32)), (.int (23 : Int32)), (.int (30 : Int32)), (.int (38 : Int32)), (.int (0 : Int32)), (.int (0 : Int32))]) rfl za33 rfl ?_
  intro h52 W52 V52 O52
  refine Wk.dup (pc' := 234) C at_233 rfl rfl ?_
  refine Wk.bipush (pc' := 236) C at_234 (v := (17 : Int32)) rfl rfl ?_
  refine Wk.bipush (pc' := 238) C at_236 (v := (39 : Int32)) rfl rfl ?_
  refine Wk.iastore (pc' := 239) C at_238 V52 (by decide) (show _ < _ from Nat.le_of_ble_eq_true rfl) (vs' := [(.int (10 : Int32)), (.int (15 : Int32)), (.int (16 : Int32)), (.int (19 : Int32)), (.int (22 : Int32)), (.int (20 : Int32)), (.int (20 : Int32)), (.int (88 : Int32)), (.int (28 : Int32)), (.int (31 : Int32)), (.int (27 : Int32)), (.int (24 : Int32)), (.int (36 : Int32)), (.int (29 : Int32)), (.int (23 : Int32)), (.int (30 : Int32)), (.int (38 : Int32)), (.int (39 : Int32)), (.int (0 : Int32))]) rfl za33 rfl ?_
  intro h53 W53 V53 O53
  refine Wk.dup (pc' := 240) C at_239 rfl rfl ?_
  refine Wk.bipush (pc' := 242) C at_240 (v := (18 : Int32)) rfl rfl ?_
  refine Wk.bipush (pc' := 244) C at_242 (v := (46 : Int32)) rfl rfl ?_
  refine Wk.iastore (pc' := 245) C at_244 V53 (by decide) (show _ < _ from Nat.le_of_ble_eq_true rfl) (vs' := [(.int (10 : Int32)), (.int (15 : Int32)), (.int (16 : Int32)), (.int (19 : Int32)), (.int (22 : Int32)), (.int (20 : Int32)), (.int (20 : Int32)), (.int (88 : Int32)), (.int (28 : Int32)), (.int (31 : Int32)), (.int (27 : Int32)), (.int (24 : Int32)), (.int (36 : Int32)), (.int (29 : Int32)), (.int (23 : Int32)), (.int (30 : Int32)), (.int (38 : Int32)), (.int (39 : Int32)), (.int (46 : Int32))]) rfl za33 rfl ?_
  intro h54 W54 V54 O54
  refine Wk.astore (pc' := 247) C at_245 rfl (Ls' := #[.val (.int p0), .val (.int p1), .val (.int p2), .val (.ref a11), .val (.ref a33), .unset, .unset, .unset, .unset, .unset]) rfl rfl ?_
  refine Wk.iloadN (pc' := 248) C at_247 rfl rfl ?_
  refine Wk.ldcI (pc' := 250) C at_248 (w43 hw) rfl ?_
  obtain ⟨v55, hv55⟩ : ∃ z : Int32, p0 &&& (2147483647 : Int32) = z := ⟨_, rfl⟩
  refine Wk.iand (pc' := 251) C at_250 hv55 rfl ?_
  refine Wk.bipush (pc' := 253) C at_251 (v := (19 : Int32)) rfl rfl ?_
  obtain ⟨v56, hv56⟩ : ∃ z : Int32, v55 % (19 : Int32) = z := ⟨_, rfl⟩
  refine Wk.irem (pc' := 254) C at_253 (by decide) hv56 rfl ?_
  refine Wk.istore (pc' := 256) C at_254 (Ls' := #[.val (.int p0), .val (.int p1), .val (.int p2), .val (.ref a11), .val (.ref a33), .val (.int v56), .unset, .unset, .unset, .unset]) rfl rfl ?_
  have t0 : 0 ≤ v56.toInt ∧ v56.toInt < 19 := by
    have a := Wk.modr (Wk.mask31 hv55) (by decide) hv56
    have c19 : (19 : Int32).toInt = 19 := by decide
    omega
  obtain ⟨kN, hkN⟩ : ∃ j, v56.toNatClampNeg = j := ⟨_, rfl⟩
  have fk : v56 = Int32.ofNat kN := by rw [← hkN]; exact Wk.ofNat t0.1
  have kk : (kN : Int) = v56.toInt := by rw [← hkN]; exact Wk.clamp t0.1
  have hk : kN < 19 := by omega
  rw [fk]
  refine Wk.aconstNull (pc' := 257) C at_256 rfl ?_
  refine Wk.astore (pc' := 259) C at_257 rfl (Ls' := #[.val (.int p0), .val (.int p1), .val (.int p2), .val (.ref a11), .val (.ref a33), .val (.int (Int32.ofNat kN)), .val .null, .unset, .unset, .unset]) rfl rfl ?_
  have J298 : ∀ (e1 : Value) he1x, Ext h54 he1x → SN Z he1x e1 → Ext Z.heap he1x → Wk.Run l room_1 Z W (fun v _ => v = some (.int 1)) he1x 5 46 (mkF W.m 298 #[.val (.int p0), .val (.int p1), .val (.int p2), .val (.ref a11), .val (.ref a33), .val (.int (Int32.ofNat kN)), .val e1, .unset, .unset, .unset] []) := by
    intro e1 he1x Ee1 Ne1 Oe1
    have he1 := Ne1.ref
    refine Wk.aconstNull (pc' := 299) C at_298 rfl ?_
    refine Wk.astore (pc' := 301) C at_299 rfl (Ls' := #[.val (.int p0), .val (.int p1), .val (.int p2), .val (.ref a11), .val (.ref a33), .val (.int (Int32.ofNat kN)), .val e1, .val .null, .unset, .unset]) rfl rfl ?_
    have J343 : ∀ (e2 : Value) he2x, Ext he1x he2x → SN Z he2x e2 → Ext Z.heap he2x → Wk.Run l room_1 Z W (fun v _ => v = some (.int 1)) he2x 8 54 (mkF W.m 343 #[.val (.int p0), .val (.int p1), .val (.int p2), .val (.ref a11), .val (.ref a33), .val (.int (Int32.ofNat kN)), .val e1, .val e2, .unset, .unset] []) := by
      intro e2 he2x Ee2 Ne2 Oe2
      have he2 := Ne2.ref
      refine Wk.newO (pc' := 346) C at_343 (w44 hw) (w45 hw) (w46 hw) (k' := 9) rfl (n' := 62) rfl (by decide) (by decide) rfl ?_
      intro a57 h58 ga57 za57 E58 Aa57 Da57 Ua57 O58
      have F59 : Fld Z h58 a57 "java/lang/Throwable" "cause" "Ljava/lang/Throwable;" .null := Da57 (Or.inl (w65 hw)) (ty := (.object "java/lang/Throwable")) (by decide)
      have F60 : Fld Z h58 a57 "java/lang/Throwable" "stackTrace" "[Ljava/lang/StackTraceElement;" .null := Da57 (Or.inl (w68 hw)) (ty := (.array (.object "java/lang/StackTraceElement"))) (by decide)
      have F61 : Fld Z h58 a57 "java/lang/Throwable" "suppressedExceptions" "Ljava/util/List;" .null := Da57 (Or.inl (w71 hw)) (ty := (.object "java/util/List")) (by decide)
      have F62 : Fld Z h58 a57 "java/lang/Throwable" "detailMessage" "Ljava/lang/String;" .null := Da57 (Or.inl (w95 hw)) (ty := (.object "java/lang/String")) (by decide)
      have F63 : Fld Z h58 a57 "java/lang/Throwable" "backtrace" "Ljava/lang/Object;" .null := Da57 (Or.inl (w96 hw)) (ty := (.object "java/lang/Object")) (by decide)
      have F64 : Fld Z h58 a57 "java/lang/Throwable" "depth" "I" (.int (0 : Int32)) := Da57 (Or.inl (w97 hw)) (ty := .int) (by decide)
      have F65 : Fld Z h58 a57 "com/example/shelfmark/shelfmark/model/QueryRefusedException" "reason" "Lcom/example/shelfmark/shelfmark/model/QueryRefusedException$Reason;" .null := Da57 (Or.inr (w101 hw)) (ty := (.object "com/example/shelfmark/shelfmark/model/QueryRefusedException$Reason")) (by decide)
      have F66 : Fld Z h58 a57 "com/example/shelfmark/shelfmark/model/QueryRefusedException" "details" "Ljava/lang/String;" .null := Da57 (Or.inr (w103 hw)) (ty := (.object "java/lang/String")) (by decide)
      refine Wk.dup (pc' := 347) C at_346 rfl rfl ?_
      refine Wk.aloadN (pc' := 348) C at_347 rfl rfl rfl ?_
      refine Wk.iload (pc' := 350) C at_348 rfl rfl ?_
      have X67 : Ext h32 h36 := Wk.Ext.wr (Z := Z) E34 W36 (Nat.le_of_eq ga33.symm)
      have X68 : Ext h32 h37 := Wk.Ext.wr (Z := Z) X67 W37 (Nat.le_of_eq ga33.symm)
      have X69 : Ext h32 h38 := Wk.Ext.wr (Z := Z) X68 W38 (Nat.le_of_eq ga33.symm)
      have X70 : Ext h32 h39 := Wk.Ext.wr (Z := Z) X69 W39 (Nat.le_of_eq ga33.symm)
      have X71 : Ext h32 h40 := Wk.Ext.wr (Z := Z) X70 W40 (Nat.le_of_eq ga33.symm)
      have X72 : Ext h32 h41 := Wk.Ext.wr (Z := Z) X71 W41 (Nat.le_of_eq ga33.symm)
      have X73 : Ext h32 h42 := Wk.Ext.wr (Z := Z) X72 W42 (Nat.le_of_eq ga33.symm)
      have X74 : Ext h32 h43 := Wk.Ext.wr (Z := Z) X73 W43 (Nat.le_of_eq ga33.symm)
      have X75 : Ext h32 h44 := Wk.Ext.wr (Z := Z) X74 W44 (Nat.le_of_eq ga33.symm)
      have X76 : Ext h32 h45 := Wk.Ext.wr (Z := Z) X75 W45 (Nat.le_of_eq ga33.symm)
      have X77 : Ext h32 h46 := Wk.Ext.wr (Z := Z) X76 W46 (Nat.le_of_eq ga33.symm)
      have X78 : Ext h32 h47 := Wk.Ext.wr (Z := Z) X77 W47 (Nat.le_of_eq ga33.symm)
      have X79 : Ext h32 h48 := Wk.Ext.wr (Z := Z) X78 W48 (Nat.le_of_eq ga33.symm)
      have X80 : Ext h32 h49 := Wk.Ext.wr (Z := Z) X79 W49 (Nat.le_of_eq ga33.symm)
      have X81 : Ext h32 h50 := Wk.Ext.wr (Z := Z) X80 W50 (Nat.le_of_eq ga33.symm)
      have X82 : Ext h32 h51 := Wk.Ext.wr (Z := Z) X81 W51 (Nat.le_of_eq ga33.symm)
      have X83 : Ext h32 h52 := Wk.Ext.wr (Z := Z) X82 W52 (Nat.le_of_eq ga33.symm)
      have X84 : Ext h32 h53 := Wk.Ext.wr (Z := Z) X83 W53 (Nat.le_of_eq ga33.symm)
      have X85 : Ext h32 h54 := Wk.Ext.wr (Z := Z) X84 W54 (Nat.le_of_eq ga33.symm)
      have X86 : Ext h32 he1x := Wk.Ext.trans X85 Ee1
      have X87 : Ext h32 he2x := Wk.Ext.trans X86 Ee2
      have X88 : Ext h32 h58 := Wk.Ext.trans X87 E58
      obtain ⟨rk, hrk⟩ : ∃ a, ([rz0, rz1, rz2, rz3, rz4, rz5, rz6, rz7, rz8, rz9, rz10, rz11, rz12, rz13, rz14, rz15, rz16, rz17, rz18] : List Addr).getD kN 0 = a := ⟨_, rfl⟩
      have Erk : Exa Z Z.heap rk "com/example/shelfmark/shelfmark/model/QueryRefusedException$Reason" := hrk ▸ EX kN hk
      have Frk : Fld Z Z.heap rk "java/lang/Enum" "ordinal" "I" (.int (Int32.ofNat kN)) := hrk ▸ FO kN hk
      refine Wk.aaload (pc' := 351) C at_350 (V32.ext X88) rfl (Wk.nn (by rw [(Wk.nat32 (n := kN) (by omega)).1]; omega)) (v := (.ref rk)) (show (([rz0, rz1, rz2, rz3, rz4, rz5, rz6, rz7, rz8, rz9, rz10, rz11, rz12, rz13, rz14, rz15, rz16, rz17, rz18] : List Addr).map Value.ref)[(Int32.ofNat kN).toNatClampNeg]? = _ from by rw [(Wk.nat32 (n := kN) (by omega)).2, ← hrk]; exact own_rget hk) rfl ?_
      refine Wk.aload (pc' := 353) C at_351 rfl he1 rfl ?_
      refine Wk.aload (pc' := 355) C at_353 rfl he2 rfl ?_
      refine Wk.callI (pc' := 358) C at_355 (a := a57) (Wk.Con.pays C (Wn := 1) (own_qInit l hw O58 hl uS sS SU SS a57 rk e1 e2 he1 he2 za57 Aa57 Ua57 F63) (w49 hw) (w46 hw) (by decide) (by decide)) Wk.cleanC rfl (w47 hw) (w48 hw) (w49 hw) (by decide) (argsL := [(.ref rk), e1, e2]) (st := [(.ref a57)]) rfl rfl (lenOf pd8 rfl) rfl (Nat.le_of_eq rfl) (k' := 10) rfl (n' := 2814) rfl (by decide) (by decide) rfl ?_
      intro r89 h90 Q90 O90
      obtain ⟨rfl, K90, A90, P90, D90, M90⟩ := Q90
      refine Wk.astore (pc' := 360) C at_358 rfl (Ls' := #[.val (.int p0), .val (.int p1), .val (.int p2), .val (.ref a11), .val (.ref a33), .val (.int (Int32.ofNat kN)), .val e1, .val e2, .val (.ref a57), .unset]) rfl rfl ?_
      refine Wk.aload (pc' := 362) C at_360 rfl rfl rfl ?_
      refine Wk.callS (pc' := 365) C at_362 (Wk.Con.pays C (Wn := 0) (own_of l hw O90 aM a57 rk kN e1 e2 he1 he2 SM VM hk A90 (Erk.ext O90) (Frk.ext O90) P90 D90 M90) (w107 hw) (w106 hw) (by decide) (by decide)) Wk.cleanC (w104 hw) (w105 hw) (w106 hw) (w107 hw) (by decide) (argsL := [(.ref a57)]) (st := []) rfl rfl (lenOf pd9 rfl) rfl (Nat.le_of_eq rfl) (k' := 11) rfl (n' := 2817) rfl (by decide) (by decide) rfl ?_
      intro r91 h92 Q92 O92
      obtain ⟨b93, rfl, gb93, E92, A92, P92, D92, M92⟩ := Q92
      refine Wk.astore (pc' := 367) C at_365 rfl (Ls' := #[.val (.int p0), .val (.int p1), .val (.int p2), .val (.ref a11), .val (.ref a33), .val (.int (Int32.ofNat kN)), .val e1, .val e2, .val (.ref a57), .val (.ref b93)]) rfl rfl ?_
      refine Wk.aload (pc' := 369) C at_367 rfl rfl rfl ?_
      refine Wk.callV (pc' := 372) C at_369 (a := b93) (Wk.Con.pays C (Wn := 0) (own_number l hw O92 b93 (numL.getD kN 0) P92) (w157 hw) (w106 hw) (by decide) (by decide)) Wk.cleanC A92 (w153 hw) (w154 hw) (notFace_of_selects (args := #[]) (mvT C.hZ (w156 hw))) (w156 hw) (w155 hw) (by decide) (argsL := []) (st := []) rfl rfl (lenOf pd4 rfl) rfl (Nat.le_of_eq rfl) (k' := 11) rfl (n' := 2817) rfl (by decide) (by decide) rfl ?_
      intro r94 h95 Q95 O95
      obtain ⟨rfl, e96⟩ := Q95
      obtain rfl := e96.symm
      refine Wk.aload (pc' := 374) C at_372 rfl rfl rfl ?_
      refine Wk.iload (pc' := 376) C at_374 rfl rfl ?_
      have X97 : Ext h54 he2x := Wk.Ext.trans Ee1 Ee2
      have X98 : Ext h54 h58 := Wk.Ext.trans X97 E58
      have X99 : Ext h54 h90 := Wk.Ext.keep1 (Z := Z) X98 K90 (Nat.le_trans X97.1 (Nat.le_of_eq ga57.symm))
      have X100 : Ext h54 h92 := Wk.Ext.trans X99 E92
      refine Wk.iaload (pc' := 377) C at_376 (V54.ext X100) (Wk.nn (by rw [(Wk.nat32 (n := kN) (by omega)).1]; omega)) (v := (.int (numL.getD kN 0))) (show (numL.map Value.int)[(Int32.ofNat kN).toNatClampNeg]? = _ from by rw [(Wk.nat32 (n := kN) (by omega)).2]; exact Wk.getd (by rw [own_numLen]; exact hk)) rfl ?_
      refine Wk.icmp_ne C at_377 (by decide) (pcT := 410) (by decide) (pc' := 380) rfl (fun q => absurd rfl q) (fun q101 => ?_)
      refine Wk.aload (pc' := 382) C at_380 rfl rfl rfl ?_
      refine Wk.callV (pc' := 385) C at_382 (a := b93) (Wk.Con.pays C (Wn := 0) (own_ddet l hw O92 b93 e1 he1 D92) (w162 hw) (w106 hw) (by decide) (by decide)) Wk.cleanC A92 (w158 hw) (w159 hw) (notFace_of_selects (args := #[]) (mvT C.hZ (w161 hw))) (w161 hw) (w160 hw) (by decide) (argsL := []) (st := []) rfl rfl (lenOf pd5 rfl) rfl (Nat.le_of_eq rfl) (k' := 11) rfl (n' := 2817) rfl (by decide) (by decide) rfl ?_
      intro r102 h103 Q103 O103
      obtain ⟨rfl, e104⟩ := Q103
      obtain rfl := e104.symm
      refine Wk.aload (pc' := 387) C at_385 rfl he1 rfl ?_
      have X105 : Ext he1x h58 := Wk.Ext.trans Ee2 E58
      have X106 : Ext he1x h90 := Wk.Ext.keep1 (Z := Z) X105 K90 (Nat.le_trans Ee2.1 (Nat.le_of_eq ga57.symm))
      have X107 : Ext he1x h92 := Wk.Ext.trans X106 E92
      refine Wk.callS (pc' := 390) C at_387 (Wk.Con.pays C (Wn := 0) (own_same l hw O92 (Ne1.ext X107)) (w166 hw) (w165 hw) (by decide) (by decide)) Wk.cleanC (w163 hw) (w164 hw) (w165 hw) (w166 hw) (by decide) (argsL := [e1, e1]) (st := []) rfl rfl (lenOf pd10 rfl) rfl (Nat.le_of_eq rfl) (k' := 11) rfl (n' := 2817) rfl (by decide) (by decide) rfl ?_
      intro r108 h109 Q109 O109
      obtain ⟨rfl, e110⟩ := Q109
      obtain rfl := e110.symm
      refine Wk.if_eq C at_390 (by decide) (pcT := 410) (by decide) (pc' := 393) rfl (fun q => absurd q (by decide)) (fun q111 => ?_)
      refine Wk.aload (pc' := 395) C at_393 rfl rfl rfl ?_
      refine Wk.callV (pc' := 398) C at_395 (a := b93) (Wk.Con.pays C (Wn := 0) (own_dmsg l hw O92 b93 e2 he2 M92) (w171 hw) (w106 hw) (by decide) (by decide)) Wk.cleanC A92 (w167 hw) (w168 hw) (notFace_of_selects (args := #[]) (mvT C.hZ (w170 hw))) (w170 hw) (w169 hw) (by decide) (argsL := []) (st := []) rfl rfl (lenOf pd5 rfl) rfl (Nat.le_of_eq rfl) (k' := 11) rfl (n' := 2817) rfl (by decide) (by decide) rfl ?_
      intro r112 h113 Q113 O113
      obtain ⟨rfl, e114⟩ := Q113
      obtain rfl := e114.symm
      refine Wk.aload (pc' := 400) C at_398 rfl he2 rfl ?_
      have X115 : Ext he2x h90 := Wk.Ext.keep1 (Z := Z) E58 K90 (Nat.le_of_eq ga57.symm)
      have X116 : Ext he2x h92 := Wk.Ext.trans X115 E92
      refine Wk.callS (pc' := 403) C at_400 (Wk.Con.pays C (Wn := 0) (own_same l hw O92 (Ne2.ext X116)) (w166 hw) (w165 hw) (by decide) (by decide)) Wk.cleanC (w163 hw) (w164 hw) (w165 hw) (w166 hw) (by decide) (argsL := [e2, e2]) (st := []) rfl rfl (lenOf pd10 rfl) rfl (Nat.le_of_eq rfl) (k' := 11) rfl (n' := 2817) rfl (by decide) (by decide) rfl ?_
      intro r117 h118 Q118 O118
      obtain ⟨rfl, e119⟩ := Q118
      obtain rfl := e119.symm
      refine Wk.if_eq C at_403 (by decide) (pcT := 410) (by decide) (pc' := 406) rfl (fun q => absurd q (by decide)) (fun q120 => ?_)
      refine Wk.iconst (pc' := 407) C at_406 (v := (1 : Int32)) rfl rfl ?_
      refine Wk.goto C at_407 (by decide) (pc' := 411) (by decide) ?_
      exact Wk.retNar (ty := .boolean) C (by simp) at_411 rfl (by decide) (by decide) rfl
    refine Wk.iloadN (pc' := 302) C at_301 rfl rfl ?_
    refine Wk.iconst (pc' := 303) C at_302 (v := (2 : Int32)) rfl rfl ?_
    obtain ⟨v121, hv121⟩ : ∃ z : Int32, p1 &&& (2 : Int32) = z := ⟨_, rfl⟩
    refine Wk.iand (pc' := 304) C at_303 hv121 rfl ?_
    refine Wk.if_ne C at_304 (by decide) (pcT := 343) (by decide) (pc' := 307) rfl (fun q122 => ?_) (fun q122 => ?_)
    · -- pc 304: taken
      refine Wk.Run.grow (k' := 8) (n' := 54) (by decide) (by decide) ?_
      exact J343 .null he1x (Wk.Ext.refl _) (Or.inl rfl) Oe1
    · -- pc 304: not taken
      refine Wk.newO (pc' := 310) C at_307 (w172 hw) (w173 hw) (w174 hw) (k' := 6) rfl (n' := 50) rfl (by decide) (by decide) rfl ?_
      intro a123 h124 ga123 za123 E124 Aa123 Da123 Ua123 O124
      have F125 : Fld Z h124 a123 "java/lang/String" "coder" "B" (.int (0 : Int32)) := Da123 (Or.inr (w197 hw)) (ty := .byte) (by decide)
      have F126 : Fld Z h124 a123 "java/lang/String" "value" "[B" .null := Da123 (Or.inr (w199 hw)) (ty := (.array .byte)) (by decide)
      refine Wk.dup (pc' := 311) C at_310 rfl rfl ?_
      refine Wk.iconst (pc' := 312) C at_311 (v := (2 : Int32)) rfl rfl ?_
      refine Wk.newA (pc' := 314) C at_312 (ty := .char) rfl (w175 hw) (by decide) (cap := 2) (by decide) (by decide) (k' := 7) rfl (n' := 52) rfl (by decide) (by decide) rfl rfl ?_
      intro a127 h128 ga127 za127 E128 Va127 O128
      have V129 : Wk.Ary Z h128 a127 .char [(.int (0 : Int32)), (.int (0 : Int32))] := Va127
      refine Wk.dup (pc' := 315) C at_314 rfl rfl ?_
      refine Wk.iconst (pc' := 316) C at_315 (v := (0 : Int32)) rfl rfl ?_
      refine Wk.iloadN (pc' := 317) C at_316 rfl rfl ?_
      refine Wk.bipush (pc' := 319) C at_317 (v := (16 : Int32)) rfl rfl ?_
      obtain ⟨v130, hv130⟩ : ∃ z : Int32, (p2.toUInt32 >>> ((16 : Int32) &&& 31).toUInt32).toInt32 = z := ⟨_, rfl⟩
      refine Wk.iushr (pc' := 320) C at_319 hv130 rfl ?_
      refine Wk.sipush (pc' := 323) C at_320 (v := (255 : Int32)) rfl rfl ?_
      obtain ⟨v131, hv131⟩ : ∃ z : Int32, v130 &&& (255 : Int32) = z := ⟨_, rfl⟩
      refine Wk.iand (pc' := 324) C at_323 hv131 rfl ?_
      obtain ⟨v132, hv132⟩ : ∃ z : Int32, v131.toUInt32.toUInt16.toUInt32.toInt32 = z := ⟨_, rfl⟩
      refine Wk.i2c (pc' := 325) C at_324 hv132 rfl ?_
      refine Wk.castore (pc' := 326) C at_325 V129 (by decide) (show _ < _ from Nat.le_of_ble_eq_true rfl) (Wk.nar_i2c hv132) (vs' := [(.int v132), (.int (0 : Int32))]) rfl za127 rfl ?_
      intro h133 W133 V133 O133
      refine Wk.dup (pc' := 327) C at_326 rfl rfl ?_
      refine Wk.iconst (pc' := 328) C at_327 (v := (1 : Int32)) rfl rfl ?_
      refine Wk.iloadN (pc' := 329) C at_328 rfl rfl ?_
      refine Wk.bipush (pc' := 331) C at_329 (v := (24 : Int32)) rfl rfl ?_
      obtain ⟨v134, hv134⟩ : ∃ z : Int32, (p2.toUInt32 >>> ((24 : Int32) &&& 31).toUInt32).toInt32 = z := ⟨_, rfl⟩
      refine Wk.iushr (pc' := 332) C at_331 hv134 rfl ?_
      refine Wk.sipush (pc' := 335) C at_332 (v := (255 : Int32)) rfl rfl ?_
      obtain ⟨v135, hv135⟩ : ∃ z : Int32, v134 &&& (255 : Int32) = z := ⟨_, rfl⟩
      refine Wk.iand (pc' := 336) C at_335 hv135 rfl ?_
      obtain ⟨v136, hv136⟩ : ∃ z : Int32, v135.toUInt32.toUInt16.toUInt32.toInt32 = z := ⟨_, rfl⟩
      refine Wk.i2c (pc' := 337) C at_336 hv136 rfl ?_
      refine Wk.castore (pc' := 338) C at_337 V133 (by decide) (show _ < _ from Nat.le_of_ble_eq_true rfl) (Wk.nar_i2c hv136) (vs' := [(.int v132), (.int v136)]) rfl za127 rfl ?_
      intro h137 W137 V137 O137
      have hp138 : ∀ c ∈ ([v132, v136] : List Int32), ¬ c < 0 ∧ ¬ (255 : Int32) < c := (List.forall_mem_cons.mpr ⟨(Wk.rng255 hv131 hv132), (List.forall_mem_cons.mpr ⟨(Wk.rng255 hv135 hv136), (fun _ h => nomatch h)⟩)⟩)
      have X139 : Ext h124 h133 := Wk.Ext.wr (Z := Z) E128 W133 (Nat.le_of_eq ga127.symm)
      have X140 : Ext h124 h137 := Wk.Ext.wr (Z := Z) X139 W137 (Nat.le_of_eq ga127.symm)
      refine Wk.callI (pc' := 341) C at_338 (a := a123) (strNew C hw hs O137 (cs := [v132, v136]) (n := 2) (Wn := 1) za123 (Aa123.ext X140) (F126.ext X140) (F125.ext X140) V137 rfl (by decide) (by decide) hp138 (by decide) (by decide)) (strNewC (n := 2) O137 za123 rfl (by decide) hp138) rfl (w176 hw) (w177 hw) (w178 hw) (by decide) (argsL := [(.ref a127)]) (st := [(.ref a123)]) rfl rfl (lenOf pd11 rfl) rfl (Nat.le_of_eq rfl) (k' := 8) rfl (n' := 54) rfl (by decide) (by decide) rfl ?_
      intro r141 h142 Q142 O142
      obtain ⟨rfl, Kh142, Sh142⟩ := Q142
      refine Wk.astore (pc' := 343) C at_341 rfl (Ls' := #[.val (.int p0), .val (.int p1), .val (.int p2), .val (.ref a11), .val (.ref a33), .val (.int (Int32.ofNat kN)), .val e1, .val (.ref a123), .unset, .unset]) rfl rfl ?_
      have X143 : Ext he1x h128 := Wk.Ext.trans E124 E128
      have X144 : Ext he1x h133 := Wk.Ext.wr (Z := Z) X143 W133 (Nat.le_trans E124.1 (Nat.le_of_eq ga127.symm))
      have X145 : Ext he1x h137 := Wk.Ext.wr (Z := Z) X144 W137 (Nat.le_trans E124.1 (Nat.le_of_eq ga127.symm))
      have X146 : Ext he1x h142 := Wk.Ext.keep1 (Z := Z) X145 Kh142 (Nat.le_of_eq ga123.symm)
      exact J343 (.ref a123) h142 X146 (Or.inr ⟨_, rfl, Sh142.exa⟩) O142
  refine Wk.iloadN (pc' := 260) C at_259 rfl rfl ?_
  refine Wk.iconst (pc' := 261) C at_260 (v := (1 : Int32)) rfl rfl ?_
  obtain ⟨v147, hv147⟩ : ∃ z : Int32, p1 &&& (1 : Int32) = z := ⟨_, rfl⟩
  refine Wk.iand (pc' := 262) C at_261 hv147 rfl ?_
  refine Wk.if_ne C at_262 (by decide) (pcT := 298) (by decide) (pc' := 265) rfl (fun q148 => ?_) (fun q148 => ?_)
  · -- pc 262: taken
    refine Wk.Run.grow (k' := 5) (n' := 46) (by decide) (by decide) ?_
    exact J298 .null h54 (Wk.Ext.refl _) (Or.inl rfl) O54
  · -- pc 262: not taken
    refine Wk.newO (pc' := 268) C at_265 (w172 hw) (w173 hw) (w174 hw) (k' := 3) rfl (n' := 42) rfl (by decide) (by decide) rfl ?_
    intro a149 h150 ga149 za149 E150 Aa149 Da149 Ua149 O150
    have F151 : Fld Z h150 a149 "java/lang/String" "coder" "B" (.int (0 : Int32)) := Da149 (Or.inr (w197 hw)) (ty := .byte) (by decide)
    have F152 : Fld Z h150 a149 "java/lang/String" "value" "[B" .null := Da149 (Or.inr (w199 hw)) (ty := (.array .byte)) (by decide)
    refine Wk.dup (pc' := 269) C at_268 rfl rfl ?_
    refine Wk.iconst (pc' := 270) C at_269 (v := (2 : Int32)) rfl rfl ?_
    refine Wk.newA (pc' := 272) C at_270 (ty := .char) rfl (w175 hw) (by decide) (cap := 2) (by decide) (by decide) (k' := 4) rfl (n' := 44) rfl (by decide) (by decide) rfl rfl ?_
    intro a153 h154 ga153 za153 E154 Va153 O154
    have V155 : Wk.Ary Z h154 a153 .char [(.int (0 : Int32)), (.int (0 : Int32))] := Va153
    refine Wk.dup (pc' := 273) C at_272 rfl rfl ?_
    refine Wk.iconst (pc' := 274) C at_273 (v := (0 : Int32)) rfl rfl ?_
    refine Wk.iloadN (pc' := 275) C at_274 rfl rfl ?_
    refine Wk.sipush (pc' := 278) C at_275 (v := (255 : Int32)) rfl rfl ?_
    obtain ⟨v156, hv156⟩ : ∃ z : Int32, p2 &&& (255 : Int32) = z := ⟨_, rfl⟩
    refine Wk.iand (pc' := 279) C at_278 hv156 rfl ?_
    obtain ⟨v157, hv157⟩ : ∃ z : Int32, v156.toUInt32.toUInt16.toUInt32.toInt32 = z := ⟨_, rfl⟩
    refine Wk.i2c (pc' := 280) C at_279 hv157 rfl ?_
    refine Wk.castore (pc' := 281) C at_280 V155 (by decide) (show _ < _ from Nat.le_of_ble_eq_true rfl) (Wk.nar_i2c hv157) (vs' := [(.int v157), (.int (0 : Int32))]) rfl za153 rfl ?_
    intro h158 W158 V158 O158
    refine Wk.dup (pc' := 282) C at_281 rfl rfl ?_
    refine Wk.iconst (pc' := 283) C at_282 (v := (1 : Int32)) rfl rfl ?_
    refine Wk.iloadN (pc' := 284) C at_283 rfl rfl ?_
    refine Wk.bipush (pc' := 286) C at_284 (v := (8 : Int32)) rfl rfl ?_
    obtain ⟨v159, hv159⟩ : ∃ z : Int32, (p2.toUInt32 >>> ((8 : Int32) &&& 31).toUInt32).toInt32 = z := ⟨_, rfl⟩
    refine Wk.iushr (pc' := 287) C at_286 hv159 rfl ?_
    refine Wk.sipush (pc' := 290) C at_287 (v := (255 : Int32)) rfl rfl ?_
    obtain ⟨v160, hv160⟩ : ∃ z : Int32, v159 &&& (255 : Int32) = z := ⟨_, rfl⟩
    refine Wk.iand (pc' := 291) C at_290 hv160 rfl ?_
    obtain ⟨v161, hv161⟩ : ∃ z : Int32, v160.toUInt32.toUInt16.toUInt32.toInt32 = z := ⟨_, rfl⟩
    refine Wk.i2c (pc' := 292) C at_291 hv161 rfl ?_
    refine Wk.castore (pc' := 293) C at_292 V158 (by decide) (show _ < _ from Nat.le_of_ble_eq_true rfl) (Wk.nar_i2c hv161) (vs' := [(.int v157), (.int v161)]) rfl za153 rfl ?_
    intro h162 W162 V162 O162
    have hp163 : ∀ c ∈ ([v157, v161] : List Int32), ¬ c < 0 ∧ ¬ (255 : Int32) < c := (List.forall_mem_cons.mpr ⟨(Wk.rng255 hv156 hv157), (List.forall_mem_cons.mpr ⟨(Wk.rng255 hv160 hv161), (fun _ h => nomatch h)⟩)⟩)
    have X164 : Ext h150 h158 := Wk.Ext.wr (Z := Z) E154 W158 (Nat.le_of_eq ga153.symm)
    have X165 : Ext h150 h162 := Wk.Ext.wr (Z := Z) X164 W162 (Nat.le_of_eq ga153.symm)
    refine Wk.callI (pc' := 296) C at_293 (a := a149) (strNew C hw hs O162 (cs := [v157, v161]) (n := 2) (Wn := 1) za149 (Aa149.ext X165) (F152.ext X165) (F151.ext X165) V162 rfl (by decide) (by decide) hp163 (by decide) (by decide)) (strNewC (n := 2) O162 za149 rfl (by decide) hp163) rfl (w176 hw) (w177 hw) (w178 hw) (by decide) (argsL := [(.ref a153)]) (st := [(.ref a149)]) rfl rfl (lenOf pd11 rfl) rfl (Nat.le_of_eq rfl) (k' := 5) rfl (n' := 46) rfl (by decide) (by decide) rfl ?_
    intro r166 h167 Q167 O167
    obtain ⟨rfl, Kh167, Sh167⟩ := Q167
    refine Wk.astore (pc' := 298) C at_296 rfl (Ls' := #[.val (.int p0), .val (.int p1), .val (.int p2), .val (.ref a11), .val (.ref a33), .val (.int (Int32.ofNat kN)), .val (.ref a149), .unset, .unset, .unset]) rfl rfl ?_
    have X168 : Ext h54 h154 := Wk.Ext.trans E150 E154
    have X169 : Ext h54 h158 := Wk.Ext.wr (Z := Z) X168 W158 (Nat.le_trans E150.1 (Nat.le_of_eq ga153.symm))
    have X170 : Ext h54 h162 := Wk.Ext.wr (Z := Z) X169 W162 (Nat.le_trans E150.1 (Nat.le_of_eq ga153.symm))
    have X171 : Ext h54 h167 := Wk.Ext.keep1 (Z := Z) X170 Kh167 (Nat.le_of_eq ga149.symm)
    exact J298 (.ref a149) h167 X171 (Or.inr ⟨_, rfl, Sh167.exa⟩) O167
set_option maxRecDepth 65536 in
set_option maxHeartbeats 40000000 in
theorem comes_1 {Post : Tables → Env → Array Value → State → Outcome → State → Prop} (hpost : ∀ tb e args s v u, (limb_1_1.after args s (.returned v) u = true ∧ limb_1_2.after args s (.returned v) u = true ∧ True) → FrameEnd s (.returned v) u (Jvm.fieldLocs frame_1_writes args s ++ Jvm.arrayLocs frame_1_arrays args s ++ Jvm.staticLocs frame_1_statics s) 32 5760 → Post tb e args s (.returned v) u) :
    ArmFor flags0 classFile x code maxLocals ret World_1 tables_1 room_1 Calls_1 rest_1 Pre_1 Post := by
  intro l hfl _ _ p e ha hc hk s m args below hf hA hF happ hP
  obtain ⟨hcalls, hrest, hpre⟩ := hP
  obtain ⟨-, -, -, hnamed, -, -, -, hat⟩ := (Spec.applies_iff hf).mp happ
  obtain ⟨hg, hn⟩ := and_e (Cond.before_iff.mp (show (Jvm.Cond.and given_1 narrow_1).before args s = true from hpre))
  obtain ⟨gc0, gr0⟩ := and_e hg
  obtain ⟨gc1, gr1⟩ := and_e gr0
  obtain ⟨gc2, gr2⟩ := and_e gr1
  obtain ⟨w0, w1, w2, rfl⟩ : ∃ w0 w1 w2 : Value, args = #[w0, w1, w2] := by
    have hs : args.size = 3 := by simpa [Cond.value, given_1] using gc0
    obtain ⟨L⟩ := args
    match L, hs with
    | [w0, w1, w2], _ => exact ⟨w0, w1, w2, rfl⟩
  have hw : Ws _ s := fun d (hd : d ∈ tables_1) => atoms_spec (ws := Jvm.Cond.code x code maxLocals ret :: tables_1) hat d (List.mem_cons_of_mem _ hd)
  have hfit : Fit s := fun {y c} hc i hi => by
    obtain ⟨ha, rfl⟩ := Array.getElem?_eq_some_iff.mp hc
    have q := List.all_eq_true.mp ((Array.all_eq_true_iff_forall_mem.mp hF) _ (Array.getElem_mem ha)) i (List.mem_range.mpr hi)
    simpa [Array.getElem?_eq_getElem hi] using q
  obtain ⟨i0, ei0⟩ := is_v gc1
  obtain rfl : w0 = (.int i0) := Option.some.inj ei0
  obtain ⟨i1, ei1⟩ := is_v gc2
  obtain rfl : w1 = (.int i1) := Option.some.inj ei1
  obtain ⟨i2, ei2⟩ := is_v gr2
  obtain rfl : w2 = (.int i2) := Option.some.inj ei2
  obtain ⟨hsets, hown0⟩ := atoms_of _ (rest_1_c_eq ▸ (show rest_1_c.before _ s = true from hrest))
  have hS : Sets s := by
    have n5 := not_v (Cond.before_iff.mp (hsets _ (List.mem_of_getElem? (i := 22) rfl)))
    obtain ⟨zc, ez⟩ := is_v (Cond.before_iff.mp (hsets _ (List.mem_of_getElem? (i := 21) rfl)))
    obtain ⟨fm, ef, rf⟩ := isR_v (Cond.before_iff.mp (hsets _ (List.mem_of_getElem? (i := 28) rfl)))
    exact ⟨zc, fm, Sta.start ez (Or.inl (hsets _ (List.mem_of_getElem? (i := 20) rfl))), gotF (Cond.eq_ints ez (Term.int_eval (0))) n5, Sta.start ef (Or.inl (hsets _ (List.mem_of_getElem? (i := 27) rfl))), rf⟩
  obtain ⟨nw0, nr0⟩ := and_e hn
  obtain ⟨nw1, nr1⟩ := and_e nr0
  obtain ⟨nw2, nr2⟩ := and_e nr1
  obtain ⟨nw3, nr3⟩ := and_e nr2
  obtain ⟨nw4, nr4⟩ := and_e nr3
  obtain ⟨nw5, nr5⟩ := and_e nr4
  obtain ⟨nw6, nr6⟩ := and_e nr5
  obtain ⟨nw7, nr7⟩ := and_e nr6
  obtain ⟨nw8, nr8⟩ := and_e nr7
  obtain ⟨nw9, nr9⟩ := and_e nr8
  obtain ⟨nw10, nr10⟩ := and_e nr9
  obtain ⟨nw11, nr11⟩ := and_e nr10
  obtain ⟨nw12, nr12⟩ := and_e nr11
  obtain ⟨nw13, nr13⟩ := and_e nr12
  obtain ⟨nw14, nr14⟩ := and_e nr13
  obtain ⟨nw15, nr15⟩ := and_e nr14
  obtain ⟨nw16, nr16⟩ := and_e nr15
  obtain ⟨nw17, nr17⟩ := and_e nr16
  obtain ⟨nw18, nr18⟩ := and_e nr17
  obtain ⟨nw19, nr19⟩ := and_e nr18
  obtain ⟨nw20, nr20⟩ := and_e nr19
  obtain ⟨nw21, nr21⟩ := and_e nr20
  obtain ⟨nw22, nr22⟩ := and_e nr21
  obtain ⟨nw23, nr23⟩ := and_e nr22
  obtain ⟨nw24, nr24⟩ := and_e nr23
  obtain ⟨nw25, nr25⟩ := and_e nr24
  obtain ⟨nw26, nr26⟩ := and_e nr25
  obtain ⟨nw27, nr27⟩ := and_e nr26
  obtain ⟨nw28, nr28⟩ := and_e nr27
  obtain ⟨nw29, nr29⟩ := and_e nr28
  obtain ⟨nw30, nr30⟩ := and_e nr29
  obtain ⟨nw31, nr31⟩ := and_e nr30
  obtain ⟨nw32, nr32⟩ := and_e nr31
  obtain ⟨nw33, nr33⟩ := and_e nr32
  obtain ⟨nw34, nr34⟩ := and_e nr33
  obtain ⟨nw35, nr35⟩ := and_e nr34
  obtain ⟨nw36, nr36⟩ := and_e nr35
  obtain ⟨nw37, nr37⟩ := and_e nr36
  obtain ⟨nw38, nr38⟩ := and_e nr37
  obtain ⟨nw39, nr39⟩ := and_e nr38
  obtain ⟨nw40, nr40⟩ := and_e nr39
  obtain ⟨nw41, nr41⟩ := and_e nr40
  obtain ⟨nw42, nr42⟩ := and_e nr41
  obtain ⟨nw43, nr43⟩ := and_e nr42
  obtain ⟨nw44, nr44⟩ := and_e nr43
  obtain ⟨nw45, nr45⟩ := and_e nr44
  obtain ⟨nw46, nr46⟩ := and_e nr45
  obtain ⟨nw47, nr47⟩ := and_e nr46
  obtain ⟨nw48, nr48⟩ := and_e nr47
  obtain ⟨nw49, nr49⟩ := and_e nr48
  obtain ⟨nw50, nr50⟩ := and_e nr49
  obtain ⟨nw51, nr51⟩ := and_e nr50
  obtain ⟨nw52, nr52⟩ := and_e nr51
  obtain ⟨nw53, nr53⟩ := and_e nr52
  obtain ⟨nw54, nr54⟩ := and_e nr53
  have hl : l.stackTraces = true := by unfold Launch.stackTraces; rw [hfl]; decide
  obtain ⟨uS, euS⟩ := arr_v (Cond.before_iff.mp (hsets _ (List.mem_of_getElem? (i := 8) rfl)))
  obtain ⟨sS, esS⟩ := exa_v (Cond.before_iff.mp (hsets _ (List.mem_of_getElem? (i := 13) rfl)))
  have SU := Sta.start euS (Or.inr ⟨(w59 hw), (w92 hw)⟩)
  have SS := Sta.start esS (Or.inr ⟨(w59 hw), (w93 hw)⟩)
  obtain ⟨rz0, er0⟩ := exa_v nw0
  have ER0 := Exa.start er0 nw0
  have S0 := Sta.start er0 (Or.inr ⟨(w3 hw), (w4 hw)⟩)
  have FR0 := Wk.ord er0 nw21
  obtain ⟨rz1, er1⟩ := exa_v nw1
  have ER1 := Exa.start er1 nw1
  have S1 := Sta.start er1 (Or.inr ⟨(w3 hw), (w7 hw)⟩)
  have FR1 := Wk.ord er1 nw22
  obtain ⟨rz2, er2⟩ := exa_v nw2
  have ER2 := Exa.start er2 nw2
  have S2 := Sta.start er2 (Or.inr ⟨(w3 hw), (w9 hw)⟩)
  have FR2 := Wk.ord er2 nw30
  obtain ⟨rz3, er3⟩ := exa_v nw3
  have ER3 := Exa.start er3 nw3
  have S3 := Sta.start er3 (Or.inr ⟨(w3 hw), (w11 hw)⟩)
  have FR3 := Wk.ord er3 nw26
  obtain ⟨rz4, er4⟩ := exa_v nw4
  have ER4 := Exa.start er4 nw4
  have S4 := Sta.start er4 (Or.inr ⟨(w3 hw), (w13 hw)⟩)
  have FR4 := Wk.ord er4 nw38
  obtain ⟨rz5, er5⟩ := exa_v nw5
  have ER5 := Exa.start er5 nw5
  have S5 := Sta.start er5 (Or.inr ⟨(w3 hw), (w15 hw)⟩)
  have FR5 := Wk.ord er5 nw34
  obtain ⟨rz6, er6⟩ := exa_v nw6
  have ER6 := Exa.start er6 nw6
  have S6 := Sta.start er6 (Or.inr ⟨(w3 hw), (w17 hw)⟩)
  have FR6 := Wk.ord er6 nw37
  obtain ⟨rz7, er7⟩ := exa_v nw7
  have ER7 := Exa.start er7 nw7
  have S7 := Sta.start er7 (Or.inr ⟨(w3 hw), (w19 hw)⟩)
  have FR7 := Wk.ord er7 nw32
  obtain ⟨rz8, er8⟩ := exa_v nw8
  have ER8 := Exa.start er8 nw8
  have S8 := Sta.start er8 (Or.inr ⟨(w3 hw), (w21 hw)⟩)
  have FR8 := Wk.ord er8 nw25
  obtain ⟨rz9, er9⟩ := exa_v nw9
  have ER9 := Exa.start er9 nw9
  have S9 := Sta.start er9 (Or.inr ⟨(w3 hw), (w23 hw)⟩)
  have FR9 := Wk.ord er9 nw35
  obtain ⟨rz10, er10⟩ := exa_v nw10
  have ER10 := Exa.start er10 nw10
  have S10 := Sta.start er10 (Or.inr ⟨(w3 hw), (w25 hw)⟩)
  have FR10 := Wk.ord er10 nw27
  obtain ⟨rz11, er11⟩ := exa_v nw11
  have ER11 := Exa.start er11 nw11
  have S11 := Sta.start er11 (Or.inr ⟨(w3 hw), (w27 hw)⟩)
  have FR11 := Wk.ord er11 nw24
  obtain ⟨rz12, er12⟩ := exa_v nw12
  have ER12 := Exa.start er12 nw12
  have S12 := Sta.start er12 (Or.inr ⟨(w3 hw), (w29 hw)⟩)
  have FR12 := Wk.ord er12 nw23
  obtain ⟨rz13, er13⟩ := exa_v nw13
  have ER13 := Exa.start er13 nw13
  have S13 := Sta.start er13 (Or.inr ⟨(w3 hw), (w31 hw)⟩)
  have FR13 := Wk.ord er13 nw33
  obtain ⟨rz14, er14⟩ := exa_v nw14
  have ER14 := Exa.start er14 nw14
  have S14 := Sta.start er14 (Or.inr ⟨(w3 hw), (w33 hw)⟩)
  have FR14 := Wk.ord er14 nw31
  obtain ⟨rz15, er15⟩ := exa_v nw15
  have ER15 := Exa.start er15 nw15
  have S15 := Sta.start er15 (Or.inr ⟨(w3 hw), (w35 hw)⟩)
  have FR15 := Wk.ord er15 nw36
  obtain ⟨rz16, er16⟩ := exa_v nw16
  have ER16 := Exa.start er16 nw16
  have S16 := Sta.start er16 (Or.inr ⟨(w3 hw), (w37 hw)⟩)
  have FR16 := Wk.ord er16 nw28
  obtain ⟨rz17, er17⟩ := exa_v nw17
  have ER17 := Exa.start er17 nw17
  have S17 := Sta.start er17 (Or.inr ⟨(w3 hw), (w39 hw)⟩)
  have FR17 := Wk.ord er17 nw29
  obtain ⟨rz18, er18⟩ := exa_v nw18
  have ER18 := Exa.start er18 nw18
  have S18 := Sta.start er18 (Or.inr ⟨(w3 hw), (w41 hw)⟩)
  have FR18 := Wk.ord er18 nw39
  have EX : ∀ i, i < 19 → Exa s s.heap ([rz0, rz1, rz2, rz3, rz4, rz5, rz6, rz7, rz8, rz9, rz10, rz11, rz12, rz13, rz14, rz15, rz16, rz17, rz18].getD i 0) "com/example/shelfmark/shelfmark/model/QueryRefusedException$Reason" := by
    intro i hi
    have q : i = 0 ∨ i = 1 ∨ i = 2 ∨ i = 3 ∨ i = 4 ∨ i = 5 ∨ i = 6 ∨ i = 7 ∨ i = 8 ∨ i = 9 ∨ i = 10 ∨ i = 11 ∨ i = 12 ∨ i = 13 ∨ i = 14 ∨ i = 15 ∨ i = 16 ∨ i = 17 ∨ i = 18 := by omega
    rcases q with rfl | rfl | rfl | rfl | rfl | rfl | rfl | rfl | rfl | rfl | rfl | rfl | rfl | rfl | rfl | rfl | rfl | rfl | rfl
    · exact ER0
    · exact ER1
    · exact ER2
    · exact ER3
    · exact ER4
    · exact ER5
    · exact ER6
    · exact ER7
    · exact ER8
    · exact ER9
    · exact ER10
    · exact ER11
    · exact ER12
    · exact ER13
    · exact ER14
    · exact ER15
    · exact ER16
    · exact ER17
    · exact ER18
  have FO : ∀ i, i < 19 → Fld s s.heap ([rz0, rz1, rz2, rz3, rz4, rz5, rz6, rz7, rz8, rz9, rz10, rz11, rz12, rz13, rz14, rz15, rz16, rz17, rz18].getD i 0) "java/lang/Enum" "ordinal" "I" (.int (Int32.ofNat i)) := by
    intro i hi
    have q : i = 0 ∨ i = 1 ∨ i = 2 ∨ i = 3 ∨ i = 4 ∨ i = 5 ∨ i = 6 ∨ i = 7 ∨ i = 8 ∨ i = 9 ∨ i = 10 ∨ i = 11 ∨ i = 12 ∨ i = 13 ∨ i = 14 ∨ i = 15 ∨ i = 16 ∨ i = 17 ∨ i = 18 := by omega
    rcases q with rfl | rfl | rfl | rfl | rfl | rfl | rfl | rfl | rfl | rfl | rfl | rfl | rfl | rfl | rfl | rfl | rfl | rfl | rfl
    · exact FR0
    · exact FR1
    · exact FR2
    · exact FR3
    · exact FR4
    · exact FR5
    · exact FR6
    · exact FR7
    · exact FR8
    · exact FR9
    · exact FR10
    · exact FR11
    · exact FR12
    · exact FR13
    · exact FR14
    · exact FR15
    · exact FR16
    · exact FR17
    · exact FR18
  obtain ⟨aM, eM⟩ := arr_v nw19
  obtain ⟨cM, AM⟩ := Arr.start eM nw19
  have SM := Sta.start eM (Or.inr ⟨(w109 hw), (w110 hw)⟩)
  have hn := Wk.lenS eM AM nw20
  have hsz : cM.slots.size = 19 := (Int32.toNatClampNeg_ofNat_of_lt hn.1).symm.trans (congrArg Int32.toNatClampNeg hn.2)
  have x0 : cM.slots[0]? = some (.int (1 : Int32)) := Wk.elemL eM AM (i := 0) (by decide) (by decide) ((Wk.orE (Cond.all_elim eM (AM.fin (Vm.Alike.refl _)) nw40 0 (by omega))).resolve_left (fun z => absurd (gotT (Cond.le_ints (Term.int_eval _) (show (Term.index 0).eval _ s none [0] s = some (.int (Nat.toInt32 0)) from rfl)) z) (by decide)))
  have x1 : cM.slots[1]? = some (.int (2 : Int32)) := Wk.elemL eM AM (i := 1) (by decide) (by decide) ((Wk.orE (Cond.all_elim eM (AM.fin (Vm.Alike.refl _)) nw40 1 (by omega))).resolve_left (fun z => absurd (gotT (Cond.le_ints (Term.int_eval _) (show (Term.index 0).eval _ s none [1] s = some (.int (Nat.toInt32 1)) from rfl)) z) (by decide)))
  have x2 : cM.slots[2]? = some (.int (3 : Int32)) := Wk.elemL eM AM (i := 2) (by decide) (by decide) ((Wk.orE (Cond.all_elim eM (AM.fin (Vm.Alike.refl _)) nw40 2 (by omega))).resolve_left (fun z => absurd (gotT (Cond.le_ints (Term.int_eval _) (show (Term.index 0).eval _ s none [2] s = some (.int (Nat.toInt32 2)) from rfl)) z) (by decide)))
  have x3 : cM.slots[3]? = some (.int (4 : Int32)) := Wk.elemL eM AM (i := 3) (by decide) (by decide) ((Wk.orE (Cond.all_elim eM (AM.fin (Vm.Alike.refl _)) nw40 3 (by omega))).resolve_left (fun z => absurd (gotT (Cond.le_ints (Term.int_eval _) (show (Term.index 0).eval _ s none [3] s = some (.int (Nat.toInt32 3)) from rfl)) z) (by decide)))
  have x4 : cM.slots[4]? = some (.int (7 : Int32)) := Wk.elemS eM AM nw41
  have x5 : cM.slots[5]? = some (.int (5 : Int32)) := Wk.elemS eM AM nw42
  have x6 : cM.slots[6]? = some (.int (6 : Int32)) := Wk.elemS eM AM nw43
  have x7 : cM.slots[7]? = some (.int (19 : Int32)) := Wk.elemS eM AM nw44
  have x8 : cM.slots[8]? = some (.int (11 : Int32)) := Wk.elemS eM AM nw45
  have x9 : cM.slots[9]? = some (.int (14 : Int32)) := Wk.elemS eM AM nw46
  have x10 : cM.slots[10]? = some (.int (10 : Int32)) := Wk.elemS eM AM nw47
  have x11 : cM.slots[11]? = some (.int (9 : Int32)) := Wk.elemS eM AM nw48
  have x12 : cM.slots[12]? = some (.int (15 : Int32)) := Wk.elemS eM AM nw49
  have x13 : cM.slots[13]? = some (.int (12 : Int32)) := Wk.elemS eM AM nw50
  have x14 : cM.slots[14]? = some (.int (8 : Int32)) := Wk.elemS eM AM nw51
  have x15 : cM.slots[15]? = some (.int (13 : Int32)) := Wk.elemS eM AM nw52
  have x16 : cM.slots[16]? = some (.int (16 : Int32)) := Wk.elemS eM AM nw53
  have x17 : cM.slots[17]? = some (.int (17 : Int32)) := Wk.elemS eM AM nw54
  have x18 : cM.slots[18]? = some (.int (18 : Int32)) := Wk.elemS eM AM nr54
  have VM : Wk.Ary s s.heap aM .int (smL.map Value.int) := Wk.aryS AM hn rfl ⟨x0, x1, x2, x3, x4, x5, x6, x7, x8, x9, x10, x11, x12, x13, x14, x15, x16, x17, x18, trivial⟩ (by intro v hv; obtain ⟨z, -, rfl⟩ := List.mem_map.mp hv; rfl)
  obtain ⟨n, o, h1, h2, h3, _, L, rfl, ⟨rfl, -, N⟩, hq⟩ := own_law l hw hl uS sS SU SS i0 i1 i2 rz0 rz1 rz2 rz3 rz4 rz5 rz6 rz7 rz8 rz9 rz10 rz11 rz12 rz13 rz14 rz15 rz16 rz17 rz18 aM hS S0 S1 S2 S3 S4 S5 S6 S7 S8 S9 S10 S11 S12 S13 S14 S15 S16 S17 S18 SM VM EX FO tables_1 p e ha hc hk s m _ below hf ((Spec.applies_iff_loose hf).mp happ).1 ⟨rfl, State.Warmed39.refl s, rfl⟩ ⟨Wk.tkOf hcalls.2.1, Wk.fkOf hcalls.1 hf⟩
  refine ⟨n, _, h1, h2, h3, hpost _ _ _ _ _ _ ⟨Cond.after_iff.mpr rfl, Cond.after_iff.mpr (eq_i res_at (Term.int_eval (1)) rfl), trivial⟩ ⟨hq.1, hq.2.1, (hq.2.2.sift fun y hy => Or.inr (N y hy)).mono (by decide) (by decide)⟩⟩
theorem main_1_1 : Claimed_1_1 := comes_1 fun _ _ _ _ _ _ h hF => ⟨h.1, hF⟩
theorem main_1_2 : Claimed_1_2 := comes_1 fun _ _ _ _ _ _ h hF => ⟨h.2.1, hF⟩
end Jvm.Pilot.@@N@@
namespace Jvm.Pilot.@@N@@
open Jvm Jvm.ClassFile Sem Op Lib Jvm.Free Jvm.Stand Jvm.Pilot.@@N@@.Jvm.D
/-! MADE BY PROGRAM (witnessworld.py) out of the Statement's table words and the real class files: 41 classes; the members and pool entries that the words name. The judged class is class 1, her method 1. -/
namespace start1
open Jvm.ClassFile
def u (s : String) : CpInfo := .utf8 (stringToUtf16 s)
/-- a pool by its gaps: so many unusable entries, then the entry; so many at the end -/
def gap : Nat → List CpInfo → List CpInfo
  | 0, r => r
  | n + 1, r => .unusable :: gap n r
def poolList (es : List (Nat × CpInfo)) (last : Nat) : List CpInfo := es.foldr (fun e r => gap e.1 (e.2 :: r)) (gap last [])
def pool (es : List (Nat × CpInfo)) (last : Nat) : Array CpInfo := ⟨poolList es last⟩
def fileOf (pool : Array CpInfo) (this : Nat) (attrs : Array Attribute := #[]) (ms : Array MethodInfo := #[]) (fl : Nat := 33) (sup : Nat := 0) (ifs : Array Nat := #[]) (fds : Array FieldInfo := #[]) : ClassFile where
  minorVersion := 0
  majorVersion := 65
  constantPool := pool
  accessFlags := fl
  thisClass := this
  superClass := sup
  interfaces := ifs
  fields := fds
  methods := ms
  attributes := attrs
def plain (name : String) (sup : Option ClassId) : Class where
  name := name
  kind := .ordinary
  loader := none
  accessFlags := 33
  super := sup
  interfaces := #[]
  cf := none
  fields := #[]
  methods := #[]
  instanceTypes := #[]
  staticTypes := #[]
  resolved := #[]
  callSites := []
  init := .initialized
  statics := none
  mirror := none

def pool0 : Array CpInfo := pool [(5, u "<init>"), (0, u "()V"), (1, .class_ 10), (1, u "java/lang/Object")] 113

def k0c0 : Code := { maxStack := 0, maxLocals := 1, code := object_method_1_code, exceptionTable := #[], attributes := #[] }
def k0m0 : Method := { name := "<init>", desc := "()V", sig := { parameters := [], returnType := none }, accessFlags := 1, code := some k0c0 }
/-- java/lang/Object -/
def k0 : Class := { plain "java/lang/Object" none with
  accessFlags := 33
  interfaces := #[]
  cf := some (fileOf pool0 8 #[] #[{ accessFlags := 1, nameIndex := 5, descriptorIndex := 6, attributes := #[] }] 33 0 #[] #[])
  fields := #[]
  methods := #[k0m0]
  instanceTypes := #[]
  staticTypes := #[]
  resolved := Array.replicate 124 none
  statics := none }

def pool1 : Array CpInfo := pool [(2, .class_ 4), (1, u "java/lang/Object"), (0, u "<init>"), (0, u "()V"), (0, .class_ 8), (0, u "com/example/shelfmark/shelfmark/model/QueryRefusedException$Reason"), (0, .fieldref 7 10), (0, .nameAndType 11 12), (0, u "SYNTAX_ERROR"), (0, u "Lcom/example/shelfmark/shelfmark/model/QueryRefusedException$Reason;"), (0, .fieldref 7 14), (0, .nameAndType 15 12), (0, u "UNKNOWN_CONTEXT_SET"), (0, .fieldref 7 17), (0, .nameAndType 18 12), (0, u "UNKNOWN_INDEX"), (0, .fieldref 7 20), (0, .nameAndType 21 12), (0, u "UNSUPPORTED_RELATION"), (0, .fieldref 7 23), (0, .nameAndType 24 12), (0, u "UNSUPPORTED_RELATION_FOR_INDEX"), (0, .fieldref 7 26), (0, .nameAndType 27 12), (0, u "UNSUPPORTED_RELATION_MODIFIER"), (0, .fieldref 7 29), (0, .nameAndType 30 12), (0, u "UNSUPPORTED_SORT_MODIFIER"), (0, .fieldref 7 32), (0, .nameAndType 33 12), (0, u "UNSORTABLE_INDEX"), (0, .fieldref 7 35), (0, .nameAndType 36 12), (0, u "MASKING_UNSUPPORTED"), (0, .fieldref 7 38), (0, .nameAndType 39 12), (0, u "ANCHORING_UNSUPPORTED"), (0, .fieldref 7 41), (0, .nameAndType 42 12), (0, u "EMPTY_TERM"), (0, .fieldref 7 44), (0, .nameAndType 45 12), (0, u "UNSUPPORTED_TERM_FOR_RELATION"), (0, .fieldref 7 47), (0, .nameAndType 48 12), (0, u "INVALID_TERM"), (0, .fieldref 7 50), (0, .nameAndType 51 12), (0, u "MASK_TOO_BROAD"), (0, .fieldref 7 53), (0, .nameAndType 54 12), (0, u "MASKED_TERM_TOO_LONG"), (0, .fieldref 7 56), (0, .nameAndType 57 12), (0, u "TOO_MANY_MASKS"), (0, .fieldref 7 59), (0, .nameAndType 60 12), (0, u "TOO_MANY_BOOLEANS"), (0, .fieldref 7 62), (0, .nameAndType 63 12), (0, u "PROXIMITY_UNSUPPORTED"), (0, .fieldref 7 65), (0, .nameAndType 66 12), (0, u "UNSUPPORTED_BOOLEAN_MODIFIER"), (0, .integer 2147483647), (0, .class_ 69), (0, u "java/lang/String"), (0, .methodref 68 71), (0, .nameAndType 5 72), (0, u "([C)V"), (0, .class_ 74), (0, u "com/example/shelfmark/shelfmark/model/QueryRefusedException"), (0, .methodref 73 76), (0, .nameAndType 5 77), (0, u "(Lcom/example/shelfmark/shelfmark/model/QueryRefusedException$Reason;Ljava/lang/String;Ljava/lang/String;)V"), (0, .methodref 79 80), (0, .class_ 81), (0, .nameAndType 82 83), (0, u "com/example/shelfmark/shelfmark/protocol/Diagnostic"), (0, u "of"), (0, u "(Lcom/example/shelfmark/shelfmark/model/QueryRefusedException;)Lcom/example/shelfmark/shelfmark/protocol/Diagnostic;"), (0, .methodref 79 85), (0, .nameAndType 86 87), (0, u "number"), (0, u "()I"), (0, .methodref 79 89), (0, .nameAndType 90 91), (0, u "details"), (0, u "()Ljava/lang/String;"), (0, .methodref 93 94), (0, .class_ 95), (0, .nameAndType 96 97), (0, u "com/example/shelfmark/shelfmark/protocol/DiagnosticOfPinLaw"), (0, u "same"), (0, u "(Ljava/lang/String;Ljava/lang/String;)Z"), (0, .methodref 79 99), (0, .nameAndType 100 91), (0, u "message"), (0, .methodref 68 102), (0, .nameAndType 103 104), (0, u "equals"), (0, u "(Ljava/lang/Object;)Z"), (2, u "law"), (0, u "(III)Z")] 9

def k1m0 : Method := { name := "<init>", desc := "()V", sig := { parameters := [], returnType := none }, accessFlags := 2, code := none }
def k1c1 : Code := { maxStack := 7, maxLocals := 10, code := code, exceptionTable := #[], attributes := #[] }
def k1m1 : Method := { name := "law", desc := "(III)Z", sig := { parameters := [.int, .int, .int], returnType := some .boolean }, accessFlags := 9, code := some k1c1 }
def k1c2 : Code := { maxStack := 2, maxLocals := 2, code := method_3_code, exceptionTable := #[], attributes := #[] }
def k1m2 : Method := { name := "same", desc := "(Ljava/lang/String;Ljava/lang/String;)Z", sig := { parameters := [(.object "java/lang/String"), (.object "java/lang/String")], returnType := some .boolean }, accessFlags := 10, code := some k1c2 }
/-- com/example/shelfmark/shelfmark/protocol/DiagnosticOfPinLaw -/
def k1 : Class := { plain "com/example/shelfmark/shelfmark/protocol/DiagnosticOfPinLaw" (some 0) with
  accessFlags := 49
  interfaces := #[]
  cf := some (fileOf pool1 93 #[] #[{ accessFlags := 2, nameIndex := 5, descriptorIndex := 6, attributes := #[] }, { accessFlags := 9, nameIndex := 107, descriptorIndex := 108, attributes := #[] }, { accessFlags := 10, nameIndex := 96, descriptorIndex := 97, attributes := #[] }] 49 2 #[] #[])
  fields := #[]
  methods := #[k1m0, k1m1, k1m2]
  instanceTypes := #[]
  staticTypes := #[]
  resolved := Array.replicate 118 none
  statics := none }

def pool2 : Array CpInfo := pool [(1, .class_ 2), (0, u "java/lang/constant/Constable"), (0, .class_ 4), (0, u "java/lang/Object")] 6

/-- java/lang/constant/Constable -/
def k2 : Class := { plain "java/lang/constant/Constable" (some 0) with
  accessFlags := 1537
  interfaces := #[]
  cf := some (fileOf pool2 1 #[] #[] 1537 3 #[] #[])
  fields := #[]
  methods := #[]
  instanceTypes := #[]
  staticTypes := #[]
  resolved := Array.replicate 11 none
  statics := none }

def pool3 : Array CpInfo := pool [(1, .class_ 2), (0, u "java/lang/Comparable"), (0, .class_ 4), (0, u "java/lang/Object")] 7

/-- java/lang/Comparable -/
def k3 : Class := { plain "java/lang/Comparable" (some 0) with
  accessFlags := 1537
  interfaces := #[]
  cf := some (fileOf pool3 1 #[] #[] 1537 3 #[] #[])
  fields := #[]
  methods := #[]
  instanceTypes := #[]
  staticTypes := #[]
  resolved := Array.replicate 12 none
  statics := none }

def pool4 : Array CpInfo := pool [(1, .class_ 2), (0, u "java/io/Serializable"), (0, .class_ 4), (0, u "java/lang/Object")] 2

/-- java/io/Serializable -/
def k4 : Class := { plain "java/io/Serializable" (some 0) with
  accessFlags := 1537
  interfaces := #[]
  cf := some (fileOf pool4 1 #[] #[] 1537 3 #[] #[])
  fields := #[]
  methods := #[]
  instanceTypes := #[]
  staticTypes := #[]
  resolved := Array.replicate 7 none
  statics := none }

def pool5 : Array CpInfo := pool [(2, .class_ 4), (1, u "java/lang/Enum"), (0, u "name"), (0, u "Ljava/lang/String;"), (0, .fieldref 2 8), (0, .nameAndType 9 10), (0, u "ordinal"), (0, u "I"), (1, .class_ 14), (1, u "java/lang/Object"), (4, u "hash"), (86, .class_ 108), (1, u "java/lang/Enum$EnumDesc"), (2, .class_ 112), (0, u "java/lang/constant/Constable"), (0, .class_ 114), (0, u "java/lang/Comparable"), (0, .class_ 116), (0, u "java/io/Serializable"), (9, u "()I")] 77

def k5c0 : Code := { maxStack := 1, maxLocals := 1, code := jdk_37_method_2_code, exceptionTable := #[], attributes := #[] }
def k5m0 : Method := { name := "ordinal", desc := "()I", sig := { parameters := [], returnType := some .int }, accessFlags := 17, code := some k5c0 }
/-- java/lang/Enum -/
def k5 : Class := { plain "java/lang/Enum" (some 0) with
  accessFlags := 1057
  interfaces := #[2, 3, 4]
  cf := some (fileOf pool5 2 #[.nestMembers #[106]] #[{ accessFlags := 17, nameIndex := 9, descriptorIndex := 126, attributes := #[] }] 1057 12 #[111, 113, 115] #[{ accessFlags := 18, nameIndex := 5, descriptorIndex := 6, attributes := #[] }, { accessFlags := 18, nameIndex := 9, descriptorIndex := 10, attributes := #[] }, { accessFlags := 2, nameIndex := 19, descriptorIndex := 10, attributes := #[] }])
  fields := #[{ name := "name", type := (.object "java/lang/String"), accessFlags := 18, slot := 0, constantValue := 0 }, { name := "ordinal", type := .int, accessFlags := 18, slot := 1, constantValue := 0 }, { name := "hash", type := .int, accessFlags := 2, slot := 2, constantValue := 0 }]
  methods := #[k5m0]
  instanceTypes := #[(.object "java/lang/String"), .int, .int]
  staticTypes := #[]
  resolved := Array.replicate 204 none
  statics := none }

def pool6 : Array CpInfo := pool [(1, .class_ 2), (0, u "com/example/shelfmark/shelfmark/model/QueryRefusedException$Reason"), (2, u "SYNTAX_ERROR"), (0, u "Lcom/example/shelfmark/shelfmark/model/QueryRefusedException$Reason;"), (2, u "UNKNOWN_CONTEXT_SET"), (2, u "UNKNOWN_INDEX"), (2, u "UNSUPPORTED_RELATION"), (2, u "UNSUPPORTED_RELATION_FOR_INDEX"), (2, u "UNSUPPORTED_RELATION_MODIFIER"), (2, u "UNSUPPORTED_SORT_MODIFIER"), (2, u "UNSORTABLE_INDEX"), (2, u "MASKING_UNSUPPORTED"), (2, u "ANCHORING_UNSUPPORTED"), (2, u "EMPTY_TERM"), (2, u "UNSUPPORTED_TERM_FOR_RELATION"), (2, u "INVALID_TERM"), (2, u "MASK_TOO_BROAD"), (2, u "MASKED_TERM_TOO_LONG"), (2, u "TOO_MANY_MASKS"), (2, u "TOO_MANY_BOOLEANS"), (2, u "PROXIMITY_UNSUPPORTED"), (2, u "UNSUPPORTED_BOOLEAN_MODIFIER"), (2, u "$VALUES"), (0, u "[Lcom/example/shelfmark/shelfmark/model/QueryRefusedException$Reason;"), (6, .class_ 73), (1, u "java/lang/Enum"), (42, .class_ 117), (0, u "com/example/shelfmark/shelfmark/model/QueryRefusedException")] 2

/-- com/example/shelfmark/shelfmark/model/QueryRefusedException$Reason -/
def k6 : Class := { plain "com/example/shelfmark/shelfmark/model/QueryRefusedException$Reason" (some 5) with
  accessFlags := 16433
  interfaces := #[]
  cf := some (fileOf pool6 1 #[.nestHost 116] #[] 16433 71 #[] #[{ accessFlags := 16409, nameIndex := 5, descriptorIndex := 6, attributes := #[] }, { accessFlags := 16409, nameIndex := 9, descriptorIndex := 6, attributes := #[] }, { accessFlags := 16409, nameIndex := 12, descriptorIndex := 6, attributes := #[] }, { accessFlags := 16409, nameIndex := 15, descriptorIndex := 6, attributes := #[] }, { accessFlags := 16409, nameIndex := 18, descriptorIndex := 6, attributes := #[] }, { accessFlags := 16409, nameIndex := 21, descriptorIndex := 6, attributes := #[] }, { accessFlags := 16409, nameIndex := 24, descriptorIndex := 6, attributes := #[] }, { accessFlags := 16409, nameIndex := 27, descriptorIndex := 6, attributes := #[] }, { accessFlags := 16409, nameIndex := 30, descriptorIndex := 6, attributes := #[] }, { accessFlags := 16409, nameIndex := 33, descriptorIndex := 6, attributes := #[] }, { accessFlags := 16409, nameIndex := 36, descriptorIndex := 6, attributes := #[] }, { accessFlags := 16409, nameIndex := 39, descriptorIndex := 6, attributes := #[] }, { accessFlags := 16409, nameIndex := 42, descriptorIndex := 6, attributes := #[] }, { accessFlags := 16409, nameIndex := 45, descriptorIndex := 6, attributes := #[] }, { accessFlags := 16409, nameIndex := 48, descriptorIndex := 6, attributes := #[] }, { accessFlags := 16409, nameIndex := 51, descriptorIndex := 6, attributes := #[] }, { accessFlags := 16409, nameIndex := 54, descriptorIndex := 6, attributes := #[] }, { accessFlags := 16409, nameIndex := 57, descriptorIndex := 6, attributes := #[] }, { accessFlags := 16409, nameIndex := 60, descriptorIndex := 6, attributes := #[] }, { accessFlags := 4122, nameIndex := 63, descriptorIndex := 64, attributes := #[] }])
  fields := #[{ name := "SYNTAX_ERROR", type := (.object "com/example/shelfmark/shelfmark/model/QueryRefusedException$Reason"), accessFlags := 16409, slot := 0, constantValue := 0 }, { name := "UNKNOWN_CONTEXT_SET", type := (.object "com/example/shelfmark/shelfmark/model/QueryRefusedException$Reason"), accessFlags := 16409, slot := 1, constantValue := 0 }, { name := "UNKNOWN_INDEX", type := (.object "com/example/shelfmark/shelfmark/model/QueryRefusedException$Reason"), accessFlags := 16409, slot := 2, constantValue := 0 }, { name := "UNSUPPORTED_RELATION", type := (.object "com/example/shelfmark/shelfmark/model/QueryRefusedException$Reason"), accessFlags := 16409, slot := 3, constantValue := 0 }, { name := "UNSUPPORTED_RELATION_FOR_INDEX", type := (.object "com/example/shelfmark/shelfmark/model/QueryRefusedException$Reason"), accessFlags := 16409, slot := 4, constantValue := 0 }, { name := "UNSUPPORTED_RELATION_MODIFIER", type := (.object "com/example/shelfmark/shelfmark/model/QueryRefusedException$Reason"), accessFlags := 16409, slot := 5, constantValue := 0 }, { name := "UNSUPPORTED_SORT_MODIFIER", type := (.object "com/example/shelfmark/shelfmark/model/QueryRefusedException$Reason"), accessFlags := 16409, slot := 6, constantValue := 0 }, { name := "UNSORTABLE_INDEX", type := (.object "com/example/shelfmark/shelfmark/model/QueryRefusedException$Reason"), accessFlags := 16409, slot := 7, constantValue := 0 }, { name := "MASKING_UNSUPPORTED", type := (.object "com/example/shelfmark/shelfmark/model/QueryRefusedException$Reason"), accessFlags := 16409, slot := 8, constantValue := 0 }, { name := "ANCHORING_UNSUPPORTED", type := (.object "com/example/shelfmark/shelfmark/model/QueryRefusedException$Reason"), accessFlags := 16409, slot := 9, constantValue := 0 }, { name := "EMPTY_TERM", type := (.object "com/example/shelfmark/shelfmark/model/QueryRefusedException$Reason"), accessFlags := 16409, slot := 10, constantValue := 0 }, { name := "UNSUPPORTED_TERM_FOR_RELATION", type := (.object "com/example/shelfmark/shelfmark/model/QueryRefusedException$Reason"), accessFlags := 16409, slot := 11, constantValue := 0 }, { name := "INVALID_TERM", type := (.object "com/example/shelfmark/shelfmark/model/QueryRefusedException$Reason"), accessFlags := 16409, slot := 12, constantValue := 0 }, { name := "MASK_TOO_BROAD", type := (.object "com/example/shelfmark/shelfmark/model/QueryRefusedException$Reason"), accessFlags := 16409, slot := 13, constantValue := 0 }, { name := "MASKED_TERM_TOO_LONG", type := (.object "com/example/shelfmark/shelfmark/model/QueryRefusedException$Reason"), accessFlags := 16409, slot := 14, constantValue := 0 }, { name := "TOO_MANY_MASKS", type := (.object "com/example/shelfmark/shelfmark/model/QueryRefusedException$Reason"), accessFlags := 16409, slot := 15, constantValue := 0 }, { name := "TOO_MANY_BOOLEANS", type := (.object "com/example/shelfmark/shelfmark/model/QueryRefusedException$Reason"), accessFlags := 16409, slot := 16, constantValue := 0 }, { name := "PROXIMITY_UNSUPPORTED", type := (.object "com/example/shelfmark/shelfmark/model/QueryRefusedException$Reason"), accessFlags := 16409, slot := 17, constantValue := 0 }, { name := "UNSUPPORTED_BOOLEAN_MODIFIER", type := (.object "com/example/shelfmark/shelfmark/model/QueryRefusedException$Reason"), accessFlags := 16409, slot := 18, constantValue := 0 }, { name := "$VALUES", type := (.array (.object "com/example/shelfmark/shelfmark/model/QueryRefusedException$Reason")), accessFlags := 4122, slot := 19, constantValue := 0 }]
  methods := #[]
  instanceTypes := #[(.object "java/lang/String"), .int, .int]
  staticTypes := #[(.object "com/example/shelfmark/shelfmark/model/QueryRefusedException$Reason"), (.object "com/example/shelfmark/shelfmark/model/QueryRefusedException$Reason"), (.object "com/example/shelfmark/shelfmark/model/QueryRefusedException$Reason"), (.object "com/example/shelfmark/shelfmark/model/QueryRefusedException$Reason"), (.object "com/example/shelfmark/shelfmark/model/QueryRefusedException$Reason"), (.object "com/example/shelfmark/shelfmark/model/QueryRefusedException$Reason"), (.object "com/example/shelfmark/shelfmark/model/QueryRefusedException$Reason"), (.object "com/example/shelfmark/shelfmark/model/QueryRefusedException$Reason"), (.object "com/example/shelfmark/shelfmark/model/QueryRefusedException$Reason"), (.object "com/example/shelfmark/shelfmark/model/QueryRefusedException$Reason"), (.object "com/example/shelfmark/shelfmark/model/QueryRefusedException$Reason"), (.object "com/example/shelfmark/shelfmark/model/QueryRefusedException$Reason"), (.object "com/example/shelfmark/shelfmark/model/QueryRefusedException$Reason"), (.object "com/example/shelfmark/shelfmark/model/QueryRefusedException$Reason"), (.object "com/example/shelfmark/shelfmark/model/QueryRefusedException$Reason"), (.object "com/example/shelfmark/shelfmark/model/QueryRefusedException$Reason"), (.object "com/example/shelfmark/shelfmark/model/QueryRefusedException$Reason"), (.object "com/example/shelfmark/shelfmark/model/QueryRefusedException$Reason"), (.object "com/example/shelfmark/shelfmark/model/QueryRefusedException$Reason"), (.array (.object "com/example/shelfmark/shelfmark/model/QueryRefusedException$Reason"))]
  resolved := Array.replicate 120 none
  statics := some 0 }

def pool7 : Array CpInfo := pool [(1, .methodref 2 3), (0, .class_ 4), (0, .nameAndType 5 6), (0, u "java/lang/Object"), (0, u "<init>"), (0, u "()V"), (0, .fieldref 8 9), (0, .class_ 10), (0, .nameAndType 11 12), (0, u "java/lang/Throwable"), (0, u "cause"), (0, u "Ljava/lang/Throwable;"), (0, .fieldref 8 14), (0, .nameAndType 15 16), (0, u "UNASSIGNED_STACK"), (0, u "[Ljava/lang/StackTraceElement;"), (0, .fieldref 8 18), (0, .nameAndType 19 16), (0, u "stackTrace"), (0, .fieldref 8 21), (0, .nameAndType 22 23), (0, u "SUPPRESSED_SENTINEL"), (0, u "Ljava/util/List;"), (0, .fieldref 8 25), (0, .nameAndType 26 23), (0, u "suppressedExceptions"), (0, .methodref 8 28), (0, .nameAndType 29 30), (0, u "fillInStackTrace"), (0, u "()Ljava/lang/Throwable;"), (0, .fieldref 8 32), (0, .nameAndType 33 34), (0, u "detailMessage"), (0, u "Ljava/lang/String;"), (3, u "()Ljava/lang/String;"), (2, u "getMessage"), (51, .class_ 94), (0, u "java/lang/Throwable$WrappedPrintStream"), (6, .class_ 103), (1, u "java/lang/Throwable$PrintStreamOrWriter"), (61, u "$assertionsDisabled"), (0, u "Z"), (26, .class_ 194), (0, u "java/lang/Throwable$WrappedPrintWriter"), (3, .fieldref 8 199), (0, .nameAndType 200 201), (0, u "backtrace"), (0, u "Ljava/lang/Object;"), (0, .methodref 8 203), (0, .nameAndType 29 204), (0, u "(I)Ljava/lang/Throwable;"), (6, u "depth"), (0, u "I"), (10, u "(Ljava/lang/String;)V"), (45, .class_ 271), (1, u "java/lang/Throwable$SentinelHolder"), (32, u "EMPTY_THROWABLE_ARRAY"), (0, u "[Ljava/lang/Throwable;"), (12, .class_ 319), (0, u "java/io/Serializable"), (0, u "serialVersionUID"), (0, u "J"), (5, u "NULL_CAUSE_MESSAGE"), (0, u "SELF_SUPPRESSION_MESSAGE"), (0, u "CAUSE_CAPTION"), (0, u "SUPPRESSED_CAPTION")] 73

def k7c0 : Code := { maxStack := 2, maxLocals := 1, code := jdk_78_method_1_code, exceptionTable := #[], attributes := #[] }
def k7m0 : Method := { name := "<init>", desc := "()V", sig := { parameters := [], returnType := none }, accessFlags := 1, code := some k7c0 }
def k7c1 : Code := { maxStack := 2, maxLocals := 2, code := jdk_78_method_2_code, exceptionTable := #[], attributes := #[] }
def k7m1 : Method := { name := "<init>", desc := "(Ljava/lang/String;)V", sig := { parameters := [(.object "java/lang/String")], returnType := none }, accessFlags := 1, code := some k7c1 }
def k7c2 : Code := { maxStack := 1, maxLocals := 1, code := jdk_78_method_6_code, exceptionTable := #[], attributes := #[] }
def k7m2 : Method := { name := "getMessage", desc := "()Ljava/lang/String;", sig := { parameters := [], returnType := some (.object "java/lang/String") }, accessFlags := 1, code := some k7c2 }
def k7c3 : Code := { maxStack := 2, maxLocals := 1, code := ⟨#[0x2a, 0xb4, 0x00, 0x11, 0xc7, 0x00, 0x0a, 0x2a, 0xb4, 0x00, 0xc6, 0xc6, 0x00, 0x10, 0x2a, 0x03, 0xb6, 0x00, 0xca, 0x57, 0x2a, 0xb2, 0x00, 0x0d, 0xb5, 0x00, 0x11, 0x2a, 0xb0]⟩, exceptionTable := #[], attributes := #[] }
def k7m3 : Method := { name := "fillInStackTrace", desc := "()Ljava/lang/Throwable;", sig := { parameters := [], returnType := some (.object "java/lang/Throwable") }, accessFlags := 33, code := some k7c3 }
def k7m4 : Method := { name := "fillInStackTrace", desc := "(I)Ljava/lang/Throwable;", sig := { parameters := [.int], returnType := some (.object "java/lang/Throwable") }, accessFlags := 258, code := none }
/-- java/lang/Throwable -/
def k7 : Class := { plain "java/lang/Throwable" (some 0) with
  accessFlags := 33
  interfaces := #[4]
  cf := some (fileOf pool7 8 #[.nestMembers #[193, 93, 101, 269]] #[{ accessFlags := 1, nameIndex := 5, descriptorIndex := 6, attributes := #[] }, { accessFlags := 1, nameIndex := 5, descriptorIndex := 223, attributes := #[] }, { accessFlags := 1, nameIndex := 41, descriptorIndex := 38, attributes := #[] }, { accessFlags := 33, nameIndex := 29, descriptorIndex := 30, attributes := #[] }, { accessFlags := 258, nameIndex := 29, descriptorIndex := 204, attributes := #[] }] 33 2 #[318] #[{ accessFlags := 26, nameIndex := 320, descriptorIndex := 321, attributes := #[] }, { accessFlags := 130, nameIndex := 200, descriptorIndex := 201, attributes := #[] }, { accessFlags := 2, nameIndex := 33, descriptorIndex := 34, attributes := #[] }, { accessFlags := 26, nameIndex := 15, descriptorIndex := 16, attributes := #[] }, { accessFlags := 2, nameIndex := 11, descriptorIndex := 12, attributes := #[] }, { accessFlags := 2, nameIndex := 19, descriptorIndex := 16, attributes := #[] }, { accessFlags := 130, nameIndex := 211, descriptorIndex := 212, attributes := #[] }, { accessFlags := 26, nameIndex := 22, descriptorIndex := 23, attributes := #[] }, { accessFlags := 2, nameIndex := 26, descriptorIndex := 23, attributes := #[] }, { accessFlags := 26, nameIndex := 327, descriptorIndex := 34, attributes := #[] }, { accessFlags := 26, nameIndex := 328, descriptorIndex := 34, attributes := #[] }, { accessFlags := 26, nameIndex := 329, descriptorIndex := 34, attributes := #[] }, { accessFlags := 26, nameIndex := 330, descriptorIndex := 34, attributes := #[] }, { accessFlags := 26, nameIndex := 304, descriptorIndex := 305, attributes := #[] }, { accessFlags := 4120, nameIndex := 165, descriptorIndex := 166, attributes := #[] }])
  fields := #[{ name := "serialVersionUID", type := .long, accessFlags := 26, slot := 0, constantValue := 0 }, { name := "backtrace", type := (.object "java/lang/Object"), accessFlags := 130, slot := 0, constantValue := 0 }, { name := "detailMessage", type := (.object "java/lang/String"), accessFlags := 2, slot := 1, constantValue := 0 }, { name := "UNASSIGNED_STACK", type := (.array (.object "java/lang/StackTraceElement")), accessFlags := 26, slot := 1, constantValue := 0 }, { name := "cause", type := (.object "java/lang/Throwable"), accessFlags := 2, slot := 2, constantValue := 0 }, { name := "stackTrace", type := (.array (.object "java/lang/StackTraceElement")), accessFlags := 2, slot := 3, constantValue := 0 }, { name := "depth", type := .int, accessFlags := 130, slot := 4, constantValue := 0 }, { name := "SUPPRESSED_SENTINEL", type := (.object "java/util/List"), accessFlags := 26, slot := 2, constantValue := 0 }, { name := "suppressedExceptions", type := (.object "java/util/List"), accessFlags := 2, slot := 5, constantValue := 0 }, { name := "NULL_CAUSE_MESSAGE", type := (.object "java/lang/String"), accessFlags := 26, slot := 3, constantValue := 0 }, { name := "SELF_SUPPRESSION_MESSAGE", type := (.object "java/lang/String"), accessFlags := 26, slot := 4, constantValue := 0 }, { name := "CAUSE_CAPTION", type := (.object "java/lang/String"), accessFlags := 26, slot := 5, constantValue := 0 }, { name := "SUPPRESSED_CAPTION", type := (.object "java/lang/String"), accessFlags := 26, slot := 6, constantValue := 0 }, { name := "EMPTY_THROWABLE_ARRAY", type := (.array (.object "java/lang/Throwable")), accessFlags := 26, slot := 7, constantValue := 0 }, { name := "$assertionsDisabled", type := .boolean, accessFlags := 4120, slot := 8, constantValue := 0 }]
  methods := #[k7m0, k7m1, k7m2, k7m3, k7m4]
  instanceTypes := #[(.object "java/lang/Object"), (.object "java/lang/String"), (.object "java/lang/Throwable"), (.array (.object "java/lang/StackTraceElement")), .int, (.object "java/util/List")]
  staticTypes := #[.long, (.array (.object "java/lang/StackTraceElement")), (.object "java/util/List"), (.object "java/lang/String"), (.object "java/lang/String"), (.object "java/lang/String"), (.object "java/lang/String"), (.array (.object "java/lang/Throwable")), .boolean]
  resolved := Array.replicate 404 none
  statics := some 1 }

def pool8 : Array CpInfo := pool [(2, .class_ 4), (1, u "java/lang/Throwable"), (0, u "<init>"), (0, u "()V"), (0, .methodref 2 8), (0, .nameAndType 5 9), (0, u "(Ljava/lang/String;)V"), (9, .class_ 20), (0, u "java/lang/Exception"), (0, u "serialVersionUID"), (0, u "J")] 17

def k8m0 : Method := { name := "<init>", desc := "()V", sig := { parameters := [], returnType := none }, accessFlags := 1, code := none }
def k8c1 : Code := { maxStack := 2, maxLocals := 2, code := jdk_59_method_2_code, exceptionTable := #[], attributes := #[] }
def k8m1 : Method := { name := "<init>", desc := "(Ljava/lang/String;)V", sig := { parameters := [(.object "java/lang/String")], returnType := none }, accessFlags := 1, code := some k8c1 }
/-- java/lang/Exception -/
def k8 : Class := { plain "java/lang/Exception" (some 7) with
  accessFlags := 33
  interfaces := #[]
  cf := some (fileOf pool8 19 #[] #[{ accessFlags := 1, nameIndex := 5, descriptorIndex := 6, attributes := #[] }, { accessFlags := 1, nameIndex := 5, descriptorIndex := 9, attributes := #[] }] 33 2 #[] #[{ accessFlags := 24, nameIndex := 21, descriptorIndex := 22, attributes := #[] }])
  fields := #[{ name := "serialVersionUID", type := .long, accessFlags := 24, slot := 0, constantValue := 0 }]
  methods := #[k8m0, k8m1]
  instanceTypes := #[(.object "java/lang/Object"), (.object "java/lang/String"), (.object "java/lang/Throwable"), (.array (.object "java/lang/StackTraceElement")), .int, (.object "java/util/List")]
  staticTypes := #[.long]
  resolved := Array.replicate 40 none
  statics := none }

def pool9 : Array CpInfo := pool [(1, .methodref 2 3), (0, .class_ 4), (0, .nameAndType 5 6), (0, u "java/lang/Exception"), (0, u "<init>"), (0, u "(Ljava/lang/String;)V"), (0, .fieldref 8 9), (0, .class_ 10), (0, .nameAndType 11 12), (0, u "com/example/shelfmark/shelfmark/model/QueryRefusedException"), (0, u "reason"), (0, u "Lcom/example/shelfmark/shelfmark/model/QueryRefusedException$Reason;"), (0, .fieldref 8 14), (0, .nameAndType 15 16), (0, u "details"), (0, u "Ljava/lang/String;"), (0, u "serialVersionUID"), (0, u "J"), (3, u "(Lcom/example/shelfmark/shelfmark/model/QueryRefusedException$Reason;Ljava/lang/String;Ljava/lang/String;)V"), (2, u "()Lcom/example/shelfmark/shelfmark/model/QueryRefusedException$Reason;"), (0, u "()Ljava/lang/String;"), (3, .class_ 31), (0, u "com/example/shelfmark/shelfmark/model/QueryRefusedException$Reason")] 2

def k9c0 : Code := { maxStack := 2, maxLocals := 4, code := prog_41_method_1_code, exceptionTable := #[], attributes := #[] }
def k9m0 : Method := { name := "<init>", desc := "(Lcom/example/shelfmark/shelfmark/model/QueryRefusedException$Reason;Ljava/lang/String;Ljava/lang/String;)V", sig := { parameters := [(.object "com/example/shelfmark/shelfmark/model/QueryRefusedException$Reason"), (.object "java/lang/String"), (.object "java/lang/String")], returnType := none }, accessFlags := 1, code := some k9c0 }
def k9c1 : Code := { maxStack := 1, maxLocals := 1, code := prog_41_method_2_code, exceptionTable := #[], attributes := #[] }
def k9m1 : Method := { name := "reason", desc := "()Lcom/example/shelfmark/shelfmark/model/QueryRefusedException$Reason;", sig := { parameters := [], returnType := some (.object "com/example/shelfmark/shelfmark/model/QueryRefusedException$Reason") }, accessFlags := 1, code := some k9c1 }
def k9c2 : Code := { maxStack := 1, maxLocals := 1, code := prog_41_method_3_code, exceptionTable := #[], attributes := #[] }
def k9m2 : Method := { name := "details", desc := "()Ljava/lang/String;", sig := { parameters := [], returnType := some (.object "java/lang/String") }, accessFlags := 1, code := some k9c2 }
/-- com/example/shelfmark/shelfmark/model/QueryRefusedException -/
def k9 : Class := { plain "com/example/shelfmark/shelfmark/model/QueryRefusedException" (some 8) with
  accessFlags := 49
  interfaces := #[]
  cf := some (fileOf pool9 8 #[.nestMembers #[30]] #[{ accessFlags := 1, nameIndex := 5, descriptorIndex := 22, attributes := #[] }, { accessFlags := 1, nameIndex := 11, descriptorIndex := 25, attributes := #[] }, { accessFlags := 1, nameIndex := 15, descriptorIndex := 26, attributes := #[] }] 49 2 #[] #[{ accessFlags := 26, nameIndex := 17, descriptorIndex := 18, attributes := #[] }, { accessFlags := 18, nameIndex := 11, descriptorIndex := 12, attributes := #[] }, { accessFlags := 18, nameIndex := 15, descriptorIndex := 16, attributes := #[] }])
  fields := #[{ name := "serialVersionUID", type := .long, accessFlags := 26, slot := 0, constantValue := 0 }, { name := "reason", type := (.object "com/example/shelfmark/shelfmark/model/QueryRefusedException$Reason"), accessFlags := 18, slot := 6, constantValue := 0 }, { name := "details", type := (.object "java/lang/String"), accessFlags := 18, slot := 7, constantValue := 0 }]
  methods := #[k9m0, k9m1, k9m2]
  instanceTypes := #[(.object "java/lang/Object"), (.object "java/lang/String"), (.object "java/lang/Throwable"), (.array (.object "java/lang/StackTraceElement")), .int, (.object "java/util/List"), (.object "com/example/shelfmark/shelfmark/model/QueryRefusedException$Reason"), (.object "java/lang/String")]
  staticTypes := #[.long]
  resolved := Array.replicate 34 none
  statics := none }

def pool10 : Array CpInfo := pool [(1, .methodref 2 3), (0, .class_ 4), (0, .nameAndType 5 6), (0, u "java/lang/Object"), (0, u "<init>"), (0, u "()V"), (0, .class_ 8), (0, u "java/lang/Record")] 13

def k10c0 : Code := { maxStack := 1, maxLocals := 1, code := jdk_30_method_1_code, exceptionTable := #[], attributes := #[] }
def k10m0 : Method := { name := "<init>", desc := "()V", sig := { parameters := [], returnType := none }, accessFlags := 4, code := some k10c0 }
/-- java/lang/Record -/
def k10 : Class := { plain "java/lang/Record" (some 0) with
  accessFlags := 1057
  interfaces := #[]
  cf := some (fileOf pool10 7 #[] #[{ accessFlags := 4, nameIndex := 5, descriptorIndex := 6, attributes := #[] }] 1057 2 #[] #[])
  fields := #[]
  methods := #[k10m0]
  instanceTypes := #[]
  staticTypes := #[]
  resolved := Array.replicate 22 none
  statics := none }

def pool11 : Array CpInfo := pool [(1, .methodref 2 3), (0, .class_ 4), (0, .nameAndType 5 6), (0, u "java/lang/Record"), (0, u "<init>"), (0, u "()V"), (0, .fieldref 8 9), (0, .class_ 10), (0, .nameAndType 11 12), (0, u "com/example/shelfmark/shelfmark/protocol/Diagnostic"), (0, u "number"), (0, u "I"), (0, .fieldref 8 14), (0, .nameAndType 15 16), (0, u "details"), (0, u "Ljava/lang/String;"), (0, .fieldref 8 18), (0, .nameAndType 19 16), (0, u "message"), (0, .fieldref 21 22), (0, .class_ 23), (0, .nameAndType 24 25), (0, u "com/example/shelfmark/shelfmark/protocol/Diagnostic$1"), (0, u "$SwitchMap$com$example$shelfmark$shelfmark$model$QueryRefusedException$Reason"), (0, u "[I"), (0, .methodref 27 28), (0, .class_ 29), (0, .nameAndType 30 31), (0, u "com/example/shelfmark/shelfmark/model/QueryRefusedException"), (0, u "reason"), (0, u "()Lcom/example/shelfmark/shelfmark/model/QueryRefusedException$Reason;"), (0, .methodref 33 34), (0, .class_ 35), (0, .nameAndType 36 37), (0, u "com/example/shelfmark/shelfmark/model/QueryRefusedException$Reason"), (0, u "ordinal"), (0, u "()I"), (5, .methodref 27 44), (0, .nameAndType 15 45), (0, u "()Ljava/lang/String;"), (0, .methodref 27 47), (0, .nameAndType 48 45), (0, u "getMessage"), (0, .methodref 8 50), (0, .nameAndType 5 51), (0, u "(ILjava/lang/String;Ljava/lang/String;)V"), (47, u "NAMESPACE"), (1, u "PREFIX"), (0, u "GENERAL_SYSTEM_ERROR"), (1, u "UNSUPPORTED_OPERATION"), (1, u "UNSUPPORTED_VERSION"), (1, u "UNSUPPORTED_PARAMETER_VALUE"), (1, u "MANDATORY_PARAMETER_MISSING"), (1, u "FIRST_RECORD_OUT_OF_RANGE"), (1, u "UNKNOWN_SCHEMA"), (1, u "UNSUPPORTED_RECORD_PACKING"), (1, u "XPATH_RETRIEVAL_UNSUPPORTED"), (1, u "STYLESHEETS_UNSUPPORTED"), (4, u "of"), (0, u "(Lcom/example/shelfmark/shelfmark/model/QueryRefusedException;)Lcom/example/shelfmark/shelfmark/protocol/Diagnostic;")] 39

def k11c0 : Code := { maxStack := 2, maxLocals := 4, code := prog_50_method_1_code, exceptionTable := #[], attributes := #[] }
def k11m0 : Method := { name := "<init>", desc := "(ILjava/lang/String;Ljava/lang/String;)V", sig := { parameters := [.int, (.object "java/lang/String"), (.object "java/lang/String")], returnType := none }, accessFlags := 0, code := some k11c0 }
def k11c1 : Code := { maxStack := 5, maxLocals := 2, code := prog_50_method_2_code, exceptionTable := #[], attributes := #[] }
def k11m1 : Method := { name := "of", desc := "(Lcom/example/shelfmark/shelfmark/model/QueryRefusedException;)Lcom/example/shelfmark/shelfmark/protocol/Diagnostic;", sig := { parameters := [(.object "com/example/shelfmark/shelfmark/model/QueryRefusedException")], returnType := some (.object "com/example/shelfmark/shelfmark/protocol/Diagnostic") }, accessFlags := 8, code := some k11c1 }
def k11c2 : Code := { maxStack := 1, maxLocals := 1, code := prog_50_method_8_code, exceptionTable := #[], attributes := #[] }
def k11m2 : Method := { name := "number", desc := "()I", sig := { parameters := [], returnType := some .int }, accessFlags := 1, code := some k11c2 }
def k11c3 : Code := { maxStack := 1, maxLocals := 1, code := prog_50_method_9_code, exceptionTable := #[], attributes := #[] }
def k11m3 : Method := { name := "details", desc := "()Ljava/lang/String;", sig := { parameters := [], returnType := some (.object "java/lang/String") }, accessFlags := 1, code := some k11c3 }
def k11c4 : Code := { maxStack := 1, maxLocals := 1, code := prog_50_method_10_code, exceptionTable := #[], attributes := #[] }
def k11m4 : Method := { name := "message", desc := "()Ljava/lang/String;", sig := { parameters := [], returnType := some (.object "java/lang/String") }, accessFlags := 1, code := some k11c4 }
/-- com/example/shelfmark/shelfmark/protocol/Diagnostic -/
def k11 : Class := { plain "com/example/shelfmark/shelfmark/protocol/Diagnostic" (some 10) with
  accessFlags := 48
  interfaces := #[]
  cf := some (fileOf pool11 8 #[.nestMembers #[21]] #[{ accessFlags := 0, nameIndex := 5, descriptorIndex := 51, attributes := #[] }, { accessFlags := 8, nameIndex := 125, descriptorIndex := 126, attributes := #[] }, { accessFlags := 1, nameIndex := 11, descriptorIndex := 37, attributes := #[] }, { accessFlags := 1, nameIndex := 15, descriptorIndex := 45, attributes := #[] }, { accessFlags := 1, nameIndex := 19, descriptorIndex := 45, attributes := #[] }] 48 2 #[] #[{ accessFlags := 18, nameIndex := 11, descriptorIndex := 12, attributes := #[] }, { accessFlags := 18, nameIndex := 15, descriptorIndex := 16, attributes := #[] }, { accessFlags := 18, nameIndex := 19, descriptorIndex := 16, attributes := #[] }, { accessFlags := 24, nameIndex := 99, descriptorIndex := 16, attributes := #[] }, { accessFlags := 26, nameIndex := 101, descriptorIndex := 16, attributes := #[] }, { accessFlags := 24, nameIndex := 102, descriptorIndex := 12, attributes := #[] }, { accessFlags := 24, nameIndex := 104, descriptorIndex := 12, attributes := #[] }, { accessFlags := 24, nameIndex := 106, descriptorIndex := 12, attributes := #[] }, { accessFlags := 24, nameIndex := 108, descriptorIndex := 12, attributes := #[] }, { accessFlags := 24, nameIndex := 110, descriptorIndex := 12, attributes := #[] }, { accessFlags := 24, nameIndex := 112, descriptorIndex := 12, attributes := #[] }, { accessFlags := 24, nameIndex := 114, descriptorIndex := 12, attributes := #[] }, { accessFlags := 24, nameIndex := 116, descriptorIndex := 12, attributes := #[] }, { accessFlags := 24, nameIndex := 118, descriptorIndex := 12, attributes := #[] }, { accessFlags := 24, nameIndex := 120, descriptorIndex := 12, attributes := #[] }])
  fields := #[{ name := "number", type := .int, accessFlags := 18, slot := 0, constantValue := 0 }, { name := "details", type := (.object "java/lang/String"), accessFlags := 18, slot := 1, constantValue := 0 }, { name := "message", type := (.object "java/lang/String"), accessFlags := 18, slot := 2, constantValue := 0 }, { name := "NAMESPACE", type := (.object "java/lang/String"), accessFlags := 24, slot := 0, constantValue := 0 }, { name := "PREFIX", type := (.object "java/lang/String"), accessFlags := 26, slot := 1, constantValue := 0 }, { name := "GENERAL_SYSTEM_ERROR", type := .int, accessFlags := 24, slot := 2, constantValue := 0 }, { name := "UNSUPPORTED_OPERATION", type := .int, accessFlags := 24, slot := 3, constantValue := 0 }, { name := "UNSUPPORTED_VERSION", type := .int, accessFlags := 24, slot := 4, constantValue := 0 }, { name := "UNSUPPORTED_PARAMETER_VALUE", type := .int, accessFlags := 24, slot := 5, constantValue := 0 }, { name := "MANDATORY_PARAMETER_MISSING", type := .int, accessFlags := 24, slot := 6, constantValue := 0 }, { name := "FIRST_RECORD_OUT_OF_RANGE", type := .int, accessFlags := 24, slot := 7, constantValue := 0 }, { name := "UNKNOWN_SCHEMA", type := .int, accessFlags := 24, slot := 8, constantValue := 0 }, { name := "UNSUPPORTED_RECORD_PACKING", type := .int, accessFlags := 24, slot := 9, constantValue := 0 }, { name := "XPATH_RETRIEVAL_UNSUPPORTED", type := .int, accessFlags := 24, slot := 10, constantValue := 0 }, { name := "STYLESHEETS_UNSUPPORTED", type := .int, accessFlags := 24, slot := 11, constantValue := 0 }]
  methods := #[k11m0, k11m1, k11m2, k11m3, k11m4]
  instanceTypes := #[.int, (.object "java/lang/String"), (.object "java/lang/String")]
  staticTypes := #[(.object "java/lang/String"), (.object "java/lang/String"), .int, .int, .int, .int, .int, .int, .int, .int, .int, .int]
  resolved := Array.replicate 166 none
  statics := none }

def pool12 : Array CpInfo := pool [(8, .class_ 10), (1, u "com/example/shelfmark/shelfmark/protocol/Diagnostic$1"), (0, u "$SwitchMap$com$example$shelfmark$shelfmark$model$QueryRefusedException$Reason"), (0, u "[I"), (64, .class_ 78), (0, u "java/lang/Object"), (8, .class_ 88), (0, u "com/example/shelfmark/shelfmark/protocol/Diagnostic")] 5

/-- com/example/shelfmark/shelfmark/protocol/Diagnostic$1 -/
def k12 : Class := { plain "com/example/shelfmark/shelfmark/protocol/Diagnostic$1" (some 0) with
  accessFlags := 4128
  interfaces := #[]
  cf := some (fileOf pool12 8 #[.nestHost 87] #[] 4128 77 #[] #[{ accessFlags := 4120, nameIndex := 11, descriptorIndex := 12, attributes := #[] }])
  fields := #[{ name := "$SwitchMap$com$example$shelfmark$shelfmark$model$QueryRefusedException$Reason", type := (.array .int), accessFlags := 4120, slot := 0, constantValue := 0 }]
  methods := #[]
  instanceTypes := #[]
  staticTypes := #[(.array .int)]
  resolved := Array.replicate 94 none
  statics := some 2 }

def pool13 : Array CpInfo := pool [(2, .class_ 4), (1, u "java/lang/CharSequence"), (42, .class_ 48), (0, u "java/lang/CharSequence$1CodePointIterator"), (10, .class_ 60), (0, u "java/lang/CharSequence$1CharIterator"), (5, .class_ 67), (0, u "java/lang/Object")] 63

/-- java/lang/CharSequence -/
def k13 : Class := { plain "java/lang/CharSequence" (some 0) with
  accessFlags := 1537
  interfaces := #[]
  cf := some (fileOf pool13 2 #[.nestMembers #[47, 59]] #[] 1537 66 #[] #[])
  fields := #[]
  methods := #[]
  instanceTypes := #[]
  staticTypes := #[]
  resolved := Array.replicate 131 none
  statics := none }

def pool14 : Array CpInfo := pool [(1, .class_ 2), (0, u "java/lang/constant/ConstantDesc"), (0, .class_ 4), (0, u "java/lang/Object")] 32

/-- java/lang/constant/ConstantDesc -/
def k14 : Class := { plain "java/lang/constant/ConstantDesc" (some 0) with
  accessFlags := 1537
  interfaces := #[]
  cf := some (fileOf pool14 1 #[] #[] 1537 3 #[] #[])
  fields := #[]
  methods := #[]
  instanceTypes := #[]
  staticTypes := #[]
  resolved := Array.replicate 37 none
  statics := none }

def pool15 : Array CpInfo := pool [(1, .methodref 2 3), (0, .class_ 4), (0, .nameAndType 5 6), (0, u "java/lang/Object"), (0, u "<init>"), (0, u "()V"), (2, .fieldref 10 11), (0, .class_ 12), (0, .nameAndType 13 14), (0, u "java/lang/String"), (0, u "value"), (0, u "[B"), (0, .fieldref 10 16), (0, .nameAndType 17 18), (0, u "coder"), (0, u "B"), (2, u "hash"), (0, u "I"), (2, u "hashIsZero"), (0, u "Z"), (0, .methodref 10 28), (0, .nameAndType 5 29), (0, u "([CIILjava/lang/Void;)V"), (8, .fieldref 10 39), (0, .nameAndType 40 26), (0, u "COMPACT_STRINGS"), (1, .class_ 44), (1, u "java/lang/StringUTF16"), (0, u "compress"), (1, .methodref 42 48), (0, .nameAndType 49 50), (0, u "coderFromArrayLen"), (0, u "([BI)B"), (126, .methodref 42 178), (0, .nameAndType 45 179), (0, u "([CII)[B"), (363, u "equals"), (29, u "(Ljava/lang/Object;)Z"), (1, .class_ 576), (0, u "java/lang/CharSequence"), (22, u "CASE_INSENSITIVE_ORDER"), (0, u "Ljava/util/Comparator;"), (409, u "([C)V"), (90, u "serialPersistentFields"), (0, u "[Ljava/io/ObjectStreamField;"), (0, .class_ 1104), (0, u "java/lang/String$CaseInsensitiveComparator"), (1, .class_ 1107), (0, u "java/io/Serializable"), (0, .class_ 1109), (0, u "java/lang/Comparable"), (0, .class_ 1111), (0, u "java/lang/constant/Constable"), (0, .class_ 1113), (0, u "java/lang/constant/ConstantDesc"), (2, u "serialVersionUID"), (0, u "J"), (3, u "REPL"), (0, u "C"), (2, u "LATIN1"), (1, u "UTF16")] 323

def k15m0 : Method := { name := "<init>", desc := "()V", sig := { parameters := [], returnType := none }, accessFlags := 1, code := none }
def k15c1 : Code := { maxStack := 5, maxLocals := 2, code := jdk_42_method_3_code, exceptionTable := #[], attributes := #[] }
def k15m1 : Method := { name := "<init>", desc := "([C)V", sig := { parameters := [(.array .char)], returnType := none }, accessFlags := 1, code := some k15c1 }
def k15c2 : Code := { maxStack := 2, maxLocals := 3, code := jdk_42_method_66_code, exceptionTable := #[], attributes := #[] }
def k15m2 : Method := { name := "equals", desc := "(Ljava/lang/Object;)Z", sig := { parameters := [(.object "java/lang/Object")], returnType := some .boolean }, accessFlags := 1, code := some k15c2 }
def k15c3 : Code := { maxStack := 4, maxLocals := 6, code := jdk_42_method_149_code, exceptionTable := #[], attributes := #[] }
def k15m3 : Method := { name := "<init>", desc := "([CIILjava/lang/Void;)V", sig := { parameters := [(.array .char), .int, .int, (.object "java/lang/Void")], returnType := none }, accessFlags := 2, code := some k15c3 }
/-- java/lang/String -/
def k15 : Class := { plain "java/lang/String" (some 0) with
  accessFlags := 49
  interfaces := #[4, 3, 13, 2, 14]
  cf := some (fileOf pool15 10 #[.nestMembers #[1103]] #[{ accessFlags := 1, nameIndex := 5, descriptorIndex := 6, attributes := #[] }, { accessFlags := 1, nameIndex := 5, descriptorIndex := 1010, attributes := #[] }, { accessFlags := 1, nameIndex := 543, descriptorIndex := 573, attributes := #[] }, { accessFlags := 2, nameIndex := 5, descriptorIndex := 29, attributes := #[] }] 49 2 #[1106, 1108, 575, 1110, 1112] #[{ accessFlags := 18, nameIndex := 13, descriptorIndex := 14, attributes := #[] }, { accessFlags := 18, nameIndex := 17, descriptorIndex := 18, attributes := #[] }, { accessFlags := 2, nameIndex := 21, descriptorIndex := 22, attributes := #[] }, { accessFlags := 2, nameIndex := 25, descriptorIndex := 26, attributes := #[] }, { accessFlags := 26, nameIndex := 1116, descriptorIndex := 1117, attributes := #[] }, { accessFlags := 24, nameIndex := 40, descriptorIndex := 26, attributes := #[] }, { accessFlags := 26, nameIndex := 1101, descriptorIndex := 1102, attributes := #[] }, { accessFlags := 26, nameIndex := 1121, descriptorIndex := 1122, attributes := #[] }, { accessFlags := 25, nameIndex := 599, descriptorIndex := 600, attributes := #[] }, { accessFlags := 24, nameIndex := 1125, descriptorIndex := 18, attributes := #[] }, { accessFlags := 24, nameIndex := 1127, descriptorIndex := 18, attributes := #[] }])
  fields := #[{ name := "value", type := (.array .byte), accessFlags := 18, slot := 0, constantValue := 0 }, { name := "coder", type := .byte, accessFlags := 18, slot := 1, constantValue := 0 }, { name := "hash", type := .int, accessFlags := 2, slot := 2, constantValue := 0 }, { name := "hashIsZero", type := .boolean, accessFlags := 2, slot := 3, constantValue := 0 }, { name := "serialVersionUID", type := .long, accessFlags := 26, slot := 0, constantValue := 0 }, { name := "COMPACT_STRINGS", type := .boolean, accessFlags := 24, slot := 1, constantValue := 0 }, { name := "serialPersistentFields", type := (.array (.object "java/io/ObjectStreamField")), accessFlags := 26, slot := 2, constantValue := 0 }, { name := "REPL", type := .char, accessFlags := 26, slot := 3, constantValue := 0 }, { name := "CASE_INSENSITIVE_ORDER", type := (.object "java/util/Comparator"), accessFlags := 25, slot := 4, constantValue := 0 }, { name := "LATIN1", type := .byte, accessFlags := 24, slot := 5, constantValue := 0 }, { name := "UTF16", type := .byte, accessFlags := 24, slot := 6, constantValue := 0 }]
  methods := #[k15m0, k15m1, k15m2, k15m3]
  instanceTypes := #[(.array .byte), .byte, .int, .boolean]
  staticTypes := #[.long, .boolean, (.array (.object "java/io/ObjectStreamField")), .char, (.object "java/util/Comparator"), .byte, .byte]
  resolved := Array.replicate 1451 none
  statics := some 3 }

def pool16 : Array CpInfo := pool [(6, .class_ 8), (1, u "java/lang/Object"), (0, u "<init>"), (0, u "()V"), (1, .class_ 14), (1, u "java/lang/StringUTF16"), (31, u "$assertionsDisabled"), (0, u "Z"), (13, u "HI_BYTE_SHIFT"), (0, u "I"), (2, u "LO_BYTE_SHIFT"), (49, .methodref 12 116), (0, .nameAndType 117 118), (0, u "compress"), (0, u "([CI[BII)I"), (3, u "([CII)[B"), (138, u "coderFromArrayLen"), (0, u "([BI)B"), (106, .class_ 371), (1, u "java/lang/StringUTF16$LinesSpliterator"), (58, u "MAX_LENGTH"), (196, .class_ 628), (0, u "java/lang/StringUTF16$CodePointsSpliterator"), (0, .class_ 630), (0, u "java/lang/StringUTF16$CharsSpliterator")] 4

def k16m0 : Method := { name := "<init>", desc := "()V", sig := { parameters := [], returnType := none }, accessFlags := 0, code := none }
def k16c1 : Code := { maxStack := 2, maxLocals := 2, code := jdk_52_method_15_code, exceptionTable := #[], attributes := #[] }
def k16m1 : Method := { name := "coderFromArrayLen", desc := "([BI)B", sig := { parameters := [(.array .byte), .int], returnType := some .byte }, accessFlags := 8, code := some k16c1 }
def k16c2 : Code := { maxStack := 5, maxLocals := 6, code := jdk_52_method_16_code, exceptionTable := #[], attributes := #[] }
def k16m2 : Method := { name := "compress", desc := "([CII)[B", sig := { parameters := [(.array .char), .int, .int], returnType := some (.array .byte) }, accessFlags := 9, code := some k16c2 }
def k16c3 : Code := { maxStack := 3, maxLocals := 7, code := jdk_52_method_21_code, exceptionTable := #[], attributes := #[] }
def k16m3 : Method := { name := "compress", desc := "([CI[BII)I", sig := { parameters := [(.array .char), .int, (.array .byte), .int, .int], returnType := some .int }, accessFlags := 9, code := some k16c3 }
/-- java/lang/StringUTF16 -/
def k16 : Class := { plain "java/lang/StringUTF16" (some 0) with
  accessFlags := 48
  interfaces := #[]
  cf := some (fileOf pool16 12 #[.nestMembers #[627, 629, 369]] #[{ accessFlags := 0, nameIndex := 9, descriptorIndex := 10, attributes := #[] }, { accessFlags := 8, nameIndex := 261, descriptorIndex := 262, attributes := #[] }, { accessFlags := 9, nameIndex := 117, descriptorIndex := 122, attributes := #[] }, { accessFlags := 9, nameIndex := 117, descriptorIndex := 118, attributes := #[] }] 48 6 #[] #[{ accessFlags := 26, nameIndex := 61, descriptorIndex := 62, attributes := #[] }, { accessFlags := 26, nameIndex := 65, descriptorIndex := 62, attributes := #[] }, { accessFlags := 24, nameIndex := 430, descriptorIndex := 62, attributes := #[] }, { accessFlags := 4120, nameIndex := 46, descriptorIndex := 47, attributes := #[] }])
  fields := #[{ name := "HI_BYTE_SHIFT", type := .int, accessFlags := 26, slot := 0, constantValue := 0 }, { name := "LO_BYTE_SHIFT", type := .int, accessFlags := 26, slot := 1, constantValue := 0 }, { name := "MAX_LENGTH", type := .int, accessFlags := 24, slot := 2, constantValue := 0 }, { name := "$assertionsDisabled", type := .boolean, accessFlags := 4120, slot := 3, constantValue := 0 }]
  methods := #[k16m0, k16m1, k16m2, k16m3]
  instanceTypes := #[]
  staticTypes := #[.int, .int, .int, .boolean]
  resolved := Array.replicate 635 none
  statics := none }

def pool17 : Array CpInfo := pool [(2, .class_ 4), (1, u "java/lang/Object"), (0, u "<init>"), (0, u "()V"), (12, .class_ 20), (0, u "java/util/Collections"), (63, u "r"), (0, u "Ljava/util/Random;"), (80, .class_ 167), (0, u "java/util/Collections$UnmodifiableCollection"), (6, .class_ 175), (0, u "java/util/Collections$UnmodifiableSequencedCollection"), (6, .class_ 183), (0, u "java/util/Collections$UnmodifiableSet"), (6, .class_ 191), (0, u "java/util/Collections$UnmodifiableSequencedSet"), (6, .class_ 199), (0, u "java/util/Collections$UnmodifiableSortedSet"), (6, .class_ 207), (0, u "java/util/Collections$UnmodifiableNavigableSet"), (4, .class_ 213), (0, u "java/util/Collections$UnmodifiableList"), (1, .class_ 216), (0, u "java/util/Collections$UnmodifiableRandomAccessList"), (6, .class_ 224), (0, u "java/util/Collections$UnmodifiableMap"), (6, .class_ 232), (0, u "java/util/Collections$UnmodifiableSequencedMap"), (4, .class_ 238), (0, u "java/util/Collections$UnmodifiableSortedMap"), (6, .class_ 246), (0, u "java/util/Collections$UnmodifiableNavigableMap"), (3, .class_ 251), (0, u "java/util/Collections$SynchronizedCollection"), (4, .class_ 257), (0, u "java/util/Collections$SynchronizedSet"), (4, .class_ 263), (0, u "java/util/Collections$SynchronizedSortedSet"), (1, .class_ 266), (0, u "java/util/Collections$SynchronizedNavigableSet"), (1, .class_ 269), (0, u "java/util/Collections$SynchronizedRandomAccessList"), (1, .class_ 272), (0, u "java/util/Collections$SynchronizedList"), (5, .class_ 279), (0, u "java/util/Collections$SynchronizedMap"), (1, .class_ 282), (0, u "java/util/Collections$SynchronizedSortedMap"), (1, .class_ 285), (0, u "java/util/Collections$SynchronizedNavigableMap"), (1, .class_ 288), (0, u "java/util/Collections$CheckedCollection"), (11, .class_ 301), (0, u "java/util/Collections$CheckedQueue"), (3, .class_ 306), (0, u "java/util/Collections$CheckedSet"), (3, .class_ 311), (0, u "java/util/Collections$CheckedSortedSet"), (3, .class_ 316), (0, u "java/util/Collections$CheckedNavigableSet"), (3, .class_ 321), (0, u "java/util/Collections$CheckedRandomAccessList"), (3, .class_ 326), (0, u "java/util/Collections$CheckedList"), (1, .class_ 329), (0, u "java/util/Collections$CheckedMap"), (3, .class_ 334), (0, u "java/util/Collections$CheckedSortedMap"), (3, .class_ 339), (0, u "java/util/Collections$CheckedNavigableMap"), (4, .class_ 346), (1, u "java/util/Collections$EmptyIterator"), (3, .class_ 352), (1, u "java/util/Collections$EmptyListIterator"), (2, .class_ 357), (1, u "java/util/Collections$EmptyEnumeration"), (4, u "EMPTY_SET"), (0, u "Ljava/util/Set;"), (6, u "EMPTY_LIST"), (0, u "Ljava/util/List;"), (2, u "EMPTY_MAP"), (0, u "Ljava/util/Map;"), (4, .class_ 381), (0, u "java/util/Collections$SingletonSet"), (2, .class_ 385), (0, u "java/util/Collections$1"), (1, .class_ 388), (0, u "java/util/Collections$2"), (1, .class_ 391), (0, u "java/util/Collections$SingletonList"), (1, .class_ 394), (0, u "java/util/Collections$SingletonMap"), (22, .class_ 418), (0, u "java/util/Collections$CopiesList"), (4, .class_ 425), (1, u "java/util/Collections$ReverseComparator"), (8, .class_ 435), (0, u "java/util/Collections$ReverseComparator2"), (6, .class_ 443), (0, u "java/util/Collections$3"), (25, .class_ 470), (0, u "java/util/Collections$SetFromMap"), (2, .class_ 474), (0, u "java/util/Collections$SequencedSetFromMap"), (3, .class_ 479), (0, u "java/util/Collections$AsLIFOQueue"), (11, .class_ 492), (0, u "java/util/Collections$EmptySet"), (1, .class_ 495), (0, u "java/util/Collections$EmptyList"), (1, .class_ 498), (0, u "java/util/Collections$EmptyMap"), (1, u "BINARYSEARCH_THRESHOLD"), (0, u "I"), (2, u "REVERSE_THRESHOLD"), (1, u "SHUFFLE_THRESHOLD"), (1, u "FILL_THRESHOLD"), (1, u "ROTATE_THRESHOLD"), (1, u "COPY_THRESHOLD"), (1, u "REPLACEALL_THRESHOLD"), (1, u "INDEXOFSUBLIST_THRESHOLD"), (333, .class_ 851), (0, u "java/util/Collections$CheckedMap$CheckedEntrySet"), (0, .class_ 853), (0, u "java/util/Collections$CheckedMap$CheckedEntrySet$CheckedEntry"), (0, .class_ 855), (0, u "java/util/Collections$CheckedMap$CheckedEntrySet$1"), (0, .class_ 857), (0, u "java/util/Collections$CheckedList$1"), (0, .class_ 859), (0, u "java/util/Collections$CheckedCollection$1"), (0, .class_ 861), (0, u "java/util/Collections$UnmodifiableNavigableMap$EmptyNavigableMap"), (0, .class_ 863), (0, u "java/util/Collections$UnmodifiableMap$UnmodifiableEntrySet"), (0, .class_ 865), (0, u "java/util/Collections$UnmodifiableMap$UnmodifiableEntrySet$UnmodifiableEntry"), (0, .class_ 867), (0, u "java/util/Collections$UnmodifiableMap$UnmodifiableEntrySet$UnmodifiableEntrySetSpliterator"), (0, .class_ 869), (0, u "java/util/Collections$UnmodifiableMap$UnmodifiableEntrySet$1"), (0, .class_ 871), (0, u "java/util/Collections$UnmodifiableList$1"), (0, .class_ 873), (0, u "java/util/Collections$UnmodifiableNavigableSet$EmptyNavigableSet"), (0, .class_ 875), (0, u "java/util/Collections$UnmodifiableCollection$1")] 57

def k17m0 : Method := { name := "<init>", desc := "()V", sig := { parameters := [], returnType := none }, accessFlags := 2, code := none }
/-- java/util/Collections -/
def k17 : Class := { plain "java/util/Collections" (some 0) with
  accessFlags := 33
  interfaces := #[]
  cf := some (fileOf pool17 19 #[.nestMembers #[478, 473, 469, 434, 423, 417, 393, 390, 380, 497, 494, 491, 355, 350, 344, 338, 333, 328, 850, 852, 854, 320, 325, 856, 315, 310, 305, 300, 287, 858, 284, 281, 278, 268, 271, 265, 262, 256, 250, 245, 860, 237, 231, 223, 862, 864, 866, 868, 215, 212, 870, 206, 872, 198, 190, 182, 174, 166, 874, 442, 387, 384]] #[{ accessFlags := 2, nameIndex := 5, descriptorIndex := 6, attributes := #[] }] 33 2 #[] #[{ accessFlags := 26, nameIndex := 500, descriptorIndex := 501, attributes := #[] }, { accessFlags := 26, nameIndex := 504, descriptorIndex := 501, attributes := #[] }, { accessFlags := 26, nameIndex := 506, descriptorIndex := 501, attributes := #[] }, { accessFlags := 26, nameIndex := 508, descriptorIndex := 501, attributes := #[] }, { accessFlags := 26, nameIndex := 510, descriptorIndex := 501, attributes := #[] }, { accessFlags := 26, nameIndex := 512, descriptorIndex := 501, attributes := #[] }, { accessFlags := 26, nameIndex := 514, descriptorIndex := 501, attributes := #[] }, { accessFlags := 26, nameIndex := 516, descriptorIndex := 501, attributes := #[] }, { accessFlags := 10, nameIndex := 84, descriptorIndex := 85, attributes := #[] }, { accessFlags := 25, nameIndex := 362, descriptorIndex := 363, attributes := #[] }, { accessFlags := 25, nameIndex := 370, descriptorIndex := 371, attributes := #[] }, { accessFlags := 25, nameIndex := 374, descriptorIndex := 375, attributes := #[] }])
  fields := #[{ name := "BINARYSEARCH_THRESHOLD", type := .int, accessFlags := 26, slot := 0, constantValue := 0 }, { name := "REVERSE_THRESHOLD", type := .int, accessFlags := 26, slot := 1, constantValue := 0 }, { name := "SHUFFLE_THRESHOLD", type := .int, accessFlags := 26, slot := 2, constantValue := 0 }, { name := "FILL_THRESHOLD", type := .int, accessFlags := 26, slot := 3, constantValue := 0 }, { name := "ROTATE_THRESHOLD", type := .int, accessFlags := 26, slot := 4, constantValue := 0 }, { name := "COPY_THRESHOLD", type := .int, accessFlags := 26, slot := 5, constantValue := 0 }, { name := "REPLACEALL_THRESHOLD", type := .int, accessFlags := 26, slot := 6, constantValue := 0 }, { name := "INDEXOFSUBLIST_THRESHOLD", type := .int, accessFlags := 26, slot := 7, constantValue := 0 }, { name := "r", type := (.object "java/util/Random"), accessFlags := 10, slot := 8, constantValue := 0 }, { name := "EMPTY_SET", type := (.object "java/util/Set"), accessFlags := 25, slot := 9, constantValue := 0 }, { name := "EMPTY_LIST", type := (.object "java/util/List"), accessFlags := 25, slot := 10, constantValue := 0 }, { name := "EMPTY_MAP", type := (.object "java/util/Map"), accessFlags := 25, slot := 11, constantValue := 0 }]
  methods := #[k17m0]
  instanceTypes := #[]
  staticTypes := #[.int, .int, .int, .int, .int, .int, .int, .int, (.object "java/util/Random"), (.object "java/util/Set"), (.object "java/util/List"), (.object "java/util/Map")]
  resolved := Array.replicate 933 none
  statics := some 4 }

def pool18 : Array CpInfo := pool [(4, .class_ 6), (1, u "java/lang/Object"), (0, u "<init>"), (0, u "()V"), (5, .class_ 16), (1, u "java/lang/StringLatin1"), (104, u "$assertionsDisabled"), (0, u "Z"), (98, .class_ 223), (1, u "java/lang/StringLatin1$LinesSpliterator"), (166, .class_ 391), (0, u "java/lang/StringLatin1$CharsSpliterator")] 3

def k18m0 : Method := { name := "<init>", desc := "()V", sig := { parameters := [], returnType := none }, accessFlags := 0, code := none }
/-- java/lang/StringLatin1 -/
def k18 : Class := { plain "java/lang/StringLatin1" (some 0) with
  accessFlags := 48
  interfaces := #[]
  cf := some (fileOf pool18 14 #[.nestMembers #[390, 221]] #[{ accessFlags := 0, nameIndex := 7, descriptorIndex := 8, attributes := #[] }] 48 4 #[] #[{ accessFlags := 4120, nameIndex := 121, descriptorIndex := 122, attributes := #[] }])
  fields := #[{ name := "$assertionsDisabled", type := .boolean, accessFlags := 4120, slot := 0, constantValue := 0 }]
  methods := #[k18m0]
  instanceTypes := #[]
  staticTypes := #[.boolean]
  resolved := Array.replicate 395 none
  statics := none }

def pool19 : Array CpInfo := pool [(2, .class_ 4), (1, u "java/lang/Object"), (0, u "<init>"), (0, u "()V"), (17, .class_ 26), (1, u "jdk/internal/util/Preconditions"), (28, .class_ 56), (0, u "jdk/internal/util/Preconditions$4"), (57, .class_ 115), (0, u "jdk/internal/util/Preconditions$1"), (7, u "SIOOBE_FORMATTER"), (0, u "Ljava/util/function/BiFunction;"), (0, .class_ 126), (0, u "jdk/internal/util/Preconditions$2"), (3, u "AIOOBE_FORMATTER"), (0, .class_ 132), (0, u "jdk/internal/util/Preconditions$3"), (3, u "IOOBE_FORMATTER")] 57

def k19m0 : Method := { name := "<init>", desc := "()V", sig := { parameters := [], returnType := none }, accessFlags := 1, code := none }
/-- jdk/internal/util/Preconditions -/
def k19 : Class := { plain "jdk/internal/util/Preconditions" (some 0) with
  accessFlags := 33
  interfaces := #[]
  cf := some (fileOf pool19 24 #[.nestMembers #[55, 131, 125, 114]] #[{ accessFlags := 1, nameIndex := 5, descriptorIndex := 6, attributes := #[] }] 33 2 #[] #[{ accessFlags := 25, nameIndex := 123, descriptorIndex := 124, attributes := #[] }, { accessFlags := 25, nameIndex := 130, descriptorIndex := 124, attributes := #[] }, { accessFlags := 25, nameIndex := 136, descriptorIndex := 124, attributes := #[] }])
  fields := #[{ name := "SIOOBE_FORMATTER", type := (.object "java/util/function/BiFunction"), accessFlags := 25, slot := 0, constantValue := 0 }, { name := "AIOOBE_FORMATTER", type := (.object "java/util/function/BiFunction"), accessFlags := 25, slot := 1, constantValue := 0 }, { name := "IOOBE_FORMATTER", type := (.object "java/util/function/BiFunction"), accessFlags := 25, slot := 2, constantValue := 0 }]
  methods := #[k19m0]
  instanceTypes := #[]
  staticTypes := #[(.object "java/util/function/BiFunction"), (.object "java/util/function/BiFunction"), (.object "java/util/function/BiFunction")]
  resolved := Array.replicate 194 none
  statics := some 5 }

def pool20 : Array CpInfo := pool [(9, u "<init>"), (6, .class_ 18), (1, u "java/lang/Object"), (0, u "()V"), (1, .class_ 23), (1, u "jdk/internal/util/ArraysSupport"), (0, u "LOG2_ARRAY_LONG_INDEX_SCALE"), (0, u "I"), (2, u "U"), (0, u "Ljdk/internal/misc/Unsafe;"), (8, u "BIG_ENDIAN"), (0, u "Z"), (8, u "LOG2_BYTE_BIT_SIZE"), (4, u "LOG2_ARRAY_INT_INDEX_SCALE"), (54, u "JLA"), (0, u "Ljdk/internal/access/JavaLangAccess;"), (11, u "LOG2_ARRAY_BOOLEAN_INDEX_SCALE"), (9, u "LOG2_ARRAY_BYTE_INDEX_SCALE"), (5, u "LOG2_ARRAY_CHAR_INDEX_SCALE"), (5, u "LOG2_ARRAY_SHORT_INDEX_SCALE"), (18, u "LOG2_ARRAY_FLOAT_INDEX_SCALE"), (24, u "LOG2_ARRAY_DOUBLE_INDEX_SCALE"), (89, u "T_BOOLEAN"), (2, u "T_CHAR"), (1, u "T_FLOAT"), (1, u "T_DOUBLE"), (1, u "T_BYTE"), (1, u "T_SHORT"), (1, u "T_INT"), (1, u "T_LONG"), (1, u "SOFT_MAX_ARRAY_LENGTH")] 83

def k20m0 : Method := { name := "<init>", desc := "()V", sig := { parameters := [], returnType := none }, accessFlags := 2, code := none }
/-- jdk/internal/util/ArraysSupport -/
def k20 : Class := { plain "jdk/internal/util/ArraysSupport" (some 0) with
  accessFlags := 33
  interfaces := #[]
  cf := some (fileOf pool20 21 #[] #[{ accessFlags := 2, nameIndex := 9, descriptorIndex := 19, attributes := #[] }] 33 16 #[] #[{ accessFlags := 24, nameIndex := 28, descriptorIndex := 29, attributes := #[] }, { accessFlags := 26, nameIndex := 38, descriptorIndex := 39, attributes := #[] }, { accessFlags := 25, nameIndex := 121, descriptorIndex := 25, attributes := #[] }, { accessFlags := 25, nameIndex := 131, descriptorIndex := 25, attributes := #[] }, { accessFlags := 25, nameIndex := 137, descriptorIndex := 25, attributes := #[] }, { accessFlags := 25, nameIndex := 143, descriptorIndex := 25, attributes := #[] }, { accessFlags := 25, nameIndex := 53, descriptorIndex := 25, attributes := #[] }, { accessFlags := 25, nameIndex := 24, descriptorIndex := 25, attributes := #[] }, { accessFlags := 25, nameIndex := 162, descriptorIndex := 25, attributes := #[] }, { accessFlags := 25, nameIndex := 187, descriptorIndex := 25, attributes := #[] }, { accessFlags := 26, nameIndex := 48, descriptorIndex := 25, attributes := #[] }, { accessFlags := 25, nameIndex := 277, descriptorIndex := 25, attributes := #[] }, { accessFlags := 25, nameIndex := 280, descriptorIndex := 25, attributes := #[] }, { accessFlags := 25, nameIndex := 282, descriptorIndex := 25, attributes := #[] }, { accessFlags := 25, nameIndex := 284, descriptorIndex := 25, attributes := #[] }, { accessFlags := 25, nameIndex := 286, descriptorIndex := 25, attributes := #[] }, { accessFlags := 25, nameIndex := 288, descriptorIndex := 25, attributes := #[] }, { accessFlags := 25, nameIndex := 290, descriptorIndex := 25, attributes := #[] }, { accessFlags := 25, nameIndex := 292, descriptorIndex := 25, attributes := #[] }, { accessFlags := 26, nameIndex := 108, descriptorIndex := 109, attributes := #[] }, { accessFlags := 25, nameIndex := 294, descriptorIndex := 25, attributes := #[] }])
  fields := #[{ name := "U", type := (.object "jdk/internal/misc/Unsafe"), accessFlags := 24, slot := 0, constantValue := 0 }, { name := "BIG_ENDIAN", type := .boolean, accessFlags := 26, slot := 1, constantValue := 0 }, { name := "LOG2_ARRAY_BOOLEAN_INDEX_SCALE", type := .int, accessFlags := 25, slot := 2, constantValue := 0 }, { name := "LOG2_ARRAY_BYTE_INDEX_SCALE", type := .int, accessFlags := 25, slot := 3, constantValue := 0 }, { name := "LOG2_ARRAY_CHAR_INDEX_SCALE", type := .int, accessFlags := 25, slot := 4, constantValue := 0 }, { name := "LOG2_ARRAY_SHORT_INDEX_SCALE", type := .int, accessFlags := 25, slot := 5, constantValue := 0 }, { name := "LOG2_ARRAY_INT_INDEX_SCALE", type := .int, accessFlags := 25, slot := 6, constantValue := 0 }, { name := "LOG2_ARRAY_LONG_INDEX_SCALE", type := .int, accessFlags := 25, slot := 7, constantValue := 0 }, { name := "LOG2_ARRAY_FLOAT_INDEX_SCALE", type := .int, accessFlags := 25, slot := 8, constantValue := 0 }, { name := "LOG2_ARRAY_DOUBLE_INDEX_SCALE", type := .int, accessFlags := 25, slot := 9, constantValue := 0 }, { name := "LOG2_BYTE_BIT_SIZE", type := .int, accessFlags := 26, slot := 10, constantValue := 0 }, { name := "T_BOOLEAN", type := .int, accessFlags := 25, slot := 11, constantValue := 0 }, { name := "T_CHAR", type := .int, accessFlags := 25, slot := 12, constantValue := 0 }, { name := "T_FLOAT", type := .int, accessFlags := 25, slot := 13, constantValue := 0 }, { name := "T_DOUBLE", type := .int, accessFlags := 25, slot := 14, constantValue := 0 }, { name := "T_BYTE", type := .int, accessFlags := 25, slot := 15, constantValue := 0 }, { name := "T_SHORT", type := .int, accessFlags := 25, slot := 16, constantValue := 0 }, { name := "T_INT", type := .int, accessFlags := 25, slot := 17, constantValue := 0 }, { name := "T_LONG", type := .int, accessFlags := 25, slot := 18, constantValue := 0 }, { name := "JLA", type := (.object "jdk/internal/access/JavaLangAccess"), accessFlags := 26, slot := 19, constantValue := 0 }, { name := "SOFT_MAX_ARRAY_LENGTH", type := .int, accessFlags := 25, slot := 20, constantValue := 0 }]
  methods := #[k20m0]
  instanceTypes := #[]
  staticTypes := #[(.object "jdk/internal/misc/Unsafe"), .boolean, .int, .int, .int, .int, .int, .int, .int, .int, .int, .int, .int, .int, .int, .int, .int, .int, .int, (.object "jdk/internal/access/JavaLangAccess"), .int]
  resolved := Array.replicate 378 none
  statics := none }

def pool21 : Array CpInfo := pool [(8, .class_ 10), (1, u "java/lang/Iterable"), (24, .class_ 36), (0, u "java/lang/Object")] 25

/-- java/lang/Iterable -/
def k21 : Class := { plain "java/lang/Iterable" (some 0) with
  accessFlags := 1537
  interfaces := #[]
  cf := some (fileOf pool21 8 #[] #[] 1537 35 #[] #[])
  fields := #[]
  methods := #[]
  instanceTypes := #[]
  staticTypes := #[]
  resolved := Array.replicate 62 none
  statics := none }

def pool22 : Array CpInfo := pool [(10, .class_ 12), (1, u "java/util/Collection"), (47, .class_ 61), (0, u "java/lang/Object"), (0, .class_ 63), (0, u "java/lang/Iterable")] 51

/-- java/util/Collection -/
def k22 : Class := { plain "java/util/Collection" (some 0) with
  accessFlags := 1537
  interfaces := #[21]
  cf := some (fileOf pool22 10 #[] #[] 1537 60 #[62] #[])
  fields := #[]
  methods := #[]
  instanceTypes := #[]
  staticTypes := #[]
  resolved := Array.replicate 115 none
  statics := none }

def pool23 : Array CpInfo := pool [(2, .class_ 4), (1, u "java/lang/Object"), (0, u "<init>"), (0, u "()V"), (1, .class_ 10), (1, u "java/util/AbstractCollection"), (66, .class_ 78), (0, u "java/util/Collection")] 81

def k23m0 : Method := { name := "<init>", desc := "()V", sig := { parameters := [], returnType := none }, accessFlags := 4, code := none }
/-- java/util/AbstractCollection -/
def k23 : Class := { plain "java/util/AbstractCollection" (some 0) with
  accessFlags := 1057
  interfaces := #[22]
  cf := some (fileOf pool23 8 #[] #[{ accessFlags := 4, nameIndex := 5, descriptorIndex := 6, attributes := #[] }] 1057 2 #[77] #[])
  fields := #[]
  methods := #[k23m0]
  instanceTypes := #[]
  staticTypes := #[]
  resolved := Array.replicate 160 none
  statics := none }

def pool24 : Array CpInfo := pool [(8, .class_ 10), (1, u "java/util/SequencedCollection"), (15, .class_ 27), (0, u "java/lang/Object"), (0, .class_ 29), (0, u "java/util/Collection")] 27

/-- java/util/SequencedCollection -/
def k24 : Class := { plain "java/util/SequencedCollection" (some 0) with
  accessFlags := 1537
  interfaces := #[22]
  cf := some (fileOf pool24 8 #[] #[] 1537 26 #[28] #[])
  fields := #[]
  methods := #[]
  instanceTypes := #[]
  staticTypes := #[]
  resolved := Array.replicate 57 none
  statics := none }

def pool25 : Array CpInfo := pool [(8, .class_ 10), (1, u "java/util/List"), (92, .class_ 104), (0, u "java/lang/Object"), (15, .class_ 121), (0, u "java/util/SequencedCollection")] 129

/-- java/util/List -/
def k25 : Class := { plain "java/util/List" (some 0) with
  accessFlags := 1537
  interfaces := #[24]
  cf := some (fileOf pool25 8 #[] #[] 1537 103 #[120] #[])
  fields := #[]
  methods := #[]
  instanceTypes := #[]
  staticTypes := #[]
  resolved := Array.replicate 251 none
  statics := none }

def pool26 : Array CpInfo := pool [(2, .class_ 4), (1, u "java/util/AbstractCollection"), (0, u "<init>"), (0, u "()V"), (1, .class_ 10), (1, u "java/util/AbstractList"), (0, u "modCount"), (0, u "I"), (64, .class_ 78), (0, u "java/util/AbstractList$Itr"), (3, .class_ 83), (0, u "java/util/AbstractList$ListItr"), (9, .class_ 94), (0, u "java/util/AbstractList$RandomAccessSubList"), (3, .class_ 99), (0, u "java/util/AbstractList$SubList"), (33, .class_ 134), (0, u "java/util/List"), (73, .class_ 209), (0, u "java/util/AbstractList$SubList$1"), (0, .class_ 211), (0, u "java/util/AbstractList$RandomAccessSpliterator")] 6

def k26m0 : Method := { name := "<init>", desc := "()V", sig := { parameters := [], returnType := none }, accessFlags := 4, code := none }
/-- java/util/AbstractList -/
def k26 : Class := { plain "java/util/AbstractList" (some 23) with
  accessFlags := 1057
  interfaces := #[25]
  cf := some (fileOf pool26 8 #[.nestMembers #[93, 98, 208, 210, 82, 77]] #[{ accessFlags := 4, nameIndex := 5, descriptorIndex := 6, attributes := #[] }] 1057 2 #[133] #[{ accessFlags := 132, nameIndex := 11, descriptorIndex := 12, attributes := #[] }])
  fields := #[{ name := "modCount", type := .int, accessFlags := 132, slot := 0, constantValue := 0 }]
  methods := #[k26m0]
  instanceTypes := #[.int]
  staticTypes := #[]
  resolved := Array.replicate 218 none
  statics := none }

def pool27 : Array CpInfo := pool [(1, .class_ 2), (0, u "java/util/RandomAccess"), (0, .class_ 4), (0, u "java/lang/Object")] 2

/-- java/util/RandomAccess -/
def k27 : Class := { plain "java/util/RandomAccess" (some 0) with
  accessFlags := 1537
  interfaces := #[]
  cf := some (fileOf pool27 1 #[] #[] 1537 3 #[] #[])
  fields := #[]
  methods := #[]
  instanceTypes := #[]
  staticTypes := #[]
  resolved := Array.replicate 7 none
  statics := none }

def pool28 : Array CpInfo := pool [(2, .class_ 4), (1, u "java/util/AbstractList"), (0, u "<init>"), (0, u "()V"), (1, .class_ 10), (1, u "java/util/Collections"), (54, .class_ 66), (0, u "java/util/Collections$EmptyList"), (0, .class_ 68), (0, u "java/util/RandomAccess"), (0, .class_ 70), (0, u "java/io/Serializable"), (0, u "serialVersionUID"), (0, u "J")] 77

def k28m0 : Method := { name := "<init>", desc := "()V", sig := { parameters := [], returnType := none }, accessFlags := 2, code := none }
/-- java/util/Collections$EmptyList -/
def k28 : Class := { plain "java/util/Collections$EmptyList" (some 26) with
  accessFlags := 32
  interfaces := #[27, 4]
  cf := some (fileOf pool28 65 #[.nestHost 8] #[{ accessFlags := 2, nameIndex := 5, descriptorIndex := 6, attributes := #[] }] 32 2 #[67, 69] #[{ accessFlags := 26, nameIndex := 71, descriptorIndex := 72, attributes := #[] }])
  fields := #[{ name := "serialVersionUID", type := .long, accessFlags := 26, slot := 0, constantValue := 0 }]
  methods := #[k28m0]
  instanceTypes := #[.int]
  staticTypes := #[.long]
  resolved := Array.replicate 150 none
  statics := none }

def pool29 : Array CpInfo := pool [(2, .class_ 4), (1, u "java/lang/StackTraceElement"), (0, u "<init>"), (2, .class_ 10), (1, u "java/lang/Object"), (0, u "()V"), (2, u "format"), (0, u "B"), (2, u "classLoaderName"), (0, u "Ljava/lang/String;"), (2, u "moduleName"), (2, u "moduleVersion"), (12, u "declaringClass"), (4, u "methodName"), (2, u "fileName"), (2, u "lineNumber"), (0, u "I"), (65, u "declaringClassObject"), (0, u "Ljava/lang/Class;"), (33, .class_ 153), (1, u "java/lang/StackTraceElement$HashedModules"), (17, .class_ 172), (0, u "java/io/Serializable"), (0, u "NATIVE_METHOD"), (1, u "UNKNOWN_SOURCE"), (2, u "BUILTIN_CLASS_LOADER"), (1, u "JDK_NON_UPGRADEABLE_MODULE"), (1, u "serialVersionUID"), (0, u "J")] 51

def k29m0 : Method := { name := "<init>", desc := "()V", sig := { parameters := [], returnType := none }, accessFlags := 2, code := none }
/-- java/lang/StackTraceElement -/
def k29 : Class := { plain "java/lang/StackTraceElement" (some 0) with
  accessFlags := 49
  interfaces := #[4]
  cf := some (fileOf pool29 2 #[.nestMembers #[151]] #[{ accessFlags := 2, nameIndex := 5, descriptorIndex := 11, attributes := #[] }] 49 8 #[171] #[{ accessFlags := 26, nameIndex := 173, descriptorIndex := 19, attributes := #[] }, { accessFlags := 26, nameIndex := 175, descriptorIndex := 19, attributes := #[] }, { accessFlags := 130, nameIndex := 116, descriptorIndex := 117, attributes := #[] }, { accessFlags := 2, nameIndex := 18, descriptorIndex := 19, attributes := #[] }, { accessFlags := 2, nameIndex := 22, descriptorIndex := 19, attributes := #[] }, { accessFlags := 2, nameIndex := 25, descriptorIndex := 19, attributes := #[] }, { accessFlags := 2, nameIndex := 38, descriptorIndex := 19, attributes := #[] }, { accessFlags := 2, nameIndex := 43, descriptorIndex := 19, attributes := #[] }, { accessFlags := 2, nameIndex := 46, descriptorIndex := 19, attributes := #[] }, { accessFlags := 2, nameIndex := 49, descriptorIndex := 50, attributes := #[] }, { accessFlags := 2, nameIndex := 14, descriptorIndex := 15, attributes := #[] }, { accessFlags := 26, nameIndex := 178, descriptorIndex := 15, attributes := #[] }, { accessFlags := 26, nameIndex := 180, descriptorIndex := 15, attributes := #[] }, { accessFlags := 26, nameIndex := 182, descriptorIndex := 183, attributes := #[] }])
  fields := #[{ name := "NATIVE_METHOD", type := (.object "java/lang/String"), accessFlags := 26, slot := 0, constantValue := 0 }, { name := "UNKNOWN_SOURCE", type := (.object "java/lang/String"), accessFlags := 26, slot := 1, constantValue := 0 }, { name := "declaringClassObject", type := (.object "java/lang/Class"), accessFlags := 130, slot := 0, constantValue := 0 }, { name := "classLoaderName", type := (.object "java/lang/String"), accessFlags := 2, slot := 1, constantValue := 0 }, { name := "moduleName", type := (.object "java/lang/String"), accessFlags := 2, slot := 2, constantValue := 0 }, { name := "moduleVersion", type := (.object "java/lang/String"), accessFlags := 2, slot := 3, constantValue := 0 }, { name := "declaringClass", type := (.object "java/lang/String"), accessFlags := 2, slot := 4, constantValue := 0 }, { name := "methodName", type := (.object "java/lang/String"), accessFlags := 2, slot := 5, constantValue := 0 }, { name := "fileName", type := (.object "java/lang/String"), accessFlags := 2, slot := 6, constantValue := 0 }, { name := "lineNumber", type := .int, accessFlags := 2, slot := 7, constantValue := 0 }, { name := "format", type := .byte, accessFlags := 2, slot := 8, constantValue := 0 }, { name := "BUILTIN_CLASS_LOADER", type := .byte, accessFlags := 26, slot := 2, constantValue := 0 }, { name := "JDK_NON_UPGRADEABLE_MODULE", type := .byte, accessFlags := 26, slot := 3, constantValue := 0 }, { name := "serialVersionUID", type := .long, accessFlags := 26, slot := 4, constantValue := 0 }]
  methods := #[k29m0]
  instanceTypes := #[(.object "java/lang/Class"), (.object "java/lang/String"), (.object "java/lang/String"), (.object "java/lang/String"), (.object "java/lang/String"), (.object "java/lang/String"), (.object "java/lang/String"), .int, .byte]
  staticTypes := #[(.object "java/lang/String"), (.object "java/lang/String"), .byte, .byte, .long]
  resolved := Array.replicate 235 none
  statics := none }

def pool30 : Array CpInfo := pool [(1, u "java/lang/Cloneable"), (0, .class_ 1), (0, u "java/lang/Object"), (0, .class_ 3)] 3

/-- java/lang/Cloneable -/
def k30 : Class := { plain "java/lang/Cloneable" (some 0) with
  accessFlags := 1537
  interfaces := #[]
  cf := some (fileOf pool30 2 #[] #[] 1537 4 #[] #[])
  fields := #[]
  methods := #[]
  instanceTypes := #[]
  staticTypes := #[]
  resolved := Array.replicate 8 none
  statics := none }

/-- the primitive byte -/
def k31 : Class := { plain "byte" none with kind := .primitive 'B', accessFlags := 0x411 }
/-- [B -/
def k32 : Class := { plain "[B" (some 0) with kind := .array 31 .byte, interfaces := #[30, 4], accessFlags := 1041 }

/-- the primitive char -/
def k33 : Class := { plain "char" none with kind := .primitive 'C', accessFlags := 0x411 }
/-- [C -/
def k34 : Class := { plain "[C" (some 0) with kind := .array 33 .char, interfaces := #[30, 4], accessFlags := 1041 }

/-- the primitive int -/
def k35 : Class := { plain "int" none with kind := .primitive 'I', accessFlags := 0x411 }
/-- [I -/
def k36 : Class := { plain "[I" (some 0) with kind := .array 35 .int, interfaces := #[30, 4], accessFlags := 1041 }

/-- [Lcom/example/shelfmark/shelfmark/model/QueryRefusedException$Reason; -/
def k37 : Class := { plain "[Lcom/example/shelfmark/shelfmark/model/QueryRefusedException$Reason;" (some 0) with kind := .array 6 (.object "com/example/shelfmark/shelfmark/model/QueryRefusedException$Reason"), interfaces := #[30, 4], accessFlags := 1041 }

/-- [Ljava/lang/Object; -/
def k38 : Class := { plain "[Ljava/lang/Object;" (some 0) with kind := .array 0 (.object "java/lang/Object"), interfaces := #[30, 4], accessFlags := 1041 }

/-- [Ljava/lang/StackTraceElement; -/
def k39 : Class := { plain "[Ljava/lang/StackTraceElement;" (some 0) with kind := .array 29 (.object "java/lang/StackTraceElement"), interfaces := #[30, 4], accessFlags := 1041 }

/-- [Ljava/lang/Throwable; -/
def k40 : Class := { plain "[Ljava/lang/Throwable;" (some 0) with kind := .array 7 (.object "java/lang/Throwable"), interfaces := #[30, 4], accessFlags := 1041 }

def heap : Heap := #[{ cls := 6, slots := #[.ref 6, .ref 7, .ref 8, .ref 9, .ref 10, .ref 11, .ref 12, .ref 13, .ref 14, .ref 15, .ref 16, .ref 17, .ref 18, .ref 19, .ref 20, .ref 21, .ref 22, .ref 23, .ref 24, .null], vm := .statics 6 },
  { cls := 7, slots := #[.long 0, .ref 26, .ref 27, .null, .null, .null, .null, .ref 28, .int 1], vm := .statics 7 },
  { cls := 12, slots := #[.ref 25], vm := .statics 12 },
  { cls := 15, slots := #[.long 0, .int 1, .null, .int 0, .null, .int 0, .int 0], vm := .statics 15 },
  { cls := 17, slots := #[.int 0, .int 0, .int 0, .int 0, .int 0, .int 0, .int 0, .int 0, .null, .null, .ref 27, .null], vm := .statics 17 },
  { cls := 19, slots := #[.null, .null, .null], vm := .statics 19 },
  { cls := 6, slots := #[.null, .int 0, .int 0], vm := .none },
  { cls := 6, slots := #[.null, .int 1, .int 0], vm := .none },
  { cls := 6, slots := #[.null, .int 2, .int 0], vm := .none },
  { cls := 6, slots := #[.null, .int 3, .int 0], vm := .none },
  { cls := 6, slots := #[.null, .int 4, .int 0], vm := .none },
  { cls := 6, slots := #[.null, .int 5, .int 0], vm := .none },
  { cls := 6, slots := #[.null, .int 6, .int 0], vm := .none },
  { cls := 6, slots := #[.null, .int 7, .int 0], vm := .none },
  { cls := 6, slots := #[.null, .int 8, .int 0], vm := .none },
  { cls := 6, slots := #[.null, .int 9, .int 0], vm := .none },
  { cls := 6, slots := #[.null, .int 10, .int 0], vm := .none },
  { cls := 6, slots := #[.null, .int 11, .int 0], vm := .none },
  { cls := 6, slots := #[.null, .int 12, .int 0], vm := .none },
  { cls := 6, slots := #[.null, .int 13, .int 0], vm := .none },
  { cls := 6, slots := #[.null, .int 14, .int 0], vm := .none },
  { cls := 6, slots := #[.null, .int 15, .int 0], vm := .none },
  { cls := 6, slots := #[.null, .int 16, .int 0], vm := .none },
  { cls := 6, slots := #[.null, .int 17, .int 0], vm := .none },
  { cls := 6, slots := #[.null, .int 18, .int 0], vm := .none },
  { cls := 36, slots := #[.int 1, .int 2, .int 3, .int 4, .int 7, .int 5, .int 6, .int 19, .int 11, .int 14, .int 10, .int 9, .int 15, .int 12, .int 8, .int 13, .int 16, .int 17, .int 18], vm := .none },
  { cls := 39, slots := #[], vm := .none },
  { cls := 28, slots := #[.int 0], vm := .none },
  { cls := 40, slots := #[], vm := .none }]
def classes : Array Class := #[k0, k1, k2, k3, k4, k5, k6, k7, k8, k9, k10, k11, k12, k13, k14, k15, k16, k17, k18, k19, k20, k21, k22, k23, k24, k25, k26, k27, k28, k29, k30, k31, k32, k33, k34, k35, k36, k37, k38, k39, k40]
def interned : List (Array UInt16 × Addr) := []
def slotsUsed : Nat := 129
def theMethod : MethodId := ⟨1, 1⟩
def args0 : Array Value := #[.int 5, .int 0, .int 97]
def aboutOver (below : List Frame) : State where
  vm := { classes := classes, interned := interned.toArray }
  heap := heap
  slotsUsed := slotsUsed
  threads := #[{ frames := .invoking theMethod args0 :: below }]
def below0 : List Frame := [.native { method := ⟨0, 0⟩, args := #[] }]
def about1 : State := aboutOver below0
def p0 : Program := .bare "" "" ""
def e0 : Env := launch0.env 0 0 0
theorem w_frames : about1.frames = Frame.invoking theMethod args0 :: below0 := rfl
set_option maxRecDepth 65536 in
theorem w_args : argsFit about1.vm theMethod args0 = true := by decide +kernel
set_option maxRecDepth 65536 in
theorem w_heap : heapFits about1 = true := by decide +kernel
set_option maxRecDepth 65536 in
theorem w_runnable : about1.curStatus? = some .runnable := by decide +kernel
set_option maxRecDepth 65536 in
theorem w_alone : about1.alone = true := by decide +kernel
set_option maxRecDepth 65536 in
theorem w_named : about1.methodNamed? x = some theMethod := by decide +kernel
set_option maxRecDepth 65536 in
theorem w_hears : about1.hears theMethod below0 = true := by decide +kernel
set_option maxRecDepth 65536 in
theorem w_ripe : about1.ripe theMethod args0 below0 = true := by decide +kernel
theorem w_running : about1.status = .running := rfl
set_option maxRecDepth 65536 in
theorem w_room : about1.hasRoom e0.platform room_1 = true :=
  launch0.hasRoom_least _ room_1 (by decide +kernel) (by decide +kernel) (by decide +kernel) (by decide +kernel) (by decide +kernel) (by decide +kernel)
theorem allAtoms_all (ts : List Jvm.Cond) (a : Array Jvm.Value) (st : Jvm.State) : (allAtoms ts).before a st = ts.all (fun c => c.before a st) := by
  induction ts with
  | nil => rfl
  | cons c t ih =>
    show (Jvm.Cond.and c (allAtoms t)).before a st = _
    rw [Jvm.Cond.before_and, ih, List.all_cons]
def words1 : List Jvm.Cond := Jvm.Cond.code x code maxLocals ret :: tables_1
/-- a 'code' word, met by the world's own term for the bytes: nothing is compared byte by byte -/
theorem code_word {y : MethodName} {bytes : ByteArray} {mx : Nat} {rt : Option FieldType} {a : Array Value} {s : State} {m : MethodId} {meth : Method} {c : Code} (h1 : s.methodNamed? y = some m) (h2 : s.vm.method? m = some meth) (h3 : meth.code = some c) (h4 : c.code = bytes)
    (h5 : (c.maxLocals == mx && c.exceptionTable.isEmpty && decide (c.maxStack ≤ mostOperands) && decide (meth.sig.returnType = rt) && !meth.locks && decide (parseMethodDescriptor y.desc = some meth.sig)) = true) : (Jvm.Cond.code y bytes mx rt).before a s = true := by
  simp only [Bool.and_eq_true, beq_iff_eq, Bool.not_eq_true', decide_eq_true_eq] at h5
  obtain ⟨⟨⟨⟨⟨g1, g2⟩, g3⟩, g4⟩, g5⟩, g6⟩ := h5
  simp [Cond.before, Cond.holds, Cond.value, h1, h2, h3, h4, g1, g2, g3, g4, g5, g6]
def isCode : Jvm.Cond → Bool
  | .code _ _ _ _ => true
  | _ => false
theorem all_split {L : List Jvm.Cond} {P : Jvm.Cond → Bool} (h1 : L.all (fun c => isCode c || P c) = true) (h2 : ∀ c ∈ L.filter isCode, P c = true) : L.all P = true := by
  refine List.all_eq_true.mpr fun c hc => ?_
  have h := List.all_eq_true.mp h1 c hc
  rcases Bool.eq_false_or_eq_true (isCode c) with hi | hi
  · exact h2 c (List.mem_filter.mpr ⟨hc, hi⟩)
  · simpa [hi] using h
set_option maxRecDepth 65536 in
theorem w_c0 : (Jvm.Cond.code x code maxLocals ret).before args0 about1 = true := code_word (m := ⟨1, 1⟩) (meth := k1m1) (c := k1c1) (by decide +kernel) rfl rfl rfl (by decide +kernel)
set_option maxRecDepth 65536 in
theorem w_c1 : (Jvm.Cond.code ({ cls := "com/example/shelfmark/shelfmark/model/QueryRefusedException", name := "<init>", desc := "(Lcom/example/shelfmark/shelfmark/model/QueryRefusedException$Reason;Ljava/lang/String;Ljava/lang/String;)V" } : Jvm.MethodName) prog_41_method_1_code (4 : Nat) (Option.none : Option Jvm.ClassFile.FieldType)).before args0 about1 = true := code_word (m := ⟨9, 0⟩) (meth := k9m0) (c := k9c0) (by decide +kernel) rfl rfl rfl (by decide +kernel)
set_option maxRecDepth 65536 in
theorem w_c2 : (Jvm.Cond.code ({ cls := "java/lang/Exception", name := "<init>", desc := "(Ljava/lang/String;)V" } : Jvm.MethodName) jdk_59_method_2_code (2 : Nat) (Option.none : Option Jvm.ClassFile.FieldType)).before args0 about1 = true := code_word (m := ⟨8, 1⟩) (meth := k8m1) (c := k8c1) (by decide +kernel) rfl rfl rfl (by decide +kernel)
set_option maxRecDepth 65536 in
theorem w_c3 : (Jvm.Cond.code ({ cls := "java/lang/Throwable", name := "<init>", desc := "(Ljava/lang/String;)V" } : Jvm.MethodName) jdk_78_method_2_code (2 : Nat) (Option.none : Option Jvm.ClassFile.FieldType)).before args0 about1 = true := code_word (m := ⟨7, 1⟩) (meth := k7m1) (c := k7c1) (by decide +kernel) rfl rfl rfl (by decide +kernel)
set_option maxRecDepth 65536 in
theorem w_c4 : (Jvm.Cond.code ({ cls := "java/lang/Object", name := "<init>", desc := "()V" } : Jvm.MethodName) object_method_1_code (1 : Nat) (Option.none : Option Jvm.ClassFile.FieldType)).before args0 about1 = true := code_word (m := ⟨0, 0⟩) (meth := k0m0) (c := k0c0) (by decide +kernel) rfl rfl rfl (by decide +kernel)
set_option maxRecDepth 65536 in
theorem w_c5 : (Jvm.Cond.code ({ cls := "java/lang/Throwable", name := "<init>", desc := "()V" } : Jvm.MethodName) jdk_78_method_1_code (1 : Nat) (Option.none : Option Jvm.ClassFile.FieldType)).before args0 about1 = true := code_word (m := ⟨7, 0⟩) (meth := k7m0) (c := k7c0) (by decide +kernel) rfl rfl rfl (by decide +kernel)
set_option maxRecDepth 65536 in
theorem w_c6 : (Jvm.Cond.code ({ cls := "com/example/shelfmark/shelfmark/protocol/Diagnostic", name := "of", desc := "(Lcom/example/shelfmark/shelfmark/model/QueryRefusedException;)Lcom/example/shelfmark/shelfmark/protocol/Diagnostic;" } : Jvm.MethodName) prog_50_method_2_code (2 : Nat) (Option.some (Jvm.ClassFile.FieldType.object "com/example/shelfmark/shelfmark/protocol/Diagnostic"))).before args0 about1 = true := code_word (m := ⟨11, 1⟩) (meth := k11m1) (c := k11c1) (by decide +kernel) rfl rfl rfl (by decide +kernel)
set_option maxRecDepth 65536 in
theorem w_c7 : (Jvm.Cond.code ({ cls := "com/example/shelfmark/shelfmark/model/QueryRefusedException", name := "reason", desc := "()Lcom/example/shelfmark/shelfmark/model/QueryRefusedException$Reason;" } : Jvm.MethodName) prog_41_method_2_code (1 : Nat) (Option.some (Jvm.ClassFile.FieldType.object "com/example/shelfmark/shelfmark/model/QueryRefusedException$Reason"))).before args0 about1 = true := code_word (m := ⟨9, 1⟩) (meth := k9m1) (c := k9c1) (by decide +kernel) rfl rfl rfl (by decide +kernel)
set_option maxRecDepth 65536 in
theorem w_c8 : (Jvm.Cond.code ({ cls := "java/lang/Enum", name := "ordinal", desc := "()I" } : Jvm.MethodName) jdk_37_method_2_code (1 : Nat) (Option.some Jvm.ClassFile.FieldType.int)).before args0 about1 = true := code_word (m := ⟨5, 0⟩) (meth := k5m0) (c := k5c0) (by decide +kernel) rfl rfl rfl (by decide +kernel)
set_option maxRecDepth 65536 in
theorem w_c9 : (Jvm.Cond.code ({ cls := "com/example/shelfmark/shelfmark/model/QueryRefusedException", name := "details", desc := "()Ljava/lang/String;" } : Jvm.MethodName) prog_41_method_3_code (1 : Nat) (Option.some (Jvm.ClassFile.FieldType.object "java/lang/String"))).before args0 about1 = true := code_word (m := ⟨9, 2⟩) (meth := k9m2) (c := k9c2) (by decide +kernel) rfl rfl rfl (by decide +kernel)
set_option maxRecDepth 65536 in
theorem w_c10 : (Jvm.Cond.code ({ cls := "java/lang/Throwable", name := "getMessage", desc := "()Ljava/lang/String;" } : Jvm.MethodName) jdk_78_method_6_code (1 : Nat) (Option.some (Jvm.ClassFile.FieldType.object "java/lang/String"))).before args0 about1 = true := code_word (m := ⟨7, 2⟩) (meth := k7m2) (c := k7c2) (by decide +kernel) rfl rfl rfl (by decide +kernel)
set_option maxRecDepth 65536 in
theorem w_c11 : (Jvm.Cond.code ({ cls := "com/example/shelfmark/shelfmark/protocol/Diagnostic", name := "<init>", desc := "(ILjava/lang/String;Ljava/lang/String;)V" } : Jvm.MethodName) prog_50_method_1_code (4 : Nat) (Option.none : Option Jvm.ClassFile.FieldType)).before args0 about1 = true := code_word (m := ⟨11, 0⟩) (meth := k11m0) (c := k11c0) (by decide +kernel) rfl rfl rfl (by decide +kernel)
set_option maxRecDepth 65536 in
theorem w_c12 : (Jvm.Cond.code ({ cls := "java/lang/Record", name := "<init>", desc := "()V" } : Jvm.MethodName) jdk_30_method_1_code (1 : Nat) (Option.none : Option Jvm.ClassFile.FieldType)).before args0 about1 = true := code_word (m := ⟨10, 0⟩) (meth := k10m0) (c := k10c0) (by decide +kernel) rfl rfl rfl (by decide +kernel)
set_option maxRecDepth 65536 in
theorem w_c13 : (Jvm.Cond.code ({ cls := "com/example/shelfmark/shelfmark/protocol/Diagnostic", name := "number", desc := "()I" } : Jvm.MethodName) prog_50_method_8_code (1 : Nat) (Option.some Jvm.ClassFile.FieldType.int)).before args0 about1 = true := code_word (m := ⟨11, 2⟩) (meth := k11m2) (c := k11c2) (by decide +kernel) rfl rfl rfl (by decide +kernel)
set_option maxRecDepth 65536 in
theorem w_c14 : (Jvm.Cond.code ({ cls := "com/example/shelfmark/shelfmark/protocol/Diagnostic", name := "details", desc := "()Ljava/lang/String;" } : Jvm.MethodName) prog_50_method_9_code (1 : Nat) (Option.some (Jvm.ClassFile.FieldType.object "java/lang/String"))).before args0 about1 = true := code_word (m := ⟨11, 3⟩) (meth := k11m3) (c := k11c3) (by decide +kernel) rfl rfl rfl (by decide +kernel)
set_option maxRecDepth 65536 in
theorem w_c15 : (Jvm.Cond.code ({ cls := "com/example/shelfmark/shelfmark/protocol/DiagnosticOfPinLaw", name := "same", desc := "(Ljava/lang/String;Ljava/lang/String;)Z" } : Jvm.MethodName) method_3_code (2 : Nat) (Option.some Jvm.ClassFile.FieldType.boolean)).before args0 about1 = true := code_word (m := ⟨1, 2⟩) (meth := k1m2) (c := k1c2) (by decide +kernel) rfl rfl rfl (by decide +kernel)
set_option maxRecDepth 65536 in
theorem w_c16 : (Jvm.Cond.code ({ cls := "com/example/shelfmark/shelfmark/protocol/Diagnostic", name := "message", desc := "()Ljava/lang/String;" } : Jvm.MethodName) prog_50_method_10_code (1 : Nat) (Option.some (Jvm.ClassFile.FieldType.object "java/lang/String"))).before args0 about1 = true := code_word (m := ⟨11, 4⟩) (meth := k11m4) (c := k11c4) (by decide +kernel) rfl rfl rfl (by decide +kernel)
set_option maxRecDepth 65536 in
theorem w_c17 : (Jvm.Cond.code ({ cls := "java/lang/String", name := "<init>", desc := "([C)V" } : Jvm.MethodName) jdk_42_method_3_code (2 : Nat) (Option.none : Option Jvm.ClassFile.FieldType)).before args0 about1 = true := code_word (m := ⟨15, 1⟩) (meth := k15m1) (c := k15c1) (by decide +kernel) rfl rfl rfl (by decide +kernel)
set_option maxRecDepth 65536 in
theorem w_c18 : (Jvm.Cond.code ({ cls := "java/lang/String", name := "<init>", desc := "([CIILjava/lang/Void;)V" } : Jvm.MethodName) jdk_42_method_149_code (6 : Nat) (Option.none : Option Jvm.ClassFile.FieldType)).before args0 about1 = true := code_word (m := ⟨15, 3⟩) (meth := k15m3) (c := k15c3) (by decide +kernel) rfl rfl rfl (by decide +kernel)
set_option maxRecDepth 65536 in
theorem w_c19 : (Jvm.Cond.code ({ cls := "java/lang/StringUTF16", name := "compress", desc := "([CII)[B" } : Jvm.MethodName) jdk_52_method_16_code (6 : Nat) (Option.some (Jvm.ClassFile.FieldType.array Jvm.ClassFile.FieldType.byte))).before args0 about1 = true := code_word (m := ⟨16, 2⟩) (meth := k16m2) (c := k16c2) (by decide +kernel) rfl rfl rfl (by decide +kernel)
set_option maxRecDepth 65536 in
theorem w_c20 : (Jvm.Cond.code ({ cls := "java/lang/StringUTF16", name := "compress", desc := "([CI[BII)I" } : Jvm.MethodName) jdk_52_method_21_code (7 : Nat) (Option.some Jvm.ClassFile.FieldType.int)).before args0 about1 = true := code_word (m := ⟨16, 3⟩) (meth := k16m3) (c := k16c3) (by decide +kernel) rfl rfl rfl (by decide +kernel)
set_option maxRecDepth 65536 in
theorem w_c21 : (Jvm.Cond.code ({ cls := "java/lang/StringUTF16", name := "coderFromArrayLen", desc := "([BI)B" } : Jvm.MethodName) jdk_52_method_15_code (2 : Nat) (Option.some Jvm.ClassFile.FieldType.byte)).before args0 about1 = true := code_word (m := ⟨16, 1⟩) (meth := k16m1) (c := k16c1) (by decide +kernel) rfl rfl rfl (by decide +kernel)
set_option maxRecDepth 65536 in
theorem w_c22 : (Jvm.Cond.code ({ cls := "java/lang/String", name := "equals", desc := "(Ljava/lang/Object;)Z" } : Jvm.MethodName) jdk_42_method_66_code (3 : Nat) (Option.some Jvm.ClassFile.FieldType.boolean)).before args0 about1 = true := code_word (m := ⟨15, 2⟩) (meth := k15m2) (c := k15c2) (by decide +kernel) rfl rfl rfl (by decide +kernel)
def codes1 : List Jvm.Cond := [Jvm.Cond.code x code maxLocals ret, Jvm.Cond.code ({ cls := "com/example/shelfmark/shelfmark/model/QueryRefusedException", name := "<init>", desc := "(Lcom/example/shelfmark/shelfmark/model/QueryRefusedException$Reason;Ljava/lang/String;Ljava/lang/String;)V" } : Jvm.MethodName) prog_41_method_1_code (4 : Nat) (Option.none : Option Jvm.ClassFile.FieldType), Jvm.Cond.code ({ cls := "java/lang/Exception", name := "<init>", desc := "(Ljava/lang/String;)V" } : Jvm.MethodName) jdk_59_method_2_code (2 : Nat) (Option.none : Option Jvm.ClassFile.FieldType), Jvm.Cond.code ({ cls := "java/lang/Throwable", name := "<init>", desc := "(Ljava/lang/String;)V" } : Jvm.MethodName) jdk_78_method_2_code (2 : Nat) (Option.none : Option Jvm.ClassFile.FieldType), Jvm.Cond.code ({ cls := "java/lang/Object", name := "<init>", desc := "()V" } : Jvm.MethodName) object_method_1_code (1 : Nat) (Option.none : Option Jvm.ClassFile.FieldType), Jvm.Cond.code ({ cls := "java/lang/Throwable", name := "<init>", desc := "()V" } : Jvm.MethodName) jdk_78_method_1_code (1 : Nat) (Option.none : Option Jvm.ClassFile.FieldType), Jvm.Cond.code ({ cls := "com/example/shelfmark/shelfmark/protocol/Diagnostic", name := "of", desc := "(Lcom/example/shelfmark/shelfmark/model/QueryRefusedException;)Lcom/example/shelfmark/shelfmark/protocol/Diagnostic;" } : Jvm.MethodName) prog_50_method_2_code (2 : Nat) (Option.some (Jvm.ClassFile.FieldType.object "com/example/shelfmark/shelfmark/protocol/Diagnostic")), Jvm.Cond.code ({ cls := "com/example/shelfmark/shelfmark/model/QueryRefusedException", name := "reason", desc := "()Lcom/example/shelfmark/shelfmark/model/QueryRefusedException$Reason;" } : Jvm.MethodName) prog_41_method_2_code (1 : Nat) (Option.some (Jvm.ClassFile.FieldType.object "com/example/shelfmark/shelfmark/model/QueryRefusedException$Reason")), Jvm.Cond.code ({ cls := "java/lang/Enum", name := "ordinal", desc := "()I" } : Jvm.MethodName) jdk_37_method_2_code (1 : Nat) (Option.some Jvm.ClassFile.FieldType.int), Jvm.Cond.code ({ cls := "com/example/shelfmark/shelfmark/model/QueryRefusedException", name := "details", desc := "()Ljava/lang/String;" } : Jvm.MethodName) prog_41_method_3_code (1 : Nat) (Option.some (Jvm.ClassFile.FieldType.object "java/lang/String")), Jvm.Cond.code ({ cls := "java/lang/Throwable", name := "getMessage", desc := "()Ljava/lang/String;" } : Jvm.MethodName) jdk_78_method_6_code (1 : Nat) (Option.some (Jvm.ClassFile.FieldType.object "java/lang/String")), Jvm.Cond.code ({ cls := "com/example/shelfmark/shelfmark/protocol/Diagnostic", name := "<init>", desc := "(ILjava/lang/String;Ljava/lang/String;)V" } : Jvm.MethodName) prog_50_method_1_code (4 : Nat) (Option.none : Option Jvm.ClassFile.FieldType), Jvm.Cond.code ({ cls := "java/lang/Record", name := "<init>", desc := "()V" } : Jvm.MethodName) jdk_30_method_1_code (1 : Nat) (Option.none : Option Jvm.ClassFile.FieldType), Jvm.Cond.code ({ cls := "com/example/shelfmark/shelfmark/protocol/Diagnostic", name := "number", desc := "()I" } : Jvm.MethodName) prog_50_method_8_code (1 : Nat) (Option.some Jvm.ClassFile.FieldType.int), Jvm.Cond.code ({ cls := "com/example/shelfmark/shelfmark/protocol/Diagnostic", name := "details", desc := "()Ljava/lang/String;" } : Jvm.MethodName) prog_50_method_9_code (1 : Nat) (Option.some (Jvm.ClassFile.FieldType.object "java/lang/String")), Jvm.Cond.code ({ cls := "com/example/shelfmark/shelfmark/protocol/DiagnosticOfPinLaw", name := "same", desc := "(Ljava/lang/String;Ljava/lang/String;)Z" } : Jvm.MethodName) method_3_code (2 : Nat) (Option.some Jvm.ClassFile.FieldType.boolean), Jvm.Cond.code ({ cls := "com/example/shelfmark/shelfmark/protocol/Diagnostic", name := "message", desc := "()Ljava/lang/String;" } : Jvm.MethodName) prog_50_method_10_code (1 : Nat) (Option.some (Jvm.ClassFile.FieldType.object "java/lang/String")), Jvm.Cond.code ({ cls := "java/lang/String", name := "<init>", desc := "([C)V" } : Jvm.MethodName) jdk_42_method_3_code (2 : Nat) (Option.none : Option Jvm.ClassFile.FieldType), Jvm.Cond.code ({ cls := "java/lang/String", name := "<init>", desc := "([CIILjava/lang/Void;)V" } : Jvm.MethodName) jdk_42_method_149_code (6 : Nat) (Option.none : Option Jvm.ClassFile.FieldType), Jvm.Cond.code ({ cls := "java/lang/StringUTF16", name := "compress", desc := "([CII)[B" } : Jvm.MethodName) jdk_52_method_16_code (6 : Nat) (Option.some (Jvm.ClassFile.FieldType.array Jvm.ClassFile.FieldType.byte)), Jvm.Cond.code ({ cls := "java/lang/StringUTF16", name := "compress", desc := "([CI[BII)I" } : Jvm.MethodName) jdk_52_method_21_code (7 : Nat) (Option.some Jvm.ClassFile.FieldType.int), Jvm.Cond.code ({ cls := "java/lang/StringUTF16", name := "coderFromArrayLen", desc := "([BI)B" } : Jvm.MethodName) jdk_52_method_15_code (2 : Nat) (Option.some Jvm.ClassFile.FieldType.byte), Jvm.Cond.code ({ cls := "java/lang/String", name := "equals", desc := "(Ljava/lang/Object;)Z" } : Jvm.MethodName) jdk_42_method_66_code (3 : Nat) (Option.some Jvm.ClassFile.FieldType.boolean)]
set_option maxRecDepth 65536 in
theorem codes_eq : words1.filter isCode = codes1 := rfl
theorem w_codes : ∀ c ∈ words1.filter isCode, c.before args0 about1 = true := by
  rw [codes_eq]
  intro c hc
  simp only [codes1, List.mem_cons, List.not_mem_nil, or_false] at hc
  rcases hc with rfl | rfl | rfl | rfl | rfl | rfl | rfl | rfl | rfl | rfl | rfl | rfl | rfl | rfl | rfl | rfl | rfl | rfl | rfl | rfl | rfl | rfl | rfl
  · exact w_c0
  · exact w_c1
  · exact w_c2
  · exact w_c3
  · exact w_c4
  · exact w_c5
  · exact w_c6
  · exact w_c7
  · exact w_c8
  · exact w_c9
  · exact w_c10
  · exact w_c11
  · exact w_c12
  · exact w_c13
  · exact w_c14
  · exact w_c15
  · exact w_c16
  · exact w_c17
  · exact w_c18
  · exact w_c19
  · exact w_c20
  · exact w_c21
  · exact w_c22
set_option maxRecDepth 65536 in
theorem w_t1 : (words1.take 24).all (fun c => isCode c || c.before args0 about1) = true := by decide +kernel
set_option maxRecDepth 65536 in
theorem w_t2 : ((words1.drop 24).take 24).all (fun c => isCode c || c.before args0 about1) = true := by decide +kernel
set_option maxRecDepth 65536 in
theorem w_t3 : (((words1.drop 24).drop 24).take 24).all (fun c => isCode c || c.before args0 about1) = true := by decide +kernel
set_option maxRecDepth 65536 in
theorem w_t4 : ((((words1.drop 24).drop 24).drop 24).take 24).all (fun c => isCode c || c.before args0 about1) = true := by decide +kernel
set_option maxRecDepth 65536 in
theorem w_t5 : (((((words1.drop 24).drop 24).drop 24).drop 24).take 24).all (fun c => isCode c || c.before args0 about1) = true := by decide +kernel
set_option maxRecDepth 65536 in
theorem w_t6 : ((((((words1.drop 24).drop 24).drop 24).drop 24).drop 24).take 24).all (fun c => isCode c || c.before args0 about1) = true := by decide +kernel
set_option maxRecDepth 65536 in
theorem w_t7 : (((((((words1.drop 24).drop 24).drop 24).drop 24).drop 24).drop 24).take 24).all (fun c => isCode c || c.before args0 about1) = true := by decide +kernel
set_option maxRecDepth 65536 in
theorem w_t8 : ((((((((words1.drop 24).drop 24).drop 24).drop 24).drop 24).drop 24).drop 24).take 24).all (fun c => isCode c || c.before args0 about1) = true := by decide +kernel
set_option maxRecDepth 65536 in
theorem w_t9 : ((((((((words1.drop 24).drop 24).drop 24).drop 24).drop 24).drop 24).drop 24).drop 24).all (fun c => isCode c || c.before args0 about1) = true := by decide +kernel
theorem w_tables : (allAtoms (Jvm.Cond.code x code maxLocals ret :: tables_1)).before args0 about1 = true := by
  rw [allAtoms_all]
  show words1.all (fun c => c.before args0 about1) = true
  refine all_split ?_ w_codes
  rw [← List.take_append_drop 24 words1, List.all_append, w_t1, ← List.take_append_drop 24 (words1.drop 24), List.all_append, w_t2, ← List.take_append_drop 24 ((words1.drop 24).drop 24), List.all_append, w_t3, ← List.take_append_drop 24 (((words1.drop 24).drop 24).drop 24), List.all_append, w_t4, ← List.take_append_drop 24 ((((words1.drop 24).drop 24).drop 24).drop 24), List.all_append, w_t5, ← List.take_append_drop 24 (((((words1.drop 24).drop 24).drop 24).drop 24).drop 24), List.all_append, w_t6, ← List.take_append_drop 24 ((((((words1.drop 24).drop 24).drop 24).drop 24).drop 24).drop 24), List.all_append, w_t7, ← List.take_append_drop 24 (((((((words1.drop 24).drop 24).drop 24).drop 24).drop 24).drop 24).drop 24), List.all_append, w_t8, w_t9]
  rfl
set_option maxRecDepth 65536 in
theorem w_rest : rest_1_c.before args0 about1 = true := by decide +kernel
set_option maxRecDepth 65536 in
theorem w_case : (Jvm.Cond.and given_1 narrow_1).before args0 about1 = true := by decide +kernel
theorem w_applies : (headSpec (Jvm.Cond.code x code maxLocals ret :: tables_1) room_1).applies x e0.platform about1 = true :=
  (Spec.applies_iff w_frames).mpr ⟨w_running, w_runnable, w_alone, w_named, w_hears, w_ripe, w_room, w_tables⟩
theorem atStart : AtStart classFile x code maxLocals ret World_1 tables_1 room_1 Calls_1 rest_1 Pre_1 launch0 p0 e0 about1 theMethod args0 below0 :=
  ⟨lists_1, trivial, launch0.admits_env _ _ _, launch0.least_env, fairChoices_fair.cas, fairChoices_fair.clock, w_frames, w_args, w_heap, w_applies, ⟨(by decide +kernel : framesKnown about1 = true), ⟨(by decide +kernel : tablesKnown about1 = true), trivial⟩⟩, w_rest, w_case⟩
end start1
theorem witness_1 : WitnessClaimed_1 := ⟨start1.p0, start1.e0, start1.about1, start1.theMethod, start1.args0, start1.below0, start1.atStart⟩
end Jvm.Pilot.@@N@@
