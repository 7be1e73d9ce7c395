import JvmDerived
import JvmDerived.Pilot.@@N@@Statement
import JvmDerived.Pilot.@@N@@Code
set_option linter.unusedVariables false
set_option linter.unusedSimpArgs false
/- laws to paste: Road.backV, Road.chN, Road.codOf (cut by pick.py; bodies as the Statement names them) -/
namespace Jvm.Pilot.@@N@@
namespace StrChars
open Jvm Sem ClassFile Op Lib Jvm.Stand Jvm.Free.XT Jvm.Free.ALB Jvm.Free.JM Jvm.Free
open Jvm.Lib.Cold (StaticIs)
/-- a char array whose places are chars -/
def Ch (a : Addr) (A : Cell) (U : State) : Prop := Arr .char a A U ∧ Typed .char A
theorem Ch.mv {a : Addr} {A : Cell} {U U' : State} (h : Ch a A U) (hal : U.vm.Alike U'.vm) (hh : U'.heap = U.heap) : Ch a A U' := ⟨h.1.mv hal hh, h.2⟩
theorem Ch.keep {a : Addr} {A : Cell} {U U' : State} (h : Ch a A U) (hal : U.vm.Alike U'.vm) (hk : U'.heap[a]? = some A) : Ch a A U' := ⟨h.1.keep hal hk, h.2⟩
/-- what place i of a char[]'s cell holds -/
def cv (A : Cell) (i : Nat) : Int32 := match A.slots[i]? with | some (.int x) => x | _ => 0
theorem Ch.get {a : Addr} {A : Cell} {U : State} (h : Ch a A U) {i : Nat} (hi : i < A.slots.size) : A.slots[i]? = some (.int (cv A i)) := by
  have e := Array.getElem?_eq_getElem hi
  have f := h.2 i _ e
  unfold cv; rw [e]
  generalize A.slots[i] = v at f
  cases v <;> simp [fits] at f ⊢
/-- the byte that i2b leaves of a char -/
def lo8 (x : Int32) : Int32 := x.toInt8.toInt32
theorem fits_lo8 (y : Int32) : fits .byte (.int (lo8 y)) = true := by
  have h1 := y.toInt8.le_toInt
  have h2 := y.toInt8.toInt_lt
  simp only [lo8, fits, Bool.and_eq_true, decide_eq_true_eq, Int32.le_iff_toInt_le, Int8.toInt_toInt32, show (-128 : Int32).toInt = -128 from by decide, show (127 : Int32).toInt = 127 from by decide]
  omega
/-- A' is A but that each place j of lo .. hi - 1 holds f j -/
def Laid (A A' : Cell) (lo hi : Nat) (f : Nat → Value) : Prop := A'.cls = A.cls ∧ A'.vm = A.vm ∧ A'.slots.size = A.slots.size ∧ ∀ i, A'.slots[i]? = if lo ≤ i ∧ i < hi then some (f i) else A.slots[i]?
theorem Laid.zero (A : Cell) (lo : Nat) (f : Nat → Value) : Laid A A lo (lo + 0) f := ⟨rfl, rfl, rfl, fun i => by rw [if_neg (by omega)]⟩
theorem Laid.step {A Ak : Cell} {lo k : Nat} {f : Nat → Value} {v : Value} (h : Laid A Ak lo k f) (hlo : lo ≤ k) (hk : k < Ak.slots.size) (hv : v = f k) : Laid A (Ak.setSlot k v) lo (k + 1) f := by
  refine ⟨h.1, h.2.1, by simpa [Cell.setSlot] using h.2.2.1, fun i => ?_⟩
  by_cases e : k = i
  · subst e; rw [Cell.slots_setSlot_self v hk, if_pos (by omega), hv]
  · rw [Cell.slots_setSlot_ne v e, h.2.2.2 i]
    by_cases q : lo ≤ i ∧ i < k
    · rw [if_pos q, if_pos (by omega)]
    · rw [if_neg q, if_neg (by omega)]
def U16 : String := "java/lang/StringUTF16"
namespace Cmp5
def yN : MethodName := ⟨"java/lang/StringUTF16", "compress", "([CI[BII)I"⟩
abbrev yB : ByteArray := jdk_52_method_21_code
theorem d0 : decode yB 0 = .ok (.iconst 0, 1) := by decide +kernel
theorem d1 : decode yB 1 = .ok (.istore 5, 2) := by decide +kernel
theorem d3 : decode yB 3 = .ok (.iload 5, 2) := by decide +kernel
theorem d5 : decode yB 5 = .ok (.iload 4, 2) := by decide +kernel
theorem d7 : decode yB 7 = .ok (.if_icmp (.ge) 37, 3) := by decide +kernel
theorem d10 : decode yB 10 = .ok (.aload_n 0, 1) := by decide +kernel
theorem d11 : decode yB 11 = .ok (.iload_n 1, 1) := by decide +kernel
theorem d12 : decode yB 12 = .ok (.caload, 1) := by decide +kernel
theorem d13 : decode yB 13 = .ok (.istore 6, 2) := by decide +kernel
theorem d15 : decode yB 15 = .ok (.iload 6, 2) := by decide +kernel
theorem d17 : decode yB 17 = .ok (.sipush 255, 3) := by decide +kernel
theorem d20 : decode yB 20 = .ok (.if_icmp (.le) 6, 3) := by decide +kernel
theorem d26 : decode yB 26 = .ok (.aload_n 2, 1) := by decide +kernel
theorem d27 : decode yB 27 = .ok (.iload_n 3, 1) := by decide +kernel
theorem d28 : decode yB 28 = .ok (.iload 6, 2) := by decide +kernel
theorem d30 : decode yB 30 = .ok (.i2b, 1) := by decide +kernel
theorem d31 : decode yB 31 = .ok (.bastore, 1) := by decide +kernel
theorem d32 : decode yB 32 = .ok (.iinc 1 1, 3) := by decide +kernel
theorem d35 : decode yB 35 = .ok (.iinc 3 1, 3) := by decide +kernel
theorem d38 : decode yB 38 = .ok (.iinc 5 1, 3) := by decide +kernel
theorem d41 : decode yB 41 = .ok (.goto (-38), 3) := by decide +kernel
theorem d44 : decode yB 44 = .ok (.iload 4, 2) := by decide +kernel
theorem d46 : decode yB 46 = .ok (.ireturn, 1) := by decide +kernel
def site : List Cond := []
def tab : Cond := tabOf yN yB 7 (some .int) site
def P (b : Addr) (A : Cell) (d : Addr) (B : Cell) (o q len : Nat) (args : Array Value) (s : State) : Prop := args = #[.ref b, .int (Int32.ofNat o), .ref d, .int (Int32.ofNat q), .int (Int32.ofNat len)] ∧ Ch b A s ∧ Arr .byte d B s ∧ b ≠ d ∧ o + len ≤ A.slots.size ∧ q + len ≤ B.slots.size ∧ ∀ i, i < len → ¬ 255 < cv A (o + i)
def E (b : Addr) (A : Cell) (d : Addr) (B : Cell) (o q len : Nat) (r : Option Value) (s u : State) : Prop := r = some (.int (Int32.ofNat len)) ∧ ∃ B', Put d B' s u ∧ Laid B B' q (q + len) (fun j => Value.int (lo8 (cv A (o + (j - q)))))
/-- no char of the range above 255: len; the places written hold each char's low byte -/
theorem law (l : Launch) (b : Addr) (A : Cell) (d : Addr) (B : Cell) (o q len : Nat) : Law l yN 5 5 0 0 yB 7 (some .int) site (P b A d B o q len) (E b A d B o q len) (copyLocs d q len) 0 0 := by
  refine Law.of_walk (plainFor_of_name (by decide +kernel)) (by decide +kernel) (by decide +kernel) (by decide) (fun _ _ h => by rw [h.1]; rfl) (fun _ U U' hal hh h => ⟨h.1, h.2.1.mv hal hh, h.2.2.1.mv hal hh, h.2.2.2⟩) (fun r U U' V V' h1 hal h2 h => ⟨h.1, h.2.elim fun B' q => ⟨B', q.1.mv h1 h2, q.2⟩⟩) ?_
  intro p e s m args below meth c s₁ X0 hexec hbytes hml hret hlk hnm hown hh0 W hP
  obtain ⟨rfl, hA, hB, hne, l1, l2, hp⟩ := hP
  have c1 : Steps p.tables e below (s₁.setTop (entryFrame m #[.ref b, .int (Int32.ofNat o), .ref d, .int (Int32.ofNat q), .int (Int32.ofNat len)] 7)) (s₁.setTop (mkF m 0 #[.val (.ref b), .val (.int (Int32.ofNat o)), .val (.ref d), .val (.int (Int32.ofNat q)), .val (.int (Int32.ofNat len)), .unset, .unset] [])) := entry rfl
  have hA0 := hA.1.mv X0.warmed.alike hh0
  have hB0 := hB.mv X0.warmed.alike hh0
  have a31 := hA.1.2.2.2
  have c2 : Steps p.tables e below (s₁.setTop (entryFrame m #[.ref b, .int (Int32.ofNat o), .ref d, .int (Int32.ofNat q), .int (Int32.ofNat len)] 7)) (s₁.setTop (mkF m 3 #[.val (.ref b), .val (.int (Int32.ofNat o)), .val (.ref d), .val (.int (Int32.ofNat q)), .val (.int (Int32.ofNat len)), .val (.int 0), .unset] [])) := c1.trans (by
    refine iconstV X0.here hexec rfl 0 (hb hbytes d0) (by decide) ?_
    refine XS.istore X0.here hexec rfl (hb hbytes d1) rfl rfl ?_
    exact Steps.refl _)
  have loop : ∀ (r i : Nat), i + r = len → ∀ (z : Slot), (z = .unset ∨ ∃ w, z = .val w ∧ w.category = 1) → ∀ (Tl : State) (Bk : Cell), Stand p l e { frames := 0, locals := 0, cells := 0, slots := 0 } s m #[.ref b, .int (Int32.ofNat o), .ref d, .int (Int32.ofNat q), .int (Int32.ofNat len)] below meth c Tl ([] ++ copyLocs d q i) 0 0 → Put d Bk s₁ Tl → Laid B Bk q (q + i) (fun j => Value.int (lo8 (cv A (o + (j - q))))) →
      Steps p.tables e below (s₁.setTop (entryFrame m #[.ref b, .int (Int32.ofNat o), .ref d, .int (Int32.ofNat q), .int (Int32.ofNat len)] 7)) (Tl.setTop (mkF m 3 #[.val (.ref b), .val (.int (Int32.ofNat (o + i))), .val (.ref d), .val (.int (Int32.ofNat (q + i))), .val (.int (Int32.ofNat len)), .val (.int (Int32.ofNat i)), z] [])) → ∃ (T' : State) (B' : Cell) (z' : Slot), Stand p l e { frames := 0, locals := 0, cells := 0, slots := 0 } s m #[.ref b, .int (Int32.ofNat o), .ref d, .int (Int32.ofNat q), .int (Int32.ofNat len)] below meth c T' ([] ++ copyLocs d q len) 0 0 ∧ Put d B' s₁ T' ∧ Laid B B' q (q + len) (fun j => Value.int (lo8 (cv A (o + (j - q))))) ∧
      Steps p.tables e below (s₁.setTop (entryFrame m #[.ref b, .int (Int32.ofNat o), .ref d, .int (Int32.ofNat q), .int (Int32.ofNat len)] 7)) (T'.setTop (mkF m 3 #[.val (.ref b), .val (.int (Int32.ofNat (o + len))), .val (.ref d), .val (.int (Int32.ofNat (q + len))), .val (.int (Int32.ofNat len)), .val (.int (Int32.ofNat len)), z'] [])) := by
    intro r
    induction r with
    | zero =>
      intro i hi z hz Tl Bk Xl pl fl cl
      have hil : i = len := by omega
      rw [hil] at Xl fl cl
      exact ⟨Tl, Bk, z, Xl, pl, fl, cl⟩
    | succ r ih =>
      intro i hi z hz Tl Bk Xl pl fl cl
      have all := X0.warmed.alike.symm.trans Xl.warmed.alike
      have hAl := hA0.keep all (pl.other hne hA0.1)
      have hBk := hB0.like all pl.1 fl.1 fl.2.1 fl.2.2.1
      have hlt : q + i < Bk.slots.size := by rw [fl.2.2.1]; omega
      have c3 : Steps p.tables e below (s₁.setTop (entryFrame m #[.ref b, .int (Int32.ofNat o), .ref d, .int (Int32.ofNat q), .int (Int32.ofNat len)] 7)) (Tl.setTop (mkF m 12 #[.val (.ref b), .val (.int (Int32.ofNat (o + i))), .val (.ref d), .val (.int (Int32.ofNat (q + i))), .val (.int (Int32.ofNat len)), .val (.int (Int32.ofNat i)), z] [.int (Int32.ofNat (o + i)), .ref b])) := cl.trans (by
        refine XS.iload Xl.here hexec rfl (hb hbytes d3) rfl ?_
        refine XS.iload Xl.here hexec rfl (hb hbytes d5) rfl ?_
        refine XS.icmpNo Xl.here hexec rfl (hb hbytes d7) rfl (ii_ge_f (lt32 (by omega) (by omega))) ?_
        refine XS.aloadN Xl.here hexec rfl (hb hbytes d10) rfl rfl ?_
        refine XS.iloadN Xl.here hexec rfl (hb hbytes d11) rfl ?_
        exact Steps.refl _)
      have c4 : Steps p.tables e below (s₁.setTop (entryFrame m #[.ref b, .int (Int32.ofNat o), .ref d, .int (Int32.ofNat q), .int (Int32.ofNat len)] 7)) (Tl.setTop (mkF m 13 #[.val (.ref b), .val (.int (Int32.ofNat (o + i))), .val (.ref d), .val (.int (Int32.ofNat (q + i))), .val (.int (Int32.ofNat len)), .val (.int (Int32.ofNat i)), z] [.int (cv A (o + i))])) := c3.trans (by
        refine Xl.aget hexec hAl rfl (hA.get (i := o + i) (by omega)) rfl rfl (hb hbytes d12) ?_
        exact Steps.refl _)
      have c5 : Steps p.tables e below (s₁.setTop (entryFrame m #[.ref b, .int (Int32.ofNat o), .ref d, .int (Int32.ofNat q), .int (Int32.ofNat len)] 7)) (Tl.setTop (mkF m 15 #[.val (.ref b), .val (.int (Int32.ofNat (o + i))), .val (.ref d), .val (.int (Int32.ofNat (q + i))), .val (.int (Int32.ofNat len)), .val (.int (Int32.ofNat i)), .val (.int (cv A (o + i)))] [])) := c4.trans (by
        refine XS.istoreS Xl.here hexec rfl (hb hbytes d13) rfl rfl hz ?_
        exact Steps.refl _)
      have c6 : Steps p.tables e below (s₁.setTop (entryFrame m #[.ref b, .int (Int32.ofNat o), .ref d, .int (Int32.ofNat q), .int (Int32.ofNat len)] 7)) (Tl.setTop (mkF m 31 #[.val (.ref b), .val (.int (Int32.ofNat (o + i))), .val (.ref d), .val (.int (Int32.ofNat (q + i))), .val (.int (Int32.ofNat len)), .val (.int (Int32.ofNat i)), .val (.int (cv A (o + i)))] [.int (lo8 (cv A (o + i))), .int (Int32.ofNat (q + i)), .ref d])) := c5.trans (by
        refine XS.iload Xl.here hexec rfl (hb hbytes d15) rfl ?_
        refine sipushV Xl.here hexec rfl 255 (hb hbytes d17) (by decide) ?_
        refine XS.icmpYes Xl.here hexec rfl (pc0 := 20) rfl (hb hbytes d20) rfl (ii_le_t (hp i (by omega))) (by decide) rfl ?_
        refine XS.aloadN Xl.here hexec rfl (hb hbytes d26) rfl rfl ?_
        refine XS.iloadN Xl.here hexec rfl (hb hbytes d27) rfl ?_
        refine XS.iload Xl.here hexec rfl (hb hbytes d28) rfl ?_
        refine i2b Xl.here hexec rfl (hb hbytes d30) rfl ?_
        exact Steps.refl _)
      obtain ⟨T7, X7, p7, st7⟩ := Xl.aput hexec hBk rfl hlt rfl (fits_lo8 (cv A (o + i))) (g := (mkF m 31 #[.val (.ref b), .val (.int (Int32.ofNat (o + i))), .val (.ref d), .val (.int (Int32.ofNat (q + i))), .val (.int (Int32.ofNat len)), .val (.int (Int32.ofNat i)), .val (.int (cv A (o + i)))] [.int (lo8 (cv A (o + i))), .int (Int32.ofNat (q + i)), .ref d])) rfl (rest := []) rfl (hb hbytes d31)
      have c8 : Steps p.tables e below (s₁.setTop (entryFrame m #[.ref b, .int (Int32.ofNat o), .ref d, .int (Int32.ofNat q), .int (Int32.ofNat len)] 7)) (T7.setTop (mkF m 32 #[.val (.ref b), .val (.int (Int32.ofNat (o + i))), .val (.ref d), .val (.int (Int32.ofNat (q + i))), .val (.int (Int32.ofNat len)), .val (.int (Int32.ofNat i)), .val (.int (cv A (o + i)))] [])) := c6.trans (st7 _ (Steps.refl _))
      have c9 : Steps p.tables e below (s₁.setTop (entryFrame m #[.ref b, .int (Int32.ofNat o), .ref d, .int (Int32.ofNat q), .int (Int32.ofNat len)] 7)) (T7.setTop (mkF m 3 #[.val (.ref b), .val (.int (Int32.ofNat (o + i) + 1)), .val (.ref d), .val (.int (Int32.ofNat (q + i) + 1)), .val (.int (Int32.ofNat len)), .val (.int (Int32.ofNat i + 1)), .val (.int (cv A (o + i)))] [])) := c8.trans (by
        refine iincV X7.here hexec rfl 1 (hb hbytes d32) (by decide) rfl rfl ?_
        refine iincV X7.here hexec rfl 1 (hb hbytes d35) (by decide) rfl rfl ?_
        refine iincV X7.here hexec rfl 1 (hb hbytes d38) (by decide) rfl rfl ?_
        refine XS.goto X7.here hexec rfl (pc0 := 41) rfl (hb hbytes d41) (by decide) rfl ?_
        exact Steps.refl _)
      have c10 : Steps p.tables e below (s₁.setTop (entryFrame m #[.ref b, .int (Int32.ofNat o), .ref d, .int (Int32.ofNat q), .int (Int32.ofNat len)] 7)) (T7.setTop (mkF m 3 #[.val (.ref b), .val (.int (Int32.ofNat (o + (i + 1)))), .val (.ref d), .val (.int (Int32.ofNat (q + (i + 1)))), .val (.int (Int32.ofNat len)), .val (.int (Int32.ofNat (i + 1))), .val (.int (cv A (o + i)))] [])) := by
        have := c9
        rw [succ32, succ32, succ32] at this
        exact this
      exact ih (i + 1) (by omega) _ (Or.inr ⟨_, rfl, rfl⟩) T7 _ (by rw [copyLocs_step, ← List.append_assoc]; exact X7) (pl.trans p7) (fl.step (by omega) hlt (by simp)) c10
  obtain ⟨T9, B9, z9, X9, p9, f9, g9⟩ := loop len 0 (by omega) .unset (Or.inl rfl) s₁ B (by simpa [copyLocs] using X0) ⟨hB0.1, fun _ _ => rfl, rfl⟩ (Laid.zero _ _ _) c2
  have c11 : Steps p.tables e below (s₁.setTop (entryFrame m #[.ref b, .int (Int32.ofNat o), .ref d, .int (Int32.ofNat q), .int (Int32.ofNat len)] 7)) (T9.setTop (mkF m 46 #[.val (.ref b), .val (.int (Int32.ofNat (o + len))), .val (.ref d), .val (.int (Int32.ofNat (q + len))), .val (.int (Int32.ofNat len)), .val (.int (Int32.ofNat len)), z9] [.int (Int32.ofNat len)])) := g9.trans (by
    refine XS.iload X9.here hexec rfl (hb hbytes d3) rfl ?_
    refine XS.iload X9.here hexec rfl (hb hbytes d5) rfl ?_
    refine XS.icmpYes X9.here hexec rfl (pc0 := 7) rfl (hb hbytes d7) rfl (ii_ge_t (nlt32 (by omega) (Nat.le_refl _))) (by decide) rfl ?_
    refine XS.iload X9.here hexec rfl (hb hbytes d44) rfl ?_
    exact Steps.refl _)
  exact ⟨T9, some (.int (Int32.ofNat len)), _, _, _, X9, by simp, rfl, rfl, (fun h => by cases h), ⟨rfl, B9, p9.from hh0, f9⟩, fun fs hl => c11.trans (X9.ireturnOut hexec hret rfl (Or.inl rfl) (hb hbytes d46) hl)⟩
end Cmp5
namespace Cmp3
def yN : MethodName := ⟨"java/lang/StringUTF16", "compress", "([CII)[B"⟩
abbrev yB : ByteArray := jdk_52_method_16_code
theorem d0 : decode yB 0 = .ok (.iload_n 2, 1) := by decide +kernel
theorem d1 : decode yB 1 = .ok (.newarray .byte, 2) := by decide +kernel
theorem d3 : decode yB 3 = .ok (.astore_n 3, 1) := by decide +kernel
theorem d4 : decode yB 4 = .ok (.aload_n 0, 1) := by decide +kernel
theorem d5 : decode yB 5 = .ok (.iload_n 1, 1) := by decide +kernel
theorem d6 : decode yB 6 = .ok (.aload_n 3, 1) := by decide +kernel
theorem d7 : decode yB 7 = .ok (.iconst 0, 1) := by decide +kernel
theorem d8 : decode yB 8 = .ok (.iload_n 2, 1) := by decide +kernel
theorem d9 : decode yB 9 = .ok (.invokestatic 115, 3) := by decide +kernel
theorem d12 : decode yB 12 = .ok (.istore 4, 2) := by decide +kernel
theorem d14 : decode yB 14 = .ok (.iload 4, 2) := by decide +kernel
theorem d16 : decode yB 16 = .ok (.iload_n 2, 1) := by decide +kernel
theorem d17 : decode yB 17 = .ok (.if_icmp (.eq) 40, 3) := by decide +kernel
theorem d57 : decode yB 57 = .ok (.aload_n 3, 1) := by decide +kernel
theorem d58 : decode yB 58 = .ok (.areturn, 1) := by decide +kernel
def site : List Cond := [.arrayClass .byte, Cmp5.tab] ++ staticW U16 115 Cmp5.yN
def tab : Cond := tabOf yN yB 6 (some (.array .byte)) site
def P (b : Addr) (A : Cell) (o len : Nat) (args : Array Value) (s : State) : Prop := args = #[.ref b, .int (Int32.ofNat o), .int (Int32.ofNat len)] ∧ Ch b A s ∧ o + len ≤ A.slots.size ∧ len ≤ 536870912 ∧ ∀ i, i < len → ¬ 255 < cv A (o + i)
def E (b : Addr) (A : Cell) (o len : Nat) (r : Option Value) (s u : State) : Prop := NewArr .byte "[B" len (fun j => .int (lo8 (cv A (o + j)))) r s u ∧ u.heap.size = s.heap.size + 1
/-- no char of the range above 255: a new byte[] of their low bytes -/
theorem law (l : Launch) (b : Addr) (A : Cell) (o len : Nat) : Law l yN 3 3 1 18 yB 6 (some (.array .byte)) site (P b A o len) (E b A o len) [] 1 len := by
  refine Law.of_walk (plainFor_of_name (by decide +kernel)) (by decide +kernel) (by decide +kernel) (by decide) (fun _ _ h => by rw [h.1]; rfl) (fun _ U U' hal hh h => ⟨h.1, h.2.1.mv hal hh, h.2.2⟩) (fun r U U' V V' h1 hal h2 h => ⟨NewArr.mv r U U' V V' h1 hal h2 h.1, by rw [h1, h2]; exact h.2⟩) ?_
  intro p e s m args below meth c s₁ X0 hexec hbytes hml hret hlk hnm hown hh0 W hP
  obtain ⟨rfl, hA, l1, l2, hp⟩ := hP
  have a31 := hA.1.2.2.2
  have c1 : Steps p.tables e below (s₁.setTop (entryFrame m #[.ref b, .int (Int32.ofNat o), .int (Int32.ofNat len)] 6)) (s₁.setTop (mkF m 0 #[.val (.ref b), .val (.int (Int32.ofNat o)), .val (.int (Int32.ofNat len)), .unset, .unset, .unset] [])) := entry rfl
  have c2 : Steps p.tables e below (s₁.setTop (entryFrame m #[.ref b, .int (Int32.ofNat o), .int (Int32.ofNat len)] 6)) (s₁.setTop (mkF m 1 #[.val (.ref b), .val (.int (Int32.ofNat o)), .val (.int (Int32.ofNat len)), .unset, .unset, .unset] [.int (Int32.ofNat len)])) := c1.trans (by
    refine XS.iloadN X0.here hexec rfl (hb hbytes d0) rfl ?_
    exact Steps.refl _)
  obtain ⟨T3, B3, X3, ba3, bs3, bv3, bh3, bf3, st3⟩ := X0.anew hexec (atype := .byte) (wk W (.arrayClass .byte)) rfl (by show len * 1 ≤ _; omega) (by omega) (g := (mkF m 1 #[.val (.ref b), .val (.int (Int32.ofNat o)), .val (.int (Int32.ofNat len)), .unset, .unset, .unset] [.int (Int32.ofNat len)])) rfl (hb hbytes d1) (rest := []) rfl (Nat.le_refl _) (by show 0 + len ≤ len; omega)
  rw [hh0] at ba3 st3
  have kp3 : XT.Kept s T3 := (XT.Kept.of_eq hh0).push bh3
  have hA3 := hA.keep X3.warmed.alike (kp3 _ _ hA.1.1)
  have hne : b ≠ s.heap.size := hA.1.ne
  have c4 : Steps p.tables e below (s₁.setTop (entryFrame m #[.ref b, .int (Int32.ofNat o), .int (Int32.ofNat len)] 6)) (T3.setTop (mkF m 3 #[.val (.ref b), .val (.int (Int32.ofNat o)), .val (.int (Int32.ofNat len)), .unset, .unset, .unset] [.ref s.heap.size])) := c2.trans (st3 _ (Steps.refl _))
  have c5 : Steps p.tables e below (s₁.setTop (entryFrame m #[.ref b, .int (Int32.ofNat o), .int (Int32.ofNat len)] 6)) (T3.setTop (mkF m 9 #[.val (.ref b), .val (.int (Int32.ofNat o)), .val (.int (Int32.ofNat len)), .val (.ref s.heap.size), .unset, .unset] [.int (Int32.ofNat len), .int 0, .ref s.heap.size, .int (Int32.ofNat o), .ref b])) := c4.trans (by
    refine XS.astoreN X3.here hexec rfl (hb hbytes d3) rfl rfl rfl ?_
    refine XS.aloadN X3.here hexec rfl (hb hbytes d4) rfl rfl ?_
    refine XS.iloadN X3.here hexec rfl (hb hbytes d5) rfl ?_
    refine XS.aloadN X3.here hexec rfl (hb hbytes d6) rfl rfl ?_
    refine iconstV X3.here hexec rfl 0 (hb hbytes d7) (by decide) ?_
    refine XS.iloadN X3.here hexec rfl (hb hbytes d8) rfl ?_
    exact Steps.refl _)
  obtain ⟨v6, T6, X6, E6, g6⟩ := X3.callS hexec (Cmp5.law l b A s.heap.size B3 o 0 len) hown (wks W (staticW U16 115 Cmp5.yN)) (wk W Cmp5.tab) (W := 0) (Nat.le_of_ble_eq_true rfl) (Nat.le_of_ble_eq_true rfl) (Nat.le_refl _) (by show 0 + len + 0 ≤ len; omega) (g := (mkF m 9 #[.val (.ref b), .val (.int (Int32.ofNat o)), .val (.int (Int32.ofNat len)), .val (.ref s.heap.size), .unset, .unset] [.int (Int32.ofNat len), .int (Int32.ofNat 0), .ref s.heap.size, .int (Int32.ofNat o), .ref b])) rfl (by rw [hml]; rfl) c5 (argsL := [.ref b, .int (Int32.ofNat o), .ref s.heap.size, .int (Int32.ofNat 0), .int (Int32.ofNat len)]) (rest := []) rfl rfl (by show 2 * 0 + 0 ≤ _; decide) (hb hbytes d9) (⟨rfl, hA3, ba3, hne, l1, by rw [bs3]; simp, hp⟩)
  obtain ⟨rfl, B6, p6, f6⟩ := E6
  have c7 : Steps p.tables e below (s₁.setTop (entryFrame m #[.ref b, .int (Int32.ofNat o), .int (Int32.ofNat len)] 6)) (T6.setTop (mkF m 12 #[.val (.ref b), .val (.int (Int32.ofNat o)), .val (.int (Int32.ofNat len)), .val (.ref s.heap.size), .unset, .unset] [.int (Int32.ofNat len)])) := g6
  have c8 : Steps p.tables e below (s₁.setTop (entryFrame m #[.ref b, .int (Int32.ofNat o), .int (Int32.ofNat len)] 6)) (T6.setTop (mkF m 58 #[.val (.ref b), .val (.int (Int32.ofNat o)), .val (.int (Int32.ofNat len)), .val (.ref s.heap.size), .val (.int (Int32.ofNat len)), .unset] [.ref s.heap.size])) := c7.trans (by
    refine XS.istore X6.here hexec rfl (hb hbytes d12) rfl rfl ?_
    refine XS.iload X6.here hexec rfl (hb hbytes d14) rfl ?_
    refine XS.iloadN X6.here hexec rfl (hb hbytes d16) rfl ?_
    refine XS.icmpYes X6.here hexec rfl (pc0 := 17) rfl (hb hbytes d17) rfl (ii_eq_t rfl) (by decide) rfl ?_
    refine XS.aloadN X6.here hexec rfl (hb hbytes d57) rfl rfl ?_
    exact Steps.refl _)
  have X8 := X6.wide (L' := []) (cells' := 1) (slots' := len) (fun x hx hlt => by
    simp only [List.nil_append, copyLocs, List.mem_map, List.mem_range] at hx
    obtain ⟨i, -, rfl⟩ := hx
    exact absurd hlt (Nat.lt_irrefl _)) (Nat.le_refl _) (by omega)
  exact ⟨T6, some (.ref s.heap.size), _, _, _, X8, rfl, rfl, rfl, (fun h => by cases h), ⟨⟨rfl, B6, ba3.like (X3.warmed.alike.symm.trans X6.warmed.alike) p6.1 f6.1 f6.2.1 f6.2.2.1, f6.2.1.trans bv3, by rw [X6.warmed.alike.findClass, f6.1]; exact bf3, by rw [f6.2.2.1, bs3]; simp, fun j hj => by rw [f6.2.2.2 j, if_pos (by omega)]; rfl, kp3.put p6 (Nat.le_refl _)⟩, by rw [p6.2.2, bh3, hh0]; simp⟩, fun fs hl => c8.trans (X8.areturnOut hexec rfl hret rfl (hb hbytes d58) hl)⟩
end Cmp3
namespace CodL
def yN : MethodName := ⟨"java/lang/StringUTF16", "coderFromArrayLen", "([BI)B"⟩
abbrev yB : ByteArray := jdk_52_method_15_code
theorem d0 : decode yB 0 = .ok (.iload_n 1, 1) := by decide +kernel
theorem d1 : decode yB 1 = .ok (.aload_n 0, 1) := by decide +kernel
theorem d2 : decode yB 2 = .ok (.arraylength, 1) := by decide +kernel
theorem d3 : decode yB 3 = .ok (.isub, 1) := by decide +kernel
theorem d4 : decode yB 4 = .ok (.bipush 31, 2) := by decide +kernel
theorem d6 : decode yB 6 = .ok (.iushr, 1) := by decide +kernel
theorem d7 : decode yB 7 = .ok (.i2b, 1) := by decide +kernel
theorem d8 : decode yB 8 = .ok (.ireturn, 1) := by decide +kernel
def site : List Cond := []
def tab : Cond := tabOf yN yB 2 (some .byte) site
def P (d : Addr) (B : Cell) (args : Array Value) (s : State) : Prop := args = #[.ref d, .int (Int32.ofNat B.slots.size)] ∧ Arr .byte d B s
def E (r : Option Value) (s u : State) : Prop := XT.PureE (some (.int 0)) r s u
/-- an array as long as the number of chars: LATIN1 -/
theorem law (l : Launch) (d : Addr) (B : Cell) : Law l yN 2 2 0 0 yB 2 (some .byte) site (P d B) E [] 0 0 := by
  refine Law.of_walk (plainFor_of_name (by decide +kernel)) (by decide +kernel) (by decide +kernel) (by decide) (fun _ _ h => by rw [h.1]; rfl) (fun _ U U' hal hh h => ⟨h.1, h.2.mv hal hh⟩) (fun r U U' V V' h1 hal h2 h => XT.PureE.mv r U U' V V' h1 hal h2 h) ?_
  intro p e s m args below meth c s₁ X0 hexec hbytes hml hret hlk hnm hown hh0 W hP
  obtain ⟨rfl, hB⟩ := hP
  have hB0 := hB.mv X0.warmed.alike hh0
  have c1 : Steps p.tables e below (s₁.setTop (entryFrame m #[.ref d, .int (Int32.ofNat B.slots.size)] 2)) (s₁.setTop (mkF m 0 #[.val (.ref d), .val (.int (Int32.ofNat B.slots.size))] [])) := entry rfl
  have c2 : Steps p.tables e below (s₁.setTop (entryFrame m #[.ref d, .int (Int32.ofNat B.slots.size)] 2)) (s₁.setTop (mkF m 2 #[.val (.ref d), .val (.int (Int32.ofNat B.slots.size))] [.ref d, .int (Int32.ofNat B.slots.size)])) := c1.trans (by
    refine XS.iloadN X0.here hexec rfl (hb hbytes d0) rfl ?_
    refine XS.aloadN X0.here hexec rfl (hb hbytes d1) rfl rfl ?_
    exact Steps.refl _)
  have c3 : Steps p.tables e below (s₁.setTop (entryFrame m #[.ref d, .int (Int32.ofNat B.slots.size)] 2)) (s₁.setTop (mkF m 8 #[.val (.ref d), .val (.int (Int32.ofNat B.slots.size))] [.int (lo8 (ushr (Int32.ofNat B.slots.size - Int32.ofNat B.slots.size) 31))])) := c2.trans (by
    refine X0.alen hexec hB0 rfl rfl (hb hbytes d2) ?_
    refine XS.isub X0.here hexec rfl (hb hbytes d3) rfl ?_
    refine bipushV X0.here hexec rfl 31 (hb hbytes d4) (by decide) ?_
    refine iushr X0.here hexec rfl (hb hbytes d6) rfl ?_
    refine i2b X0.here hexec rfl (hb hbytes d7) rfl ?_
    exact Steps.refl _)
  have e0 : lo8 (ushr (Int32.ofNat B.slots.size - Int32.ofNat B.slots.size) 31) = 0 := by rw [Int32.sub_self]; decide
  rw [e0] at c3
  exact ⟨s₁, some (.int 0), _, _, _, X0, rfl, rfl, rfl, (fun h => by cases h), ⟨rfl, hh0⟩, fun fs hl => c3.trans (X0.ireturnOut hexec hret rfl (Or.inr (Or.inr (Or.inl rfl))) (hb hbytes d8) hl)⟩
end CodL
/-- the String at a is Latin-1 over a new byte[] (the heap's one new cell): the low bytes of the len chars of A from o on; every cell but a is kept -/
def Got (a : Addr) (D : Cell) (fV fC : Field) (A : Cell) (o len : Nat) (r : Option Value) (s u : State) : Prop := r = none ∧ ∃ D' V : Cell, Blank "java/lang/String" a D' u ∧ Same D D' [fV.slot, fC.slot] ∧ D'.slots[fV.slot]? = some (.ref s.heap.size) ∧ D'.slots[fC.slot]? = some (.int 0) ∧ Arr .byte s.heap.size V u ∧ V.vm = .none ∧ u.vm.findClass "[B" = some V.cls ∧ V.slots.size = len ∧ (∀ j, j < len → V.slots[j]? = some (.int (lo8 (cv A (o + j))))) ∧ (∀ (y : Addr) (c : Cell), y ≠ a → s.heap[y]? = some c → u.heap[y]? = some c) ∧ u.heap.size = s.heap.size + 1
theorem Got.mv {a : Addr} {D A : Cell} {fV fC : Field} {o len : Nat} : ∀ r (U U' V V' : State), U'.heap = U.heap → V.vm.Alike V'.vm → V'.heap = V.heap → Got a D fV fC A o len r U V → Got a D fV fC A o len r U' V' :=
  fun r U U' V V' h1 hal h2 ⟨e0, D', X, a1, a2, a3, a4, a5, a6, a7, a8, a9, a10, a11⟩ => ⟨e0, D', X, a1.mv hal h2, a2, by rw [h1]; exact a3, a4, by rw [h1]; exact a5.mv hal h2, a6, by rw [hal.findClass]; exact a7, a8, a9, by rw [h1, h2]; exact a10, by rw [h1, h2]; exact a11⟩
namespace New4
def yN : MethodName := ⟨"java/lang/String", "<init>", "([CIILjava/lang/Void;)V"⟩
abbrev yB : ByteArray := jdk_42_method_149_code
theorem d0 : decode yB 0 = .ok (.aload_n 0, 1) := by decide +kernel
theorem d1 : decode yB 1 = .ok (.invokespecial 1, 3) := by decide +kernel
theorem d4 : decode yB 4 = .ok (.iload_n 3, 1) := by decide +kernel
theorem d5 : decode yB 5 = .ok (.ifCond (.ne) 22, 3) := by decide +kernel
theorem d27 : decode yB 27 = .ok (.getstatic 38, 3) := by decide +kernel
theorem d30 : decode yB 30 = .ok (.ifCond (.eq) 28, 3) := by decide +kernel
theorem d33 : decode yB 33 = .ok (.aload_n 1, 1) := by decide +kernel
theorem d34 : decode yB 34 = .ok (.iload_n 2, 1) := by decide +kernel
theorem d35 : decode yB 35 = .ok (.iload_n 3, 1) := by decide +kernel
theorem d36 : decode yB 36 = .ok (.invokestatic 177, 3) := by decide +kernel
theorem d39 : decode yB 39 = .ok (.astore 5, 2) := by decide +kernel
theorem d41 : decode yB 41 = .ok (.aload_n 0, 1) := by decide +kernel
theorem d42 : decode yB 42 = .ok (.aload 5, 2) := by decide +kernel
theorem d44 : decode yB 44 = .ok (.iload_n 3, 1) := by decide +kernel
theorem d45 : decode yB 45 = .ok (.invokestatic 47, 3) := by decide +kernel
theorem d48 : decode yB 48 = .ok (.putfield 15, 3) := by decide +kernel
theorem d51 : decode yB 51 = .ok (.aload_n 0, 1) := by decide +kernel
theorem d52 : decode yB 52 = .ok (.aload 5, 2) := by decide +kernel
theorem d54 : decode yB 54 = .ok (.putfield 9, 3) := by decide +kernel
theorem d57 : decode yB 57 = .ok (.return_, 1) := by decide +kernel
def site : List Cond := [.fieldLink "java/lang/String" 38 "java/lang/String" "COMPACT_STRINGS" "Z", Cmp3.tab, CodL.tab, .laysFinal "java/lang/String" "java/lang/String" "value" "[B", .fieldLink "java/lang/String" 9 "java/lang/String" "value" "[B", .laysFinal "java/lang/String" "java/lang/String" "coder" "B", .fieldLink "java/lang/String" 15 "java/lang/String" "coder" "B"] ++ objW "java/lang/String" 1 ++ staticW "java/lang/String" 177 Cmp3.yN ++ staticW "java/lang/String" 47 CodL.yN
def tab : Cond := tabOf yN yB 6 none site
def P (a : Addr) (D : Cell) (fV fC : Field) (b : Addr) (A : Cell) (z : Int32) (o len : Nat) (args : Array Value) (s : State) : Prop := args = #[.ref a, .ref b, .int (Int32.ofNat o), .int (Int32.ofNat len), .null] ∧ Blank "java/lang/String" a D s ∧ Found "java/lang/String" "value" "[B" fV s ∧ Found "java/lang/String" "coder" "B" fC s ∧ Ch b A s ∧ StaticIs s "java/lang/String" "COMPACT_STRINGS" "Z" (.int z) ∧ ¬ z = 0 ∧ 0 < len ∧ o + len ≤ A.slots.size ∧ len ≤ 536870912 ∧ ∀ i, i < len → ¬ 255 < cv A (o + i)
def E (a : Addr) (D : Cell) (fV fC : Field) (A : Cell) (o len : Nat) (r : Option Value) (s u : State) : Prop := Got a D fV fC A o len r s u
/-- len > 0, no char of the range above 255: a Latin-1 String of their low bytes -/
theorem law (l : Launch) (a : Addr) (D : Cell) (fV fC : Field) (b : Addr) (A : Cell) (z : Int32) (o len : Nat) : Law l yN 5 4 2 35 yB 6 none site (P a D fV fC b A z o len) (E a D fV fC A o len) [⟨a, fC.slot⟩, ⟨a, fV.slot⟩] 1 len := by
  refine Law.of_walk (plainFor_of_name (by decide +kernel)) (by decide +kernel) (by decide +kernel) (by decide) (fun _ _ h => by rw [h.1]; rfl) (fun _ U U' hal hh h => ⟨h.1, h.2.1.mv hal hh, h.2.2.1.al hal, h.2.2.2.1.al hal, h.2.2.2.2.1.mv hal hh, h.2.2.2.2.2.1.there hal hh, h.2.2.2.2.2.2⟩) (fun r U U' V V' h1 hal h2 h => Got.mv r U U' V V' h1 hal h2 h) ?_
  intro p e s m args below meth c s₁ X0 hexec hbytes hml hret hlk hnm hown hh0 W hP
  obtain ⟨rfl, hB, f1, f2, hA, s1, hz, l0, l1, l2, hp⟩ := hP
  have a31 := hA.1.2.2.2
  have c1 : Steps p.tables e below (s₁.setTop (entryFrame m #[.ref a, .ref b, .int (Int32.ofNat o), .int (Int32.ofNat len), .null] 6)) (s₁.setTop (mkF m 0 #[.val (.ref a), .val (.ref b), .val (.int (Int32.ofNat o)), .val (.int (Int32.ofNat len)), .val .null, .unset] [])) := entry rfl
  have c2 : Steps p.tables e below (s₁.setTop (entryFrame m #[.ref a, .ref b, .int (Int32.ofNat o), .int (Int32.ofNat len), .null] 6)) (s₁.setTop (mkF m 1 #[.val (.ref a), .val (.ref b), .val (.int (Int32.ofNat o)), .val (.int (Int32.ofNat len)), .val .null, .unset] [.ref a])) := c1.trans (by
    refine XS.aloadN X0.here hexec rfl (hb hbytes d0) rfl rfl ?_
    exact Steps.refl _)
  obtain ⟨T3, X3, q3, st3⟩ := X0.oinit hexec hown (wks W (objW "java/lang/String" 1)) (g := (mkF m 1 #[.val (.ref a), .val (.ref b), .val (.int (Int32.ofNat o)), .val (.int (Int32.ofNat len)), .val .null, .unset] [.ref a])) rfl (by rw [hml]; rfl) (rest := []) rfl (hb hbytes d1) (W := 0) (by show 2 * 0 + 0 ≤ _; decide) (Nat.le_of_ble_eq_true rfl) (Nat.le_of_ble_eq_true rfl)
  have hh3 := q3.trans hh0
  have c4 : Steps p.tables e below (s₁.setTop (entryFrame m #[.ref a, .ref b, .int (Int32.ofNat o), .int (Int32.ofNat len), .null] 6)) (T3.setTop (mkF m 27 #[.val (.ref a), .val (.ref b), .val (.int (Int32.ofNat o)), .val (.int (Int32.ofNat len)), .val .null, .unset] [])) := (c2.trans (st3 _ (Steps.refl _))).trans (by
    refine XS.iloadN X3.here hexec rfl (hb hbytes d4) rfl ?_
    refine XS.ifYes X3.here hexec rfl (pc0 := 5) rfl (hb hbytes d5) rfl (i0_ne_t (nz32 (by omega) l0)) (by decide) rfl ?_
    exact Steps.refl _)
  obtain ⟨T5, X5, q5, st5⟩ := X3.sget hexec hown (wk W (.fieldLink "java/lang/String" 38 "java/lang/String" "COMPACT_STRINGS" "Z")) s1 (fun _ _ h => by rw [hh3]; exact h) (g := (mkF m 27 #[.val (.ref a), .val (.ref b), .val (.int (Int32.ofNat o)), .val (.int (Int32.ofNat len)), .val .null, .unset] [])) rfl (hb hbytes d27)
  have hh5 := q5.trans hh3
  have c6 : Steps p.tables e below (s₁.setTop (entryFrame m #[.ref a, .ref b, .int (Int32.ofNat o), .int (Int32.ofNat len), .null] 6)) (T5.setTop (mkF m 30 #[.val (.ref a), .val (.ref b), .val (.int (Int32.ofNat o)), .val (.int (Int32.ofNat len)), .val .null, .unset] [.int z])) := c4.trans (st5 _ (Steps.refl _))
  have c7 : Steps p.tables e below (s₁.setTop (entryFrame m #[.ref a, .ref b, .int (Int32.ofNat o), .int (Int32.ofNat len), .null] 6)) (T5.setTop (mkF m 36 #[.val (.ref a), .val (.ref b), .val (.int (Int32.ofNat o)), .val (.int (Int32.ofNat len)), .val .null, .unset] [.int (Int32.ofNat len), .int (Int32.ofNat o), .ref b])) := c6.trans (by
    refine XS.ifNo X5.here hexec rfl (hb hbytes d30) rfl (i0_eq_f hz) ?_
    refine XS.aloadN X5.here hexec rfl (hb hbytes d33) rfl rfl ?_
    refine XS.iloadN X5.here hexec rfl (hb hbytes d34) rfl ?_
    refine XS.iloadN X5.here hexec rfl (hb hbytes d35) rfl ?_
    exact Steps.refl _)
  obtain ⟨v8, T8, X8, E8, g8⟩ := X5.callS hexec (Cmp3.law l b A o len) hown (wks W (staticW "java/lang/String" 177 Cmp3.yN)) (wk W Cmp3.tab) (W := 0) (Nat.le_of_ble_eq_true rfl) (Nat.le_of_ble_eq_true rfl) (Nat.le_refl _) (by show 0 + len ≤ len; omega) (g := (mkF m 36 #[.val (.ref a), .val (.ref b), .val (.int (Int32.ofNat o)), .val (.int (Int32.ofNat len)), .val .null, .unset] [.int (Int32.ofNat len), .int (Int32.ofNat o), .ref b])) rfl (by rw [hml]; rfl) c7 (argsL := [.ref b, .int (Int32.ofNat o), .int (Int32.ofNat len)]) (rest := []) rfl rfl (by show 2 * 0 + 0 ≤ _; decide) (hb hbytes d36) (⟨rfl, hA.mv X5.warmed.alike hh5, l1, l2, hp⟩)
  obtain ⟨e8, z8⟩ := E8
  obtain ⟨rfl, N, n1, n2, n3, n4, n5, n6⟩ := NewArr.mv _ T5 s _ _ hh5.symm (Vm.Alike.refl _) rfl e8
  rw [hh5] at z8
  have hB1 := hB.keep X8.warmed.alike (n6 _ _ hB.1)
  have hne : s.heap.size ≠ a := (Nat.ne_of_lt (Array.getElem?_eq_some_iff.mp hB.1).1).symm
  have c9 : Steps p.tables e below (s₁.setTop (entryFrame m #[.ref a, .ref b, .int (Int32.ofNat o), .int (Int32.ofNat len), .null] 6)) (T8.setTop (mkF m 39 #[.val (.ref a), .val (.ref b), .val (.int (Int32.ofNat o)), .val (.int (Int32.ofNat len)), .val .null, .unset] [.ref s.heap.size])) := g8
  have c10 : Steps p.tables e below (s₁.setTop (entryFrame m #[.ref a, .ref b, .int (Int32.ofNat o), .int (Int32.ofNat len), .null] 6)) (T8.setTop (mkF m 45 #[.val (.ref a), .val (.ref b), .val (.int (Int32.ofNat o)), .val (.int (Int32.ofNat len)), .val .null, .val (.ref s.heap.size)] [.int (Int32.ofNat N.slots.size), .ref s.heap.size, .ref a])) := by
    have hc : Steps p.tables e below (s₁.setTop (entryFrame m #[.ref a, .ref b, .int (Int32.ofNat o), .int (Int32.ofNat len), .null] 6)) (T8.setTop (mkF m 45 #[.val (.ref a), .val (.ref b), .val (.int (Int32.ofNat o)), .val (.int (Int32.ofNat len)), .val .null, .val (.ref s.heap.size)] [.int (Int32.ofNat len), .ref s.heap.size, .ref a])) := c9.trans (by
      refine XS.astore X8.here hexec rfl (hb hbytes d39) rfl rfl rfl ?_
      refine XS.aloadN X8.here hexec rfl (hb hbytes d41) rfl rfl ?_
      refine XS.aload X8.here hexec rfl (hb hbytes d42) rfl rfl ?_
      refine XS.iloadN X8.here hexec rfl (hb hbytes d44) rfl ?_
      exact Steps.refl _)
    rw [n4]; exact hc
  obtain ⟨v11, T11, X11, E11, g11⟩ := X8.callS hexec (CodL.law l s.heap.size N) hown (wks W (staticW "java/lang/String" 47 CodL.yN)) (wk W CodL.tab) (W := 1) (Nat.le_of_ble_eq_true rfl) (Nat.le_of_ble_eq_true rfl) (Nat.le_refl _) (by show 0 + len + 0 ≤ len; omega) (g := (mkF m 45 #[.val (.ref a), .val (.ref b), .val (.int (Int32.ofNat o)), .val (.int (Int32.ofNat len)), .val .null, .val (.ref s.heap.size)] [.int (Int32.ofNat N.slots.size), .ref s.heap.size, .ref a])) rfl (by rw [hml]; rfl) c10 (argsL := [.ref s.heap.size, .int (Int32.ofNat N.slots.size)]) (rest := [.ref a]) rfl rfl (by show 2 * 0 + (1 + 0) ≤ _; decide) (hb hbytes d45) (⟨rfl, n1⟩)
  obtain ⟨rfl, q11⟩ := E11
  have hB11 := hB1.mv (X8.warmed.alike.symm.trans X11.warmed.alike) q11
  have c12 : Steps p.tables e below (s₁.setTop (entryFrame m #[.ref a, .ref b, .int (Int32.ofNat o), .int (Int32.ofNat len), .null] 6)) (T11.setTop (mkF m 48 #[.val (.ref a), .val (.ref b), .val (.int (Int32.ofNat o)), .val (.int (Int32.ofNat len)), .val .null, .val (.ref s.heap.size)] [.int 0, .ref a])) := g11
  obtain ⟨T13, X13, p13, bl13, sl13, st13⟩ := X11.finit hexec hown (wk W (.fieldLink "java/lang/String" 15 "java/lang/String" "coder" "B")) (Or.inr ⟨_, (wk W (.laysFinal "java/lang/String" "java/lang/String" "coder" "B"))⟩) (Or.inl ⟨rfl, hnm⟩) f2 (Or.inl rfl) hB11 (t := .byte) (by decide +kernel) rfl (g := (mkF m 48 #[.val (.ref a), .val (.ref b), .val (.int (Int32.ofNat o)), .val (.int (Int32.ofNat len)), .val .null, .val (.ref s.heap.size)] [.int 0, .ref a])) rfl (rest := []) rfl (hb hbytes d48)
  have c14 : Steps p.tables e below (s₁.setTop (entryFrame m #[.ref a, .ref b, .int (Int32.ofNat o), .int (Int32.ofNat len), .null] 6)) (T13.setTop (mkF m 54 #[.val (.ref a), .val (.ref b), .val (.int (Int32.ofNat o)), .val (.int (Int32.ofNat len)), .val .null, .val (.ref s.heap.size)] [.ref s.heap.size, .ref a])) := (c12.trans (st13 _ (Steps.refl _))).trans (by
    refine XS.aloadN X13.here hexec rfl (hb hbytes d51) rfl rfl ?_
    refine XS.aload X13.here hexec rfl (hb hbytes d52) rfl rfl ?_
    exact Steps.refl _)
  obtain ⟨T15, X15, p15, bl15, sl15, st15⟩ := X13.finit hexec hown (wk W (.fieldLink "java/lang/String" 9 "java/lang/String" "value" "[B")) (Or.inr ⟨_, (wk W (.laysFinal "java/lang/String" "java/lang/String" "value" "[B"))⟩) (Or.inl ⟨rfl, hnm⟩) f1 (Or.inl rfl) bl13 (t := (.array .byte)) (by decide +kernel) rfl (g := (mkF m 54 #[.val (.ref a), .val (.ref b), .val (.int (Int32.ofNat o)), .val (.int (Int32.ofNat len)), .val .null, .val (.ref s.heap.size)] [.ref s.heap.size, .ref a])) rfl (rest := []) rfl (hb hbytes d54)
  have c16 : Steps p.tables e below (s₁.setTop (entryFrame m #[.ref a, .ref b, .int (Int32.ofNat o), .int (Int32.ofNat len), .null] 6)) (T15.setTop (mkF m 57 #[.val (.ref a), .val (.ref b), .val (.int (Int32.ofNat o)), .val (.int (Int32.ofNat len)), .val .null, .val (.ref s.heap.size)] [])) := c14.trans (st15 _ (Steps.refl _))
  have ap := apart (Or.inr ⟨_, (wk W (.laysFinal "java/lang/String" "java/lang/String" "value" "[B"))⟩) (Or.inr ⟨_, (wk W (.laysFinal "java/lang/String" "java/lang/String" "coder" "B"))⟩) f1 f2 (t₁ := .array .byte) (t₂ := .byte) (by decide +kernel) (by decide +kernel) (by decide)
  have al := X8.warmed.alike.symm.trans X15.warmed.alike
  have n7 : T11.heap[s.heap.size]? = some N := by rw [q11]; exact n1.1
  exact ⟨T15, none, _, _, _, X15, by simp, rfl, by omega, (fun _ => rfl), ⟨rfl, _, N, bl15, ((Same.refl D _).set _ (by simp)).set _ (by simp), sl15, (Cell.slots_setSlot_ne _ ap).trans sl13, n1.keep al (p15.other hne (p13.other hne n7)), n2, by rw [al.findClass]; exact n3, n4, n5, fun y c h1 h2 => p15.other h1 (p13.other h1 (by rw [q11]; exact n6 y c h2)), by rw [p15.2.2, p13.2.2, q11]; exact z8⟩, fun fs hl => c16.trans (X15.returnOut hexec hret (hb hbytes d57) hl)⟩
end New4
namespace New1
def yN : MethodName := ⟨"java/lang/String", "<init>", "([C)V"⟩
abbrev yB : ByteArray := jdk_42_method_3_code
theorem d0 : decode yB 0 = .ok (.aload_n 0, 1) := by decide +kernel
theorem d1 : decode yB 1 = .ok (.aload_n 1, 1) := by decide +kernel
theorem d2 : decode yB 2 = .ok (.iconst 0, 1) := by decide +kernel
theorem d3 : decode yB 3 = .ok (.aload_n 1, 1) := by decide +kernel
theorem d4 : decode yB 4 = .ok (.arraylength, 1) := by decide +kernel
theorem d5 : decode yB 5 = .ok (.aconst_null, 1) := by decide +kernel
theorem d6 : decode yB 6 = .ok (.invokespecial 27, 3) := by decide +kernel
theorem d9 : decode yB 9 = .ok (.return_, 1) := by decide +kernel
def site : List Cond := [New4.tab] ++ initW "java/lang/String" 27 New4.yN
def tab : Cond := tabOf yN yB 2 none site
def P (a : Addr) (D : Cell) (fV fC : Field) (b : Addr) (A : Cell) (z : Int32) (args : Array Value) (s : State) : Prop := args = #[.ref a, .ref b] ∧ Blank "java/lang/String" a D s ∧ Found "java/lang/String" "value" "[B" fV s ∧ Found "java/lang/String" "coder" "B" fC s ∧ Ch b A s ∧ StaticIs s "java/lang/String" "COMPACT_STRINGS" "Z" (.int z) ∧ ¬ z = 0 ∧ 0 < A.slots.size ∧ A.slots.size ≤ 536870912 ∧ ∀ i, i < A.slots.size → ¬ 255 < cv A i
def E (a : Addr) (D : Cell) (fV fC : Field) (A : Cell) (r : Option Value) (s u : State) : Prop := Got a D fV fC A 0 A.slots.size r s u
/-- new String(chars), not empty, no char above 255: a Latin-1 String of their low bytes -/
theorem law (l : Launch) (a : Addr) (D : Cell) (fV fC : Field) (b : Addr) (A : Cell) (z : Int32) : Law l yN 2 1 3 52 yB 2 none site (P a D fV fC b A z) (E a D fV fC A) [⟨a, fC.slot⟩, ⟨a, fV.slot⟩] 1 A.slots.size := by
  refine Law.of_walk (plainFor_of_name (by decide +kernel)) (by decide +kernel) (by decide +kernel) (by decide) (fun _ _ h => by rw [h.1]; rfl) (fun _ U U' hal hh h => ⟨h.1, h.2.1.mv hal hh, h.2.2.1.al hal, h.2.2.2.1.al hal, h.2.2.2.2.1.mv hal hh, h.2.2.2.2.2.1.there hal hh, h.2.2.2.2.2.2⟩) (fun r U U' V V' h1 hal h2 h => Got.mv r U U' V V' h1 hal h2 h) ?_
  intro p e s m args below meth c s₁ X0 hexec hbytes hml hret hlk hnm hown hh0 W hP
  obtain ⟨rfl, hB, f1, f2, hA, s1, hz, l0, l2, hp⟩ := hP
  have c1 : Steps p.tables e below (s₁.setTop (entryFrame m #[.ref a, .ref b] 2)) (s₁.setTop (mkF m 0 #[.val (.ref a), .val (.ref b)] [])) := entry rfl
  have c2 : Steps p.tables e below (s₁.setTop (entryFrame m #[.ref a, .ref b] 2)) (s₁.setTop (mkF m 6 #[.val (.ref a), .val (.ref b)] [.null, .int (Int32.ofNat A.slots.size), .int 0, .ref b, .ref a])) := c1.trans (by
    refine XS.aloadN X0.here hexec rfl (hb hbytes d0) rfl rfl ?_
    refine XS.aloadN X0.here hexec rfl (hb hbytes d1) rfl rfl ?_
    refine iconstV X0.here hexec rfl 0 (hb hbytes d2) (by decide) ?_
    refine XS.aloadN X0.here hexec rfl (hb hbytes d3) rfl rfl ?_
    refine X0.alen hexec (hA.1.mv X0.warmed.alike hh0) rfl rfl (hb hbytes d4) ?_
    refine XS.aconstNull X0.here hexec rfl (hb hbytes d5) ?_
    exact Steps.refl _)
  obtain ⟨v3, T3, X3, E3, g3⟩ := X0.callN hexec (New4.law l a D fV fC b A z 0 A.slots.size) rfl hown (wks W (initW "java/lang/String" 27 New4.yN)) (W New4.tab (by simp only [site, List.mem_cons, List.mem_append, true_or, or_true])) (W := 0) (Nat.le_of_ble_eq_true rfl) (Nat.le_of_ble_eq_true rfl) (Nat.le_refl _) (by show 0 + A.slots.size ≤ A.slots.size; omega) (g := (mkF m 6 #[.val (.ref a), .val (.ref b)] [.null, .int (Int32.ofNat A.slots.size), .int (Int32.ofNat 0), .ref b, .ref a])) rfl (by rw [hml]; rfl) c2 (argsL := [.ref b, .int (Int32.ofNat 0), .int (Int32.ofNat A.slots.size), .null]) (rest := []) rfl rfl (by show 2 * 0 + 0 ≤ _; decide) (hb hbytes d6) (⟨rfl, hB.mv X0.warmed.alike hh0, f1.al X0.warmed.alike, f2.al X0.warmed.alike, hA.mv X0.warmed.alike hh0, s1.there X0.warmed.alike hh0, hz, l0, by omega, l2, fun i hi => by rw [Nat.zero_add]; exact hp i hi⟩)
  have e0 := Got.mv _ s₁ s _ _ hh0.symm (Vm.Alike.refl _) rfl E3
  obtain rfl := e0.1
  have c4 : Steps p.tables e below (s₁.setTop (entryFrame m #[.ref a, .ref b] 2)) (T3.setTop (mkF m 9 #[.val (.ref a), .val (.ref b)] [])) := g3
  exact ⟨T3, none, _, _, _, X3, by simp, rfl, by omega, (fun _ => rfl), e0, fun fs hl => c4.trans (X3.returnOut hexec hret (hb hbytes d9) hl)⟩
theorem pays {l : Launch} {R : Room} {p : Program} {e : Env} {below : List Frame} {s : State} {sargs : Array Value} {len W : Nat} (a : Addr) (D : Cell) (fV fC : Field) (b : Addr) (A : Cell) (z : Int32) (htab : tab.before sargs s = true) (hfr : 4 ≤ R.frames) (hlo : W + 65 ≤ R.locals) :
    Back l R p e below s sargs yN len W (fun A₁ a₁ => A₁.cells + 1 ≤ R.cells ∧ A₁.slots + A.slots.size ≤ R.slots ∧ P a D fV fC b A z a₁ A₁.U) (fun A₁ _ v₁ B₁ => E a D fV fC A v₁ A₁.U B₁.U ∧ B₁.locs = A₁.locs ++ [⟨a, fC.slot⟩, ⟨a, fV.slot⟩] ∧ B₁.cells = A₁.cells + 1 ∧ B₁.slots = A₁.slots + A.slots.size) :=
  (law l a D fV fC b A z).pays htab hfr (by omega)
end New1
/-- the byte, read back as charAt reads it, is the char -/
theorem lo8_mask {x : Int32} (h0 : ¬ x < 0) (h1 : ¬ 255 < x) : lo8 x &&& 255 = x := by
  have t : ∀ k : Fin 256, lo8 (Int32.ofNat k.val) &&& 255 = Int32.ofNat k.val := by decide +kernel
  rw [Int32.lt_iff_toInt_lt] at h0 h1
  have e0 : (0 : Int32).toInt = 0 := rfl
  have e1 : (255 : Int32).toInt = 255 := rfl
  obtain ⟨k, hk⟩ : ∃ k : Nat, x.toInt = k := ⟨x.toInt.toNat, by omega⟩
  have hx : x = Int32.ofNat k := Int32.toInt_inj.mp (by rw [hk, Int32.toInt_ofNat_small (by omega)])
  rw [hx]
  exact t ⟨k, by omega⟩
end StrChars
namespace StrChars.Road
open Jvm Sem ClassFile Op Lib Jvm.Stand Jvm.Free Jvm.Free.XT
open Jvm.Lib.Cold (StaticIs)
abbrev ST : String := "java/lang/String"
/-- every table word that New1's law asks, flat -/
abbrev words : List Jvm.Cond := [.code New1.yN New1.yB 2 none, .initialized ST, .methodLink ST 27 New4.yN, .instanceMethod New4.yN,
  .code New4.yN New4.yB 6 none, .fieldLink ST 38 ST "COMPACT_STRINGS" "Z", .laysFinal ST ST "value" "[B", .fieldLink ST 9 ST "value" "[B", .laysFinal ST ST "coder" "B", .fieldLink ST 15 ST "coder" "B",
  .methodLink ST 1 Lib.objectInit, .instanceMethod Lib.objectInit, .code Lib.objectInit ⟨#[0xb1]⟩ 1 none, .methodLink ST 177 Cmp3.yN, .static Cmp3.yN, .methodLink ST 47 CodL.yN, .static CodL.yN,
  .code Cmp3.yN Cmp3.yB 6 (some (.array .byte)), .initialized U16, .arrayClass .byte, .methodLink U16 115 Cmp5.yN, .static Cmp5.yN, .code Cmp5.yN Cmp5.yB 7 (some .int), .code CodL.yN CodL.yB 2 (some .byte)]
theorem tab_of {a : Array Value} {s : State} (h : ∀ w ∈ words, w.before a s = true) : New1.tab.before a s = true := by
  have h5 : Cmp5.tab.before a s = true := unparts (wk h (.code Cmp5.yN Cmp5.yB 7 (some .int))) (wks h (.initialized Cmp5.yN.cls :: Cmp5.site))
  have hc : CodL.tab.before a s = true := unparts (wk h (.code CodL.yN CodL.yB 2 (some .byte))) (wks h (.initialized CodL.yN.cls :: CodL.site))
  have q5 : ∀ w ∈ Cmp5.tab :: words, w.before a s = true := fun w hw => (List.mem_cons.mp hw).elim (fun e => e ▸ h5) (h w)
  have h3 : Cmp3.tab.before a s = true := unparts (wk q5 (.code Cmp3.yN Cmp3.yB 6 (some (.array .byte)))) (wks q5 (.initialized Cmp3.yN.cls :: Cmp3.site))
  have q3 : ∀ w ∈ Cmp3.tab :: CodL.tab :: words, w.before a s = true := fun w hw => (List.mem_cons.mp hw).elim (fun e => e ▸ h3) fun hw => (List.mem_cons.mp hw).elim (fun e => e ▸ hc) (h w)
  have h4 : New4.tab.before a s = true := unparts (wk q3 (.code New4.yN New4.yB 6 none)) (wks q3 (.initialized New4.yN.cls :: New4.site))
  have q4 : ∀ w ∈ New4.tab :: words, w.before a s = true := fun w hw => (List.mem_cons.mp hw).elim (fun e => e ▸ h4) (h w)
  exact unparts (wk q4 (.code New1.yN New1.yB 2 none)) (wks q4 (.initialized New1.yN.cls :: New1.site))
/-- the words ride from the start Z to the walk's own state -/
theorem moved {Z s : State} {a0 args : Array Value} (hZ : Z.Warmed39 s.vm) (hw : ∀ d ∈ words, d.before a0 Z = true) : ∀ d ∈ words, d.before args s = true := fun d hd => by
  have q := hw d hd
  have t : ∀ d ∈ words, d = .arrayClass .byte ∨ (d.onTables && d.keepsFace) = true := by decide +kernel
  rcases t d hd with rfl | t
  · exact RoadKit.mvA hZ q
  · exact RoadKit.mv hZ q t
/-- WHAT COMES BACK, over the tables of the start Z: h the heap at the call, h' behind it -/
def Q (Z : State) (x : Addr) (A : Cell) (h : Heap) (v : Option Value) (h' : Heap) (L : List Loc) : Prop := v = none ∧ (∀ y ∈ L, y.base = x) ∧ RoadKit.Keep h h' [x] ∧ h'.size = h.size + 1 ∧ RoadKit.Exa Z h' x ST ∧ RoadKit.Fld Z h' x ST "value" "[B" (.ref h.size) ∧ RoadKit.Fld Z h' x ST "coder" "B" (.int 0) ∧
  (∃ V : Cell, RoadKit.Arr Z h' h.size V .byte ∧ V.vm = .none ∧ Z.vm.findClass "[B" = some V.cls ∧ V.slots.size = A.slots.size ∧ ∀ j, j < A.slots.size → V.slots[j]? = some (.int (lo8 (cv A j)))) ∧
  ∀ (O n d : String) (w : Value), RoadKit.Fld Z h x O n d w → RoadKit.slotOf Z O n d ≠ RoadKit.slotOf Z ST "value" "[B" → RoadKit.slotOf Z O n d ≠ RoadKit.slotOf Z ST "coder" "B" → RoadKit.Fld Z h' x O n d w
/-- **new String(chars) AT A CALL, IN THE ROAD'S FORM**: for specialBack behind newO: x the fresh String, b the char[] with the cell A -/
theorem back {p : Program} {l : Launch} {e : Env} {R : Room} {s : State} {args : Array Value} {below : List Frame} {len W : Nat} {Z : State} {a0 : Array Value} {h : Heap} (hZ : Z.Warmed39 s.vm) (hw : ∀ d ∈ words, d.before a0 Z = true) {kI : Nat} (wi : (Jvm.Cond.instantiable ST kI).before a0 Z = true)
    {x b : Addr} {A : Cell} {z : Int32} {v0 c0 : Value} (E : RoadKit.Exa Z h x ST) (V : RoadKit.Fld Z h x ST "value" "[B" v0) (C : RoadKit.Fld Z h x ST "coder" "B" c0) (K : RoadKit.Arr Z h b A .char) (hty : Typed .char A) (S : RoadKit.Sta Z h ST "COMPACT_STRINGS" "Z" (.int z)) (hz : ¬ z = 0)
    (l0 : 0 < A.slots.size) (l2 : A.slots.size ≤ 536870912) (hp : ∀ i, i < A.slots.size → ¬ 255 < cv A i) (hfr : 4 ≤ R.frames) (hlo : W + 65 ≤ R.locals) :
    Back l R p e below s args New1.yN len W (fun P a => a = #[.ref x, .ref b] ∧ P.U.heap = h ∧ P.cells + 1 ≤ R.cells ∧ P.slots + A.slots.size ≤ R.slots)
      (fun P _ v B => ∃ L, Q Z x A h v B.U.heap L ∧ B.locs = P.locs ++ L ∧ B.cells = P.cells + 1 ∧ B.slots = P.slots + A.slots.size) := by
  intro m meth c P g ig mk a X hg hsize hdg hW hn hp'
  obtain ⟨rfl, rfl, r1, r2⟩ := hp'
  have al : Z.vm.Alike P.U.vm := hZ.alike.trans X.warmed.alike
  obtain ⟨D, cfV, kV, iV, fV, hD, gV, stV, knV, obV, asV, slV⟩ := id V
  obtain ⟨D', cfC, kC, iC, fC, hD', gC, stC, -, -, asC, slC⟩ := id C
  cases hD.symm.trans hD'
  obtain ⟨D2, kD, e1, e2, e3, e4, e5⟩ := id E
  cases hD.symm.trans e1
  obtain ⟨c2, k2, i1, i2, i3, -⟩ := Cond.instantiable_spec wi
  cases e2.symm.trans i1
  cases e3.symm.trans i2
  obtain ⟨kU, u1, u2⟩ := al.2.2 _ _ e3
  have hB : Blank ST x D P.U := ⟨hD, ⟨knV, fun q hq => by rw [hq] at obV; cases obV⟩, by rw [al.findClass]; exact e2, kU, u1, by rw [u2]; exact i3, by rw [u2]; exact e5 i3⟩
  have F1 : Found ST "value" "[B" fV P.U := ⟨SBG.found_only al ⟨cfV, kV, iV, gV⟩, stV⟩
  have F2 : Found ST "coder" "B" fC P.U := ⟨SBG.found_only al ⟨cfC, kC, iC, gC⟩, stC⟩
  have hA : Ch b A P.U := ⟨⟨K.1, State.isArrayOf_alike al K.2.1, K.2.2, by omega⟩, hty⟩
  have hS : StaticIs P.U ST "COMPACT_STRINGS" "Z" (.int z) := by
    obtain ⟨cfS, iS, kS, fS, st, cS, t1, t2, t3, t4, t5, t6, t7⟩ := S
    exact StaticIs.there (s := { Z with heap := P.U.heap }) ⟨cfS, iS, kS, fS, st, cS, t1, t2, t3, t4, t5, (fun q => by rw [q] at t6; cases t6), t7⟩ al rfl
  obtain ⟨v, B, X', ⟨⟨hv, E', V', q1, q2, q3, q4, q5, q6, q7, q8, q9, q10, q11⟩, hl, hc, hs⟩, st⟩ := New1.pays x D fV fC b A z (tab_of (moved hZ hw)) hfr hlo m meth c P g ig mk _ X hg hsize hdg hW hn ⟨r1, r2, rfl, hB, F1, F2, hA, hS, hz, l0, l2, hp⟩
  have al' : Z.vm.Alike B.U.vm := hZ.alike.trans X'.warmed.alike
  have hsz : E'.slots.size = D.slots.size := by
    obtain ⟨-, -, -, kB, w1, w2, w3⟩ := q1
    obtain ⟨kB', y1, y2⟩ := al'.2.2 _ _ e3
    rw [q2.2.1] at w1
    cases w1.symm.trans y1
    rw [w3, e5 i3, y2]
  refine ⟨v, B, X', ⟨_, ⟨hv, ?_, ⟨by omega, fun y cy hy hn' => q10 y cy (by simpa using hn') hy, fun y cy hy => ?_⟩, q11, ⟨E', _, q1.1, by rw [q2.2.1]; exact e2, by rw [q2.2.1]; exact e3, by rw [q2.1]; exact obV, fun _ => by rw [hsz]; exact e5 i3⟩,
    ⟨E', cfV, kV, iV, fV, q1.1, gV, stV, by rw [q2.1]; exact knV, by rw [q2.1]; exact obV, by rw [q2.2.1]; exact asV, q3⟩, ⟨E', cfC, kC, iC, fC, q1.1, gC, stC, by rw [q2.1]; exact knV, by rw [q2.1]; exact obV, by rw [q2.2.1]; exact asC, q4⟩,
    ⟨V', ⟨q5.1, State.isArrayOf_alike al'.symm q5.2.1, q5.2.2.1⟩, q6, by rw [← al'.findClass]; exact q7, q8, fun j hj => by have := q9 j hj; rwa [Nat.zero_add] at this⟩, fun O n d w F n1 n2 => ?_⟩, hl, hc, hs⟩, st⟩
  · intro y hy
    simp only [List.mem_cons, List.not_mem_nil, or_false] at hy
    rcases hy with rfl | rfl <;> rfl
  · by_cases q : y = x
    · subst q
      cases hD.symm.trans hy
      exact ⟨E', q1.1, q2.2.1, q2.1, hsz⟩
    · exact ⟨cy, q10 y cy q hy, rfl, rfl, rfl⟩
  · obtain ⟨D3, cf, k, i, f, g1, g2, g3, g4, g5, g6, g7⟩ := F
    cases hD.symm.trans g1
    simp only [RoadKit.slotOf, g2, gV, gC, Option.map_some, Option.getD_some] at n1 n2
    exact ⟨E', cf, k, i, f, q1.1, g2, g3, by rw [q2.1]; exact g4, by rw [q2.1]; exact g5, by rw [q2.2.1]; exact g6, by rw [q2.2.2 f.slot (by simp [n1, n2])]; exact g7⟩
end StrChars.Road
namespace StrChars.Road
open Jvm Sem ClassFile Op Lib Jvm.Stand Jvm.Free Jvm.Free.XT
/-- WHAT COMES BACK, the byte[] as a list of values -/
def QA (Z : State) (x : Addr) (zn : Int32) (cs : List Int32) (h : Heap) (v : Option Value) (h' : Heap) (L : List Loc) : Prop := v = none ∧ (∀ y ∈ L, y.base = x) ∧ RoadKit.Keep h h' [x] ∧ h'.size = h.size + 1 ∧ RoadKit.Exa Z h' x ST ∧ RoadKit.Fld Z h' x ST "value" "[B" (.ref h.size) ∧ RoadKit.Fld Z h' x ST "coder" "B" (.int 0) ∧
  (∃ kb, Z.vm.findClass "[B" = some kb ∧ RoadKit.Arv Z h' h.size kb .byte zn (cs.map fun c => .int (lo8 c)) (.int 0)) ∧
  ∀ (O n d : String) (w : Value), RoadKit.Fld Z h x O n d w → RoadKit.slotOf Z O n d ≠ RoadKit.slotOf Z ST "value" "[B" → RoadKit.slotOf Z O n d ≠ RoadKit.slotOf Z ST "coder" "B" → RoadKit.Fld Z h' x O n d w
/-- **new String(chars) AT A CALL, THE ARRAYS AS LISTS**: the char[] at b holds cs, not empty, no char above 255 -/
theorem backArv {p : Program} {l : Launch} {e : Env} {R : Room} {s : State} {args : Array Value} {below : List Frame} {len W : Nat} {Z : State} {a0 : Array Value} {h : Heap} (hZ : Z.Warmed39 s.vm) (hw : ∀ d ∈ words, d.before a0 Z = true) {kI : Nat} (wi : (Jvm.Cond.instantiable ST kI).before a0 Z = true)
    {x b : Addr} {k : ClassId} {zn z : Int32} {cs : List Int32} {dv v0 c0 : Value} (E : RoadKit.Exa Z h x ST) (V : RoadKit.Fld Z h x ST "value" "[B" v0) (C : RoadKit.Fld Z h x ST "coder" "B" c0) (K : RoadKit.Arv Z h b k .char zn (cs.map Value.int) dv) (S : RoadKit.Sta Z h ST "COMPACT_STRINGS" "Z" (.int z)) (hz : ¬ z = 0)
    (hlen : zn.toNatClampNeg = cs.length) (h0 : 0 < cs.length) (hbig : cs.length ≤ 536870912) (hall : ∀ c ∈ cs, ¬ 255 < c) (hfr : 4 ≤ R.frames) (hlo : W + 65 ≤ R.locals) :
    Back l R p e below s args New1.yN len W (fun P a => a = #[.ref x, .ref b] ∧ P.U.heap = h ∧ P.cells + 1 ≤ R.cells ∧ P.slots + cs.length ≤ R.slots)
      (fun P _ v B => ∃ L, QA Z x zn cs h v B.U.heap L ∧ B.locs = P.locs ++ L ∧ B.cells = P.cells + 1 ∧ B.slots = P.slots + cs.length) := by
  obtain ⟨A, K1, K2, K3, K4, K5, K6⟩ := K
  have e : A.slots.size = cs.length := K3.trans hlen
  have hat : ∀ (i : Nat) (hi : i < cs.length), A.slots[i]? = some (.int cs[i]) := fun i hi => by rw [K5 i (by omega)]; simp [List.getD_eq_getElem?_getD, hi]
  have hcv : ∀ (i : Nat) (hi : i < cs.length), cv A i = cs[i] := fun i hi => by unfold cv; rw [hat i hi]
  have hty : Typed .char A := fun i v hv => by
    have hi : i < A.slots.size := (Array.getElem?_eq_some_iff.mp hv).1
    have q := K5 i hi
    rw [hv] at q
    rw [Option.some.inj q]
    exact K6 i hi
  refine Back.mono (back hZ hw wi E V C K1 hty S hz (by omega) (by omega) (fun i hi => by rw [hcv i (by omega)]; exact hall _ (List.getElem_mem _)) hfr hlo) (fun P a hp => ⟨hp.1, hp.2.1, hp.2.2.1, by rw [e]; exact hp.2.2.2⟩) (fun P a v B hp hq => ?_)
  obtain ⟨L, ⟨q1, q2, q3, q4, q5, q6, q7, ⟨V', v1, v2, v3, v4, v5⟩, q9⟩, hl, hc, hs⟩ := hq
  refine ⟨L, ⟨q1, q2, q3, q4, q5, q6, q7, ⟨V'.cls, v3, V', v1, rfl, by rw [v4, e, hlen], K4, fun i hi => ?_, fun i hi => ?_⟩, q9⟩, hl, hc, by rw [hs, e]⟩
  · have hi' : i < cs.length := by omega
    rw [v5 i (by omega), hcv i hi']; simp [List.getD_eq_getElem?_getD, hi']
  · have hi' : i < cs.length := by omega
    simp only [List.getD_eq_getElem?_getD, List.getElem?_map, List.getElem?_eq_getElem hi', Option.map_some, Option.getD_some]
    exact fits_lo8 _
end StrChars.Road
namespace StrChars.Road
open Jvm Sem ClassFile Op Lib Jvm.Stand Jvm.Free Jvm.Free.XT
/-- WHAT COMES BACK, in the writer's own shape -/
def QV (Z : State) (x : Addr) (N : Int32) (bs : List Int32) (h : Heap) (n0 : Nat) (v : Option Value) (h' : Heap) (L : List Loc) : Prop := v = none ∧ RoadKit.Fr n0 L ∧ RoadKit.Keep h h' [x] ∧ RoadKit.Exa Z h' x ST ∧ RoadKit.Fld Z h' x ST "coder" "B" (.int 0) ∧
  ∃ (t : Addr) (kb : ClassId), n0 ≤ t ∧ h.size ≤ t ∧ ¬ t = x ∧ RoadKit.Fld Z h' x ST "value" "[B" (.ref t) ∧ RoadKit.Arv Z h' t kb .byte N (bs.map Value.int) (.int 0)
/-- **new String(chars) AT A CALL, FOR THE WRITER**: a char[] of n known ints, each 0 to 255 -/
theorem backV {p : Program} {l : Launch} {e : Env} {R : Room} {s : State} {args : Array Value} {below : List Frame} {len W : Nat} {Z : State} {a0 : Array Value} {h : Heap} (hZ : Z.Warmed39 s.vm) (hw : ∀ d ∈ words, d.before a0 Z = true) {kI : Nat} (wi : (Jvm.Cond.instantiable ST kI).before a0 Z = true)
    {x b : Addr} {kC : ClassId} {cs bs : List Int32} {d v0 c0 : Value} {z N : Int32} {n n0 : Nat} (hx0 : n0 ≤ x) (hh0 : n0 ≤ h.size) (E : RoadKit.Exa Z h x ST) (V : RoadKit.Fld Z h x ST "value" "[B" v0) (C : RoadKit.Fld Z h x ST "coder" "B" c0) (K : RoadKit.Arv Z h b kC .char N (cs.map Value.int) d) (S : RoadKit.Sta Z h ST "COMPACT_STRINGS" "Z" (.int z)) (hz : ¬ z = 0)
    (hn : cs.length = n) (hN : N = Int32.ofNat n) (l0 : 0 < n) (l2 : n ≤ 4000) (hp : ∀ c ∈ cs, ¬ c < 0 ∧ ¬ (255 : Int32) < c) (hb : bs = cs.map (fun c => c.toInt8.toInt32)) (hfr : 4 ≤ R.frames) (hlo : W + 65 ≤ R.locals) :
    Back l R p e below s args (⟨"java/lang/String", "<init>", "([C)V"⟩ : MethodName) len W (fun P a => a = #[.ref x, .ref b] ∧ P.U.heap = h ∧ P.cells + 1 ≤ R.cells ∧ P.slots + n ≤ R.slots)
      (fun P _ v B => ∃ L, QV Z x N bs h n0 v B.U.heap L ∧ B.locs = P.locs ++ L ∧ B.cells = P.cells + 1 ∧ B.slots = P.slots + n) := by
  subst hn hN hb
  refine Back.mono (backArv hZ hw wi E V C K S hz (n32 (by omega)) l0 (by omega) (fun c hc => (hp c hc).2) hfr hlo) (fun P a hp => hp) (fun P a v B hp hq => ?_)
  obtain ⟨L, ⟨q1, q2, q3, q4, q5, q6, q7, ⟨kb, v1, v2⟩, q9⟩, hl, hc, hs⟩ := hq
  exact ⟨L, ⟨q1, fun y hy => by rw [q2 y hy]; exact hx0, q3, q5, q7, h.size, kb, hh0, Nat.le_refl _, Nat.ne_of_gt E.lt, q6, by rw [List.map_map]; exact v2⟩, hl, hc, hs⟩
end StrChars.Road
namespace StrChars
open Jvm Sem ClassFile Op Lib Jvm.Stand Jvm.Free.XT Jvm.Free.ALB Jvm.Free.JM Jvm.Free
open Jvm.Lib.Cold (StaticIs)
def hi8 (x : Int32) : Int32 := lo8 (x >>> ((8 : Int32) &&& 31))
/-- what StringUTF16.getChar makes of two bytes -/
def pairCh (u v : Int32) : Int32 := (((u &&& 255) <<< ((0 : Int32) &&& 31)) ||| ((v &&& 255) <<< ((8 : Int32) &&& 31))).toUInt32.toUInt16.toUInt32.toInt32
theorem lo8_and (x : Int32) : (lo8 x &&& 255).toBitVec.toNat = x.toBitVec.toNat % 256 := by
  have h : (lo8 x).toBitVec = (x.toBitVec.signExtend 8).signExtend 32 := by rw [lo8, Int8.toBitVec_toInt32, Int32.toBitVec_toInt8]
  rw [Int32.toBitVec_and, BitVec.toNat_and, h]
  have e : ((x.toBitVec.signExtend 8).signExtend 32).toNat % 256 = x.toBitVec.toNat % 256 := by
    rw [BitVec.toNat_signExtend]
    have hlt := x.toBitVec.isLt
    simp only [BitVec.toNat_setWidth, BitVec.toNat_signExtend]
    split <;> split <;> omega
  rw [← e]
  exact Nat.and_two_pow_sub_one_eq_mod _ 8
theorem pair_says {c : Int32} (h0 : ¬ c < 0) (h1 : ¬ 65535 < c) : pairCh (lo8 c) (hi8 c) = c := by
  rw [Int32.lt_iff_toInt_lt] at h0 h1
  have e0 : (0 : Int32).toInt = 0 := rfl
  have e1 : (65535 : Int32).toInt = 65535 := rfl
  have hc : c.toInt = c.toBitVec.toNat := by
    have := c.toBitVec.isLt
    have e : c.toInt = c.toBitVec.toInt := rfl
    rw [e] at h0 h1
    rw [e]
    rw [BitVec.toInt_eq_toNat_cond] at h0 h1 ⊢
    split at h0 <;> split <;> omega
  have hn : c.toBitVec.toNat < 65536 := by omega
  have a1 := lo8_and c
  have a2 : (hi8 c &&& 255).toBitVec.toNat = c.toBitVec.toNat / 256 := by
    rw [hi8, lo8_and]
    have e : ((8 : Int32) &&& 31) = 8 := by decide
    rw [e, Int32.toBitVec_shiftRight]
    have e2 : ((8 : Int32).toBitVec.smod 32) = 8#32 := by decide
    rw [e2, BitVec.sshiftRight_eq', BitVec.toNat_sshiftRight_of_msb_false (by rw [BitVec.msb_eq_false_iff_two_mul_lt]; omega)]
    show c.toBitVec.toNat >>> 8 % 256 = _
    rw [Nat.shiftRight_eq_div_pow]
    omega
  unfold pairCh
  apply Int32.toBitVec_inj.mp
  apply BitVec.eq_of_toNat_eq
  have f0 : ((0 : Int32) &&& 31) = 0 := by decide
  have f8 : ((8 : Int32) &&& 31) = 8 := by decide
  rw [f0, f8]
  have g : (((lo8 c &&& 255) <<< (0 : Int32)) ||| ((hi8 c &&& 255) <<< (8 : Int32))).toBitVec.toNat = c.toBitVec.toNat := by
    rw [Int32.toBitVec_or, Int32.toBitVec_shiftLeft, Int32.toBitVec_shiftLeft]
    have s0 : ((0 : Int32).toBitVec.smod 32) = 0#32 := by decide
    have s8 : ((8 : Int32).toBitVec.smod 32) = 8#32 := by decide
    rw [s0, s8, BitVec.toNat_or]
    simp only [BitVec.shiftLeft_eq', BitVec.toNat_shiftLeft, a1, a2]
    show (c.toBitVec.toNat % 256) <<< 0 % 2 ^ 32 ||| (c.toBitVec.toNat / 256) <<< 8 % 2 ^ 32 = _
    rw [Nat.shiftLeft_zero, Nat.mod_eq_of_lt (show c.toBitVec.toNat % 256 < 2 ^ 32 by omega), Nat.mod_eq_of_lt (show (c.toBitVec.toNat / 256) <<< 8 < 2 ^ 32 by rw [Nat.shiftLeft_eq]; omega), Nat.or_comm, ← Nat.shiftLeft_add_eq_or_of_lt (by omega), Nat.shiftLeft_eq]
    omega
  show BitVec.toNat (((((lo8 c &&& 255) <<< (0 : Int32)) ||| ((hi8 c &&& 255) <<< (8 : Int32))).toBitVec.setWidth 16).setWidth 32) = _
  rw [BitVec.toNat_setWidth, BitVec.toNat_setWidth, g]
  omega
end StrChars
namespace StrChars
open Jvm Sem ClassFile Op Lib Jvm.Stand Jvm.Free.XT Jvm.Free.ALB Jvm.Free.JM Jvm.Free
open Jvm.Lib.Cold (StaticIs)
/-- charAt's cast of a byte read back -/
def chr8 (u : Int32) : Int32 := (u &&& 255).toUInt32.toUInt16.toUInt32.toInt32
theorem chr8_lo8 {c : Int32} (h0 : ¬ c < 0) (h1 : ¬ 255 < c) : chr8 (lo8 c) = c := by
  have t : ∀ k : Fin 256, (Int32.ofNat k.val).toUInt32.toUInt16.toUInt32.toInt32 = Int32.ofNat k.val := by decide +kernel
  unfold chr8
  rw [lo8_mask h0 h1]
  rw [Int32.lt_iff_toInt_lt] at h0 h1
  have e0 : (0 : Int32).toInt = 0 := rfl
  have e1 : (255 : Int32).toInt = 255 := rfl
  obtain ⟨k, hk⟩ : ∃ k : Nat, c.toInt = k := ⟨c.toInt.toNat, by omega⟩
  have hx : c = Int32.ofNat k := Int32.toInt_inj.mp (by rw [hk, Int32.toInt_ofNat_small (by omega)])
  rw [hx]
  exact t ⟨k, by omega⟩
theorem narrow_ch {c : Int32} (h0 : ¬ c < 0) (h1 : ¬ 65535 < c) : narrow .char (.int c) = .int c := by
  have q : narrow .char (.int (pairCh (lo8 c) (hi8 c))) = .int (pairCh (lo8 c) (hi8 c)) := narrow_c _
  rwa [pair_says h0 h1] at q
/-- the array's cell V codes the n chars f 0 .. f (n - 1) by the coder cd, as the JDK does: coder 1 just where some char is above 255 -/
def Cod (cd : Int32) (n : Nat) (f : Nat → Int32) (V : Cell) : Prop := (cd = 0 ∧ V.slots.size = n ∧ ∀ j, j < n → V.slots[j]? = some (.int (lo8 (f j))) ∧ ¬ 255 < f j) ∨ (cd = 1 ∧ V.slots.size = 2 * n ∧ (∀ j, j < n → V.slots[2 * j]? = some (.int (lo8 (f j))) ∧ V.slots[2 * j + 1]? = some (.int (hi8 (f j)))) ∧ ∃ j, j < n ∧ 255 < f j)
theorem Cod.cd {cd : Int32} {n : Nat} {f : Nat → Int32} {V : Cell} (h : Cod cd n f V) : cd = 0 ∨ cd = 1 := h.imp (fun q => q.1) fun q => q.1
/-- **x is a String of the n chars f 0 .. f (n - 1)**, Latin-1 or UTF-16; its array at t has the cell V -/
def Txt (x t : Addr) (V : Cell) (cd : Int32) (n : Nat) (f : Nat → Int32) (U : State) : Prop := Exact "java/lang/String" x U ∧ Has x "java/lang/String" "value" "[B" (.ref t) U ∧ Has x "java/lang/String" "coder" "B" (.int cd) U ∧ XT.Arr .byte t V U ∧ Cod cd n f V ∧ ∀ j, j < n → ¬ f j < 0 ∧ ¬ 65535 < f j
theorem Txt.mv {x t : Addr} {V : Cell} {cd : Int32} {n : Nat} {f : Nat → Int32} {U U' : State} (h : Txt x t V cd n f U) (hal : U.vm.Alike U'.vm) (hh : U'.heap = U.heap) : Txt x t V cd n f U' := ⟨h.1.mv hal hh, h.2.1.mv hal hh, h.2.2.1.mv hal hh, h.2.2.2.1.mv hal hh, h.2.2.2.2⟩
namespace IsL
def yN : MethodName := ⟨"java/lang/String", "isLatin1", "()Z"⟩
abbrev yB : ByteArray := jdk_42_method_154_code
theorem d0 : decode yB 0 = .ok (.getstatic 38, 3) := by decide +kernel
theorem d3 : decode yB 3 = .ok (.ifCond (.eq) 14, 3) := by decide +kernel
theorem d6 : decode yB 6 = .ok (.aload_n 0, 1) := by decide +kernel
theorem d7 : decode yB 7 = .ok (.getfield 15, 3) := by decide +kernel
theorem d10 : decode yB 10 = .ok (.ifCond (.ne) 7, 3) := by decide +kernel
theorem d13 : decode yB 13 = .ok (.iconst 1, 1) := by decide +kernel
theorem d14 : decode yB 14 = .ok (.goto 4, 3) := by decide +kernel
theorem d17 : decode yB 17 = .ok (.iconst 0, 1) := by decide +kernel
theorem d18 : decode yB 18 = .ok (.ireturn, 1) := by decide +kernel
def site : List Cond := [.fieldLink "java/lang/String" 38 "java/lang/String" "COMPACT_STRINGS" "Z", .fieldLink "java/lang/String" 15 "java/lang/String" "coder" "B"]
def tab : Cond := tabOf yN yB 1 (some .boolean) site
def P (x : Addr) (cd z : Int32) (args : Array Value) (s : State) : Prop := args = #[.ref x] ∧ Has x "java/lang/String" "coder" "B" (.int cd) s ∧ (cd = 0 ∨ cd = 1) ∧ StaticIs s "java/lang/String" "COMPACT_STRINGS" "Z" (.int z) ∧ ¬ z = 0
def E (cd : Int32) (r : Option Value) (s u : State) : Prop := XT.PureE (some (.int (1 - cd))) r s u
theorem law (l : Launch) (x : Addr) (cd z : Int32) : Law l yN 1 0 0 0 yB 1 (some .boolean) site (P x cd z) (E cd) [] 0 0 := by
  refine Law.of_walk (plainFor_of_name (by decide +kernel)) (by decide +kernel) (by decide +kernel) (by decide) (fun _ _ h => by rw [h.1]; rfl) (fun _ U U' hal hh h => ⟨h.1, h.2.1.mv hal hh, h.2.2.1, h.2.2.2.1.there hal hh, h.2.2.2.2⟩) (fun r U U' V V' h1 hal h2 h => XT.PureE.mv r U U' V V' h1 hal h2 h) ?_
  intro p e s m args below meth c s₁ X0 hexec hbytes hml hret hlk hnm hown hh0 W hP
  obtain ⟨rfl, hx, hc, s1, hz⟩ := hP
  have c1 : Steps p.tables e below (s₁.setTop (entryFrame m #[.ref x] 1)) (s₁.setTop (mkF m 0 #[.val (.ref x)] [])) := entry rfl
  obtain ⟨T2, X2, q2, st2⟩ := X0.sget hexec hown (wk W (.fieldLink "java/lang/String" 38 "java/lang/String" "COMPACT_STRINGS" "Z")) s1 (fun _ _ h => by rw [hh0]; exact h) (g := (mkF m 0 #[.val (.ref x)] [])) rfl (hb hbytes d0)
  have hh2 := q2.trans hh0
  have c3 : Steps p.tables e below (s₁.setTop (entryFrame m #[.ref x] 1)) (T2.setTop (mkF m 7 #[.val (.ref x)] [.ref x])) := (c1.trans (st2 _ (Steps.refl _))).trans (by
    refine XS.ifNo X2.here hexec rfl (hb hbytes d3) rfl (i0_eq_f hz) ?_
    refine XS.aloadN X2.here hexec rfl (hb hbytes d6) rfl rfl ?_
    exact Steps.refl _)
  obtain ⟨T4, X4, q4, st4⟩ := X2.hget hexec hown (wk W (.fieldLink "java/lang/String" 15 "java/lang/String" "coder" "B")) (hx.mv X2.warmed.alike hh2) (g := (mkF m 7 #[.val (.ref x)] [.ref x])) rfl (rest := []) rfl (hb hbytes d7)
  have c5 : Steps p.tables e below (s₁.setTop (entryFrame m #[.ref x] 1)) (T4.setTop (mkF m 10 #[.val (.ref x)] [.int cd])) := c3.trans (st4 _ (Steps.refl _))
  have c6 : Steps p.tables e below (s₁.setTop (entryFrame m #[.ref x] 1)) (T4.setTop (mkF m 18 #[.val (.ref x)] [.int (1 - cd)])) := by
    rcases hc with rfl | rfl
    · exact c5.trans (by
        refine XS.ifNo X4.here hexec rfl (hb hbytes d10) rfl (i0_ne_f rfl) ?_
        refine iconstV X4.here hexec rfl 1 (hb hbytes d13) (by decide) ?_
        refine XS.goto X4.here hexec rfl (pc0 := 14) rfl (hb hbytes d14) (by decide) rfl ?_
        exact Steps.refl _)
    · exact c5.trans (by
        refine XS.ifYes X4.here hexec rfl (pc0 := 10) rfl (hb hbytes d10) rfl (i0_ne_t (by decide)) (by decide) rfl ?_
        refine iconstV X4.here hexec rfl 0 (hb hbytes d17) (by decide) ?_
        exact Steps.refl _)
  exact ⟨T4, some (.int (1 - cd)), _, _, _, X4, rfl, rfl, rfl, (fun h => by cases h), ⟨rfl, q4.trans hh2⟩, fun fs hl => c6.trans (X4.ireturnOut hexec hret (by rcases hc with rfl | rfl <;> rfl) (Or.inr (Or.inl rfl)) (hb hbytes d18) hl)⟩
end IsL
namespace LChA
def yN : MethodName := ⟨"java/lang/StringLatin1", "charAt", "([BI)C"⟩
abbrev yB : ByteArray := jdk_43_method_2_code
theorem d0 : decode yB 0 = .ok (.iload_n 1, 1) := by decide +kernel
theorem d1 : decode yB 1 = .ok (.aload_n 0, 1) := by decide +kernel
theorem d2 : decode yB 2 = .ok (.arraylength, 1) := by decide +kernel
theorem d3 : decode yB 3 = .ok (.invokestatic 9, 3) := by decide +kernel
theorem d6 : decode yB 6 = .ok (.aload_n 0, 1) := by decide +kernel
theorem d7 : decode yB 7 = .ok (.iload_n 1, 1) := by decide +kernel
theorem d8 : decode yB 8 = .ok (.baload, 1) := by decide +kernel
theorem d9 : decode yB 9 = .ok (.sipush 255, 3) := by decide +kernel
theorem d12 : decode yB 12 = .ok (.iand, 1) := by decide +kernel
theorem d13 : decode yB 13 = .ok (.i2c, 1) := by decide +kernel
theorem d14 : decode yB 14 = .ok (.ireturn, 1) := by decide +kernel
def site : List Cond := [JO.Str_checkIndex.tab] ++ staticW "java/lang/StringLatin1" 9 JO.Str_checkIndex.yN
def tab : Cond := tabOf yN yB 2 (some .char) site
def P (t : Addr) (V : Cell) (i : Nat) (u : Int32) (fm : Value) (args : Array Value) (s : State) : Prop := args = #[.ref t, .int (Int32.ofNat i)] ∧ XT.Arr .byte t V s ∧ V.slots[i]? = some (.int u) ∧ (StaticIs s "jdk/internal/util/Preconditions" "SIOOBE_FORMATTER" "Ljava/util/function/BiFunction;" fm ∧ fm.isRef = true)
def E (u : Int32) (r : Option Value) (s w : State) : Prop := XT.PureE (some (.int (chr8 u))) r s w
theorem law (l : Launch) (t : Addr) (V : Cell) (i : Nat) (u : Int32) (fm : Value) : Law l yN 2 2 2 27 yB 2 (some .char) site (P t V i u fm) (E u) [] 0 0 := by
  refine Law.of_walk (plainFor_of_name (by decide +kernel)) (by decide +kernel) (by decide +kernel) (by decide) (fun _ _ h => by rw [h.1]; rfl) (fun _ U U' hal hh h => ⟨h.1, h.2.1.mv hal hh, h.2.2.1, h.2.2.2.1.there hal hh, h.2.2.2.2⟩) (fun r U U' V V' h1 hal h2 h => XT.PureE.mv r U U' V V' h1 hal h2 h) ?_
  intro p e s m args below meth c s₁ X0 hexec hbytes hml hret hlk hnm hown hh0 W hP
  obtain ⟨rfl, hV, hu, s1, rf⟩ := hP
  have v31 := hV.2.2.2
  have hi : i < V.slots.size := (Array.getElem?_eq_some_iff.mp hu).1
  have c1 : Steps p.tables e below (s₁.setTop (entryFrame m #[.ref t, .int (Int32.ofNat i)] 2)) (s₁.setTop (mkF m 0 #[.val (.ref t), .val (.int (Int32.ofNat i))] [])) := entry rfl
  have c2 : Steps p.tables e below (s₁.setTop (entryFrame m #[.ref t, .int (Int32.ofNat i)] 2)) (s₁.setTop (mkF m 3 #[.val (.ref t), .val (.int (Int32.ofNat i))] [.int (Int32.ofNat V.slots.size), .int (Int32.ofNat i)])) := c1.trans (by
    refine XS.iloadN X0.here hexec rfl (hb hbytes d0) rfl ?_
    refine XS.aloadN X0.here hexec rfl (hb hbytes d1) rfl rfl ?_
    refine X0.alen hexec (hV.mv X0.warmed.alike hh0) rfl rfl (hb hbytes d2) ?_
    exact Steps.refl _)
  obtain ⟨v3, T3, X3, E3, g3⟩ := X0.callS hexec (JO.Str_checkIndex.law l (Int32.ofNat i) (Int32.ofNat V.slots.size) fm) hown (wks W (staticW "java/lang/StringLatin1" 9 JO.Str_checkIndex.yN)) (wk W JO.Str_checkIndex.tab) (W := 0) (Nat.le_of_ble_eq_true rfl) (Nat.le_of_ble_eq_true rfl) (Nat.le_refl _) (Nat.le_refl _) (g := (mkF m 3 #[.val (.ref t), .val (.int (Int32.ofNat i))] [.int (Int32.ofNat V.slots.size), .int (Int32.ofNat i)])) rfl (by rw [hml]; rfl) c2 (argsL := [.int (Int32.ofNat i), .int (Int32.ofNat V.slots.size)]) (rest := []) rfl rfl (by show 2 * 0 + 0 ≤ _; decide) (hb hbytes d3) (⟨rfl, rf, s1.there X0.warmed.alike hh0, Int32.ofNat_not_neg (by omega), lt32 v31 hi⟩)
  obtain ⟨rfl, q3⟩ := E3
  have hh3 := q3.trans hh0
  have c4 : Steps p.tables e below (s₁.setTop (entryFrame m #[.ref t, .int (Int32.ofNat i)] 2)) (T3.setTop (mkF m 14 #[.val (.ref t), .val (.int (Int32.ofNat i))] [.int (chr8 u)])) := Steps.trans g3 (by
    refine XS.aloadN X3.here hexec rfl (hb hbytes d6) rfl rfl ?_
    refine XS.iloadN X3.here hexec rfl (hb hbytes d7) rfl ?_
    refine X3.aget hexec (hV.mv X3.warmed.alike hh3) rfl hu rfl rfl (hb hbytes d8) ?_
    refine sipushV X3.here hexec rfl 255 (hb hbytes d9) (by decide) ?_
    refine XS.iand X3.here hexec rfl (hb hbytes d12) rfl ?_
    refine i2c X3.here hexec rfl (hb hbytes d13) rfl ?_
    exact Steps.refl _)
  exact ⟨T3, some (.int (chr8 u)), _, _, _, X3, rfl, rfl, rfl, (fun h => by cases h), ⟨rfl, hh3⟩, fun fs hl => c4.trans (X3.ireturnOut hexec hret (narrow_c _) (Or.inr (Or.inr (Or.inr (Or.inl rfl)))) (hb hbytes d14) hl)⟩
end LChA
end StrChars
namespace StrChars.Road
open Jvm Sem ClassFile Op Lib Jvm.Stand Jvm.Free Jvm.Free.XT
open Jvm.Lib.Cold (StaticIs)
theorem consq {a : Array Value} {s : State} {c : Jvm.Cond} {L : List Jvm.Cond} (h0 : c.before a s = true) (h : ∀ w ∈ L, w.before a s = true) : ∀ w ∈ c :: L, w.before a s = true := fun w hw => (List.mem_cons.mp hw).elim (fun e => e ▸ h0) (h w)
/-- the bytes of the chars cs, low before high -/
def wideBytes : List Int32 → List Value
  | [] => []
  | c :: cs => .int (lo8 c) :: .int (hi8 c) :: wideBytes cs
theorem wide_lo (d : Value) : ∀ (cs : List Int32) (j : Nat), j < cs.length → (wideBytes cs).getD (2 * j) d = .int (lo8 (cs.getD j 0))
  | [], j, h => absurd h (Nat.not_lt_zero j)
  | c :: cs, 0, _ => rfl
  | c :: cs, j + 1, h => by
    have q := wide_lo d cs j (by simpa using h)
    rw [show 2 * (j + 1) = 2 * j + 1 + 1 from by omega]
    simpa [wideBytes] using q
theorem wide_hi (d : Value) : ∀ (cs : List Int32) (j : Nat), j < cs.length → (wideBytes cs).getD (2 * j + 1) d = .int (hi8 (cs.getD j 0))
  | [], j, h => absurd h (Nat.not_lt_zero j)
  | c :: cs, 0, _ => rfl
  | c :: cs, j + 1, h => by
    have q := wide_hi d cs j (by simpa using h)
    rw [show 2 * (j + 1) + 1 = 2 * j + 1 + 1 + 1 from by omega]
    simpa [wideBytes] using q
theorem low_at (d : Value) (cs : List Int32) (j : Nat) (h : j < cs.length) : (cs.map fun c => Value.int (lo8 c)).getD j d = .int (lo8 (cs.getD j 0)) := by
  simp [List.getD_eq_getElem?_getD, h]
/-- an array of N2 bytes vs codes the chars cs by the coder cd -/
def CodA (cs : List Int32) (cd N2 : Int32) (vs : List Value) : Prop := (cd = 0 ∧ N2 = Int32.ofNat cs.length ∧ vs = (cs.map fun c => Value.int (lo8 c)) ∧ ∀ c ∈ cs, ¬ 255 < c) ∨ (cd = 1 ∧ N2 = Int32.ofNat (2 * cs.length) ∧ vs = wideBytes cs ∧ ∃ c ∈ cs, 255 < c)
theorem CodA.cod {cs : List Int32} {cd N2 : Int32} {vs : List Value} {V : Cell} (h : CodA cs cd N2 vs) (hn : 2 * cs.length < 2 ^ 31) (hs : V.slots.size = N2.toNatClampNeg) (hv : RoadKit.Has V vs (.int 0)) : Cod cd cs.length (fun j => cs.getD j 0) V := by
  rcases h with ⟨rfl, rfl, rfl, h⟩ | ⟨rfl, rfl, rfl, c, hc, hw⟩
  · rw [n32 (by omega)] at hs
    exact Or.inl ⟨rfl, hs, fun j hj => ⟨by rw [hv j (by omega), low_at _ _ _ hj], by
      have e : cs.getD j 0 = cs[j] := by simp [List.getD_eq_getElem?_getD, hj]
      show ¬ 255 < cs.getD j 0
      rw [e]; exact h _ (List.getElem_mem _)⟩⟩
  · rw [n32 (by omega)] at hs
    obtain ⟨j, hj, rfl⟩ := List.getElem_of_mem hc
    exact Or.inr ⟨rfl, hs, fun j hj => ⟨by rw [hv _ (by omega), wide_lo _ _ _ hj], by rw [hv _ (by omega), wide_hi _ _ _ hj]⟩, j, hj, by
      have e : cs.getD j 0 = cs[j] := by simp [List.getD_eq_getElem?_getD, hj]
      show 255 < cs.getD j 0
      rw [e]; exact hw⟩
/-- an object of exactly java/lang/String, its two fields found: as the laws ask it -/
theorem strObj {Z U : State} {a0 : Array Value} {kI : Nat} (wi : (Jvm.Cond.instantiable ST kI).before a0 Z = true) (al : Z.vm.Alike U.vm) {x : Addr} {v0 c0 : Value} (E : RoadKit.Exa Z U.heap x ST) (V : RoadKit.Fld Z U.heap x ST "value" "[B" v0) (C : RoadKit.Fld Z U.heap x ST "coder" "B" c0) :
    ∃ (D : Cell) (fV fC : Field), Blank ST x D U ∧ Found ST "value" "[B" fV U ∧ Found ST "coder" "B" fC U ∧ D.slots[fV.slot]? = some v0 ∧ D.slots[fC.slot]? = some c0 ∧ RoadKit.slotOf Z ST "value" "[B" = fV.slot ∧ RoadKit.slotOf Z ST "coder" "B" = fC.slot := by
  obtain ⟨D, cfV, kV, iV, fV, hD, gV, stV, knV, obV, asV, slV⟩ := V
  obtain ⟨D', cfC, kC, iC, fC, hD', gC, stC, -, -, asC, slC⟩ := C
  cases hD.symm.trans hD'
  obtain ⟨D2, kD, e1, e2, e3, e4, e5⟩ := E
  cases hD.symm.trans e1
  obtain ⟨c2, k2, i1, i2, i3, -⟩ := Cond.instantiable_spec wi
  cases e2.symm.trans i1
  cases e3.symm.trans i2
  obtain ⟨kU, u1, u2⟩ := al.2.2 _ _ e3
  exact ⟨D, fV, fC, ⟨hD, ⟨knV, fun q hq => by rw [hq] at obV; cases obV⟩, by rw [al.findClass]; exact e2, kU, u1, by rw [u2]; exact i3, by rw [u2]; exact e5 i3⟩, ⟨SBG.found_only al ⟨cfV, kV, iV, gV⟩, stV⟩, ⟨SBG.found_only al ⟨cfC, kC, iC, gC⟩, stC⟩, slV, slC, by simp [RoadKit.slotOf, gV], by simp [RoadKit.slotOf, gC]⟩
theorem sta_is {Z U : State} (al : Z.vm.Alike U.vm) {C n d : String} {v : Value} (S : RoadKit.Sta Z U.heap C n d v) : StaticIs U C n d v := by
  obtain ⟨cfS, iS, kS, fS, st, cS, t1, t2, t3, t4, t5, t6, t7⟩ := S
  exact StaticIs.there (s := { Z with heap := U.heap }) ⟨cfS, iS, kS, fS, st, cS, t1, t2, t3, t4, t5, (fun q => by rw [q] at t6; cases t6), t7⟩ al rfl
end StrChars.Road
namespace StrChars.Road
open Jvm Sem ClassFile Op Lib Jvm.Stand Jvm.Free Jvm.Free.XT
open Jvm.Lib.Cold (StaticIs)
/-- the road's facts of a String, as the laws ask it -/
theorem txt_of {Z U : State} {a0 : Array Value} {kI : Nat} (wi : (Jvm.Cond.instantiable ST kI).before a0 Z = true) (al : Z.vm.Alike U.vm) {x t : Addr} {kb : ClassId} {cs : List Int32} {cd N2 : Int32} {vs : List Value} (E : RoadKit.Exa Z U.heap x ST) (V : RoadKit.Fld Z U.heap x ST "value" "[B" (.ref t)) (C : RoadKit.Fld Z U.heap x ST "coder" "B" (.int cd)) (K : RoadKit.Arv Z U.heap t kb .byte N2 vs (.int 0)) (hc : CodA cs cd N2 vs) (hb : ∀ c ∈ cs, ¬ c < 0 ∧ ¬ (65535 : Int32) < c) (l2 : cs.length ≤ 4000) :
    ∃ A, Txt x t A cd cs.length (fun j => cs.getD j 0) U := by
  obtain ⟨A, K1, K2, K3, K4, K5, K6⟩ := K
  have hcod := hc.cod (by omega) K3 K5
  obtain ⟨D, fV, fC, hB, F1, F2, g1, g2, -, -⟩ := strObj wi al E V C
  exact ⟨A, ⟨_, hB.2.2.1, D, hB.1, rfl, by cases q : D.vm <;> first | rfl | exact absurd q (hB.2.1.2 _)⟩, Has.of hB F1 g1, Has.of hB F2 g2, ⟨K1.1, State.isArrayOf_alike al K1.2.1, K1.2.2, by rcases hcod with ⟨-, q, -⟩ | ⟨-, q, -⟩ <;> omega⟩, hcod, fun j hj => by
    have e : cs.getD j 0 = cs[j] := by simp [List.getD_eq_getElem?_getD, hj]
    show ¬ cs.getD j 0 < 0 ∧ ¬ 65535 < cs.getD j 0
    rw [e]; exact hb _ (List.getElem_mem _)⟩
end StrChars.Road
namespace StrChars
open Jvm Sem ClassFile Op Lib Jvm.Stand Jvm.Free.XT Jvm.Free.ALB Jvm.Free.JM Jvm.Free
open Jvm.Lib.Cold (StaticIs)
namespace ChN
def yN : MethodName := ⟨"java/lang/String", "charAt", "(I)C"⟩
abbrev yB : ByteArray := jdk_42_method_56_code
theorem d0 : decode yB 0 = .ok (.aload_n 0, 1) := by decide +kernel
theorem d1 : decode yB 1 = .ok (.invokevirtual 492, 3) := by decide +kernel
theorem d4 : decode yB 4 = .ok (.ifCond (.eq) 12, 3) := by decide +kernel
theorem d7 : decode yB 7 = .ok (.aload_n 0, 1) := by decide +kernel
theorem d8 : decode yB 8 = .ok (.getfield 9, 3) := by decide +kernel
theorem d11 : decode yB 11 = .ok (.iload_n 1, 1) := by decide +kernel
theorem d12 : decode yB 12 = .ok (.invokestatic 495, 3) := by decide +kernel
theorem d15 : decode yB 15 = .ok (.ireturn, 1) := by decide +kernel
def site : List Cond := [.fieldLink "java/lang/String" 9 "java/lang/String" "value" "[B", IsL.tab, LChA.tab] ++ virtW "java/lang/String" 492 "java/lang/String" IsL.yN IsL.yN ++ staticW "java/lang/String" 495 LChA.yN
def tab : Cond := tabOf yN yB 2 (some .char) site
def P (x t : Addr) (V : Cell) (n : Nat) (f : Nat → Int32) (z : Int32) (fm : Value) (i : Nat) (args : Array Value) (s : State) : Prop := args = #[.ref x, .int (Int32.ofNat i)] ∧ Txt x t V 0 n f s ∧ i < n ∧ StaticIs s "java/lang/String" "COMPACT_STRINGS" "Z" (.int z) ∧ ¬ z = 0 ∧ StaticIs s "jdk/internal/util/Preconditions" "SIOOBE_FORMATTER" "Ljava/util/function/BiFunction;" fm ∧ fm.isRef = true
def E (f : Nat → Int32) (i : Nat) (r : Option Value) (s u : State) : Prop := XT.PureE (some (.int (f i))) r s u
/-- charAt(i) of a Latin-1 String of n chars, i < n: f i -/
theorem law (l : Launch) (x t : Addr) (V : Cell) (n : Nat) (f : Nat → Int32) (z : Int32) (fm : Value) (i : Nat) : Law l yN 2 1 3 40 yB 2 (some .char) site (P x t V n f z fm i) (E f i) [] 0 0 := by
  refine Law.of_walk (plainFor_of_name (by decide +kernel)) (by decide +kernel) (by decide +kernel) (by decide) (fun _ _ h => by rw [h.1]; rfl) (fun _ U U' hal hh h => ⟨h.1, h.2.1.mv hal hh, h.2.2.1, h.2.2.2.1.there hal hh, h.2.2.2.2.1, h.2.2.2.2.2.1.there hal hh, h.2.2.2.2.2.2⟩) (fun r U U' V V' h1 hal h2 h => XT.PureE.mv r U U' V V' h1 hal h2 h) ?_
  intro p e s m args below meth c s₁ X0 hexec hbytes hml hret hlk hnm hown hh0 W hP
  obtain ⟨rfl, hx, hi, s1, hz, s3, rf⟩ := hP
  have v31 := hx.2.2.2.1.2.2.2
  have hr := hx.2.2.2.2.2 i hi
  have hx0 := hx.mv X0.warmed.alike hh0
  have c1 : Steps p.tables e below (s₁.setTop (entryFrame m #[.ref x, .int (Int32.ofNat i)] 2)) (s₁.setTop (mkF m 1 #[.val (.ref x), .val (.int (Int32.ofNat i))] [.ref x])) := Steps.trans (entry rfl) (by
    show Steps p.tables e below (s₁.setTop (mkF m 0 #[.val (.ref x), .val (.int (Int32.ofNat i))] [])) _
    refine XS.aloadN X0.here hexec rfl (hb hbytes d0) rfl rfl ?_
    exact Steps.refl _)
  obtain ⟨v2, T2, X2, E2, g2⟩ := X0.callV hexec (IsL.law l x 0 z) hown (wks W (virtW "java/lang/String" 492 "java/lang/String" IsL.yN IsL.yN)) rfl (by decide) (wk W IsL.tab) (W := 0) (Nat.le_of_ble_eq_true rfl) (Nat.le_of_ble_eq_true rfl) (Nat.le_refl _) (Nat.le_refl _) (hx0.1.fc X0.warmed.alike) hx0.1.is (g := (mkF m 1 #[.val (.ref x), .val (.int (Int32.ofNat i))] [.ref x])) rfl (by rw [hml]; rfl) c1 (argsL := []) (rest := []) rfl rfl (by show 2 * 0 + 0 ≤ _; decide) (hb hbytes d1) (⟨rfl, hx0.2.2.1, hx.2.2.2.2.1.cd, s1.there X0.warmed.alike hh0, hz⟩)
  obtain ⟨rfl, q2⟩ := E2
  have hh2 := q2.trans hh0
  have hx2 := hx.mv X2.warmed.alike hh2
  obtain ⟨-, k1, k2⟩ | ⟨k0, -⟩ := hx.2.2.2.2.1
  · have c3 : Steps p.tables e below (s₁.setTop (entryFrame m #[.ref x, .int (Int32.ofNat i)] 2)) (T2.setTop (mkF m 8 #[.val (.ref x), .val (.int (Int32.ofNat i))] [.ref x])) := Steps.trans g2 (by
      refine XS.ifNo X2.here hexec rfl (hb hbytes d4) rfl (i0_eq_f (by decide)) ?_
      refine XS.aloadN X2.here hexec rfl (hb hbytes d7) rfl rfl ?_
      exact Steps.refl _)
    obtain ⟨T4, X4, q4, st4⟩ := X2.hget hexec hown (wk W (.fieldLink "java/lang/String" 9 "java/lang/String" "value" "[B")) hx2.2.1 (g := (mkF m 8 #[.val (.ref x), .val (.int (Int32.ofNat i))] [.ref x])) rfl (rest := []) rfl (hb hbytes d8)
    have hh4 := q4.trans hh2
    have c5 : Steps p.tables e below (s₁.setTop (entryFrame m #[.ref x, .int (Int32.ofNat i)] 2)) (T4.setTop (mkF m 12 #[.val (.ref x), .val (.int (Int32.ofNat i))] [.int (Int32.ofNat i), .ref t])) := (c3.trans (st4 _ (Steps.refl _))).trans (by
      refine XS.iloadN X4.here hexec rfl (hb hbytes d11) rfl ?_
      exact Steps.refl _)
    obtain ⟨v6, T6, X6, E6, g6⟩ := X4.callS hexec (LChA.law l t V i (lo8 (f i)) fm) hown (wks W (staticW "java/lang/String" 495 LChA.yN)) (wk W LChA.tab) (W := 0) (Nat.le_of_ble_eq_true rfl) (Nat.le_of_ble_eq_true rfl) (Nat.le_refl _) (Nat.le_refl _) (g := (mkF m 12 #[.val (.ref x), .val (.int (Int32.ofNat i))] [.int (Int32.ofNat i), .ref t])) rfl (by rw [hml]; rfl) c5 (argsL := [.ref t, .int (Int32.ofNat i)]) (rest := []) rfl rfl (by show 2 * 0 + 0 ≤ _; decide) (hb hbytes d12) (⟨rfl, hx.2.2.2.1.mv X4.warmed.alike hh4, (k2 i hi).1, s3.there X4.warmed.alike hh4, rf⟩)
    obtain ⟨rfl, q6⟩ := E6
    rw [chr8_lo8 hr.1 (k2 i hi).2] at g6
    exact ⟨T6, some (.int (f i)), _, _, _, X6, rfl, rfl, rfl, (fun h => by cases h), ⟨rfl, q6.trans hh4⟩, fun fs hl => Steps.trans g6 (X6.ireturnOut hexec hret (narrow_ch hr.1 hr.2) (Or.inr (Or.inr (Or.inr (Or.inl rfl)))) (hb hbytes d15) hl)⟩
  · exact absurd k0 (by decide)
theorem pays {l : Launch} {R : Room} {p : Program} {e : Env} {below : List Frame} {s : State} {sargs : Array Value} {len W : Nat} (x t : Addr) (V : Cell) (n : Nat) (f : Nat → Int32) (z : Int32) (fm : Value) (i : Nat) (htab : tab.before sargs s = true) (hfr : 4 ≤ R.frames) (hlo : W + 53 ≤ R.locals) :
    Back l R p e below s sargs yN len W (fun A₁ a₁ => A₁.cells + 0 ≤ R.cells ∧ A₁.slots + 0 ≤ R.slots ∧ P x t V n f z fm i a₁ A₁.U) (fun A₁ _ v₁ B₁ => E f i v₁ A₁.U B₁.U ∧ B₁.locs = A₁.locs ++ [] ∧ B₁.cells = A₁.cells + 0 ∧ B₁.slots = A₁.slots + 0) :=
  (law l x t V n f z fm i).pays htab hfr (by omega)
end ChN
end StrChars
namespace StrChars.Road
open Jvm Sem ClassFile Op Lib Jvm.Stand Jvm.Free Jvm.Free.XT
open Jvm.Lib.Cold (StaticIs)
/-- the words of String.charAt(int), the Latin-1 road alone -/
abbrev wordsChN : List Jvm.Cond := [.code ChN.yN ChN.yB 2 (some .char), .initialized ST, .fieldLink ST 9 ST "value" "[B", .fieldLink ST 38 ST "COMPACT_STRINGS" "Z", .fieldLink ST 15 ST "coder" "B", .code IsL.yN IsL.yB 1 (some .boolean), .methodLink ST 492 IsL.yN, .declares IsL.yN, .selects ST IsL.yN IsL.yN, .instanceMethod IsL.yN,
  .methodLink ST 495 LChA.yN, .static LChA.yN, .code LChA.yN LChA.yB 2 (some .char), .initialized "java/lang/StringLatin1", .methodLink "java/lang/StringLatin1" 9 JO.Str_checkIndex.yN, .static JO.Str_checkIndex.yN, .code JO.Str_checkIndex.yN JO.Str_checkIndex.yB 2 none,
  .fieldLink ST 1053 "jdk/internal/util/Preconditions" "SIOOBE_FORMATTER" "Ljava/util/function/BiFunction;", .methodLink ST 1059 JC.PreCheck.yN, .static JC.PreCheck.yN, .code JC.PreCheck.yN JC.PreCheck.yB 3 (some .int), .initialized "jdk/internal/util/Preconditions"]
theorem tabChN_of {a : Array Value} {s : State} (h : ∀ w ∈ wordsChN, w.before a s = true) : ChN.tab.before a s = true := by
  have hp : JC.PreCheck.tab.before a s = true := unparts (wk h (.code JC.PreCheck.yN JC.PreCheck.yB 3 (some .int))) (wks h (.initialized JC.PreCheck.yN.cls :: JC.PreCheck.site))
  have qk := consq hp h
  have hk : JO.Str_checkIndex.tab.before a s = true := unparts (wk qk (.code JO.Str_checkIndex.yN JO.Str_checkIndex.yB 2 none)) (wks qk (.initialized JO.Str_checkIndex.yN.cls :: JO.Str_checkIndex.site))
  have ql := consq hk h
  have hl : LChA.tab.before a s = true := unparts (wk ql (.code LChA.yN LChA.yB 2 (some .char))) (wks ql (.initialized LChA.yN.cls :: LChA.site))
  have hi : IsL.tab.before a s = true := unparts (wk h (.code IsL.yN IsL.yB 1 (some .boolean))) (wks h (.initialized IsL.yN.cls :: IsL.site))
  have q := consq hi (consq hl h)
  exact unparts (wk q (.code ChN.yN ChN.yB 2 (some .char))) (wks q (.initialized ChN.yN.cls :: ChN.site))
theorem movedChN {Z s : State} {a0 args : Array Value} (hZ : Z.Warmed39 s.vm) (hw : ∀ d ∈ wordsChN, d.before a0 Z = true) : ∀ d ∈ wordsChN, d.before args s = true := fun d hd => by
  have t : ∀ d ∈ wordsChN, (d.onTables && d.keepsFace) = true := by decide +kernel
  exact RoadKit.mv hZ (hw d hd) (t d hd)
/-- **charAt(i) OF A LATIN-1 STRING**, i < n: the char -/
theorem chN {p : Program} {l : Launch} {e : Env} {R : Room} {s : State} {args : Array Value} {below : List Frame} {len W : Nat} {Z : State} {a0 : Array Value} {h : Heap} (hZ : Z.Warmed39 s.vm) (hw : ∀ d ∈ wordsChN, d.before a0 Z = true) {kI : Nat} (wi : (Jvm.Cond.instantiable ST kI).before a0 Z = true)
    {x t : Addr} {kb : ClassId} {cs : List Int32} {N2 z : Int32} {vs : List Value} {fm : Value} {i : Nat} {j : Int32} (E : RoadKit.Exa Z h x ST) (V : RoadKit.Fld Z h x ST "value" "[B" (.ref t)) (C : RoadKit.Fld Z h x ST "coder" "B" (.int 0)) (K : RoadKit.Arv Z h t kb .byte N2 vs (.int 0)) (hc : CodA cs 0 N2 vs) (hb : ∀ c ∈ cs, ¬ c < 0 ∧ ¬ (65535 : Int32) < c)
    (S : RoadKit.Sta Z h ST "COMPACT_STRINGS" "Z" (.int z)) (hz : ¬ z = 0) (F : RoadKit.Sta Z h "jdk/internal/util/Preconditions" "SIOOBE_FORMATTER" "Ljava/util/function/BiFunction;" fm) (rf : fm.isRef = true) (l2 : cs.length ≤ 4000) (hi : i < cs.length) (hj : j = Int32.ofNat i) (hfr : 4 ≤ R.frames) (hlo : W + 53 ≤ R.locals) :
    Back l R p e below s args (⟨"java/lang/String", "charAt", "(I)C"⟩ : MethodName) len W (fun P a => a = #[.ref x, .int j] ∧ P.U.heap = h ∧ P.cells + 0 ≤ R.cells ∧ P.slots + 0 ≤ R.slots)
      (fun P _ v B => ∃ L, (v = some (.int (cs.getD i 0)) ∧ L = [] ∧ B.U.heap = h) ∧ B.locs = P.locs ++ L ∧ B.cells = P.cells + 0 ∧ B.slots = P.slots + 0) := by
  subst hj
  intro m meth c P g ig mk a X hg hsize hdg hW hn hp'
  obtain ⟨rfl, rfl, r1, r2⟩ := hp'
  have al : Z.vm.Alike P.U.vm := hZ.alike.trans X.warmed.alike
  obtain ⟨A, hx⟩ := txt_of wi al E V C K hc hb l2
  obtain ⟨v, B, X', ⟨⟨hv, hh⟩, hl, hk, hs⟩, st⟩ := ChN.pays x t A cs.length (fun j => cs.getD j 0) z fm i (tabChN_of (movedChN hZ hw)) hfr hlo m meth c P g ig mk _ X hg hsize hdg hW hn ⟨r1, r2, rfl, hx, hi, sta_is al S, hz, sta_is al F, rf⟩
  exact ⟨v, B, X', ⟨[], ⟨hv, rfl, hh⟩, hl, hk, hs⟩, st⟩
/-- what backV says of its String, as the contracts of this text ask it: cs's low bytes, coder 0 -/
theorem codOf {cs : List Int32} {n : Nat} (hn : cs.length = n) (hb : ∀ c ∈ cs, ¬ 255 < c) : CodA cs 0 (Int32.ofNat n) ((cs.map lo8).map Value.int) := Or.inl ⟨rfl, by rw [hn], by simp [List.map_map, Function.comp_def], hb⟩
end StrChars.Road
end Jvm.Pilot.@@N@@
namespace Jvm.Pilot.@@N@@
open Jvm Jvm.ClassFile Sem Op Lib Jvm.Free Jvm.Stand Jvm.LawKit Jvm.RoadKit Bundle Jvm.Pilot.@@N@@.Jvm.D
namespace Wk
open Jvm Jvm.ClassFile Sem Op Lib Jvm.Free Jvm.Stand Jvm.LawKit Jvm.RoadKit
/-- the fixed part of a walk: program, environment, the state at the invocation, the method, its arguments, the frames below, the method's record, its code -/
abbrev Wd : Type := Program × Env × State × MethodId × Array Value × List Frame × Method × Code
abbrev Wd.p (W : Wd) : Program := W.1
abbrev Wd.e (W : Wd) : Env := W.2.1
abbrev Wd.s (W : Wd) : State := W.2.2.1
abbrev Wd.m (W : Wd) : MethodId := W.2.2.2.1
abbrev Wd.a (W : Wd) : Array Value := W.2.2.2.2.1
abbrev Wd.b (W : Wd) : List Frame := W.2.2.2.2.2.1
abbrev Wd.t (W : Wd) : Method := W.2.2.2.2.2.2.1
abbrev Wd.c (W : Wd) : Code := W.2.2.2.2.2.2.2
abbrev Post : Type := Option Value → Heap → Prop
def Go (R : Room) (Z : State) (W : Wd) (Q : Post) (A : State) : Prop :=
  ∃ s₂ o, Steps W.p.tables W.e W.b A s₂ ∧ s₂.status = .running ∧ Ended s₂ W.b o ∧ ∃ v L, o = .returned v ∧ (Q v s₂.heap ∧ Ext Z.heap s₂.heap ∧ Fr Z.heap.size L) ∧ FrameEnd W.s o s₂ L R.cells R.slots
abbrev Std (l : Launch) (R : Room) (W : Wd) (T : State) (locs : List Loc) (k n : Nat) : Prop := Stand W.p l W.e R W.s W.m W.a W.b W.t W.c T locs k n
def Run (l : Launch) (R : Room) (Z : State) (W : Wd) (Q : Post) (h : Heap) (k n : Nat) (f : JFrame) : Prop :=
  ∀ T locs, Std l R W T locs k n → T.heap = h → Fr Z.heap.size locs → Ext Z.heap h → Go R Z W Q (T.setTop f)
def Cx (Z : State) (W : Wd) (own nm : String) (code : ByteArray) (maxL : Nat) (ret : Option FieldType) : Prop :=
  W.p.tables.exec = Jvm.exec ∧ W.c.code = code ∧ W.c.maxLocals = maxL ∧ W.s.vm.findClass own = some W.m.cls ∧ Z.Warmed39 W.s.vm ∧ W.t.sig.returnType = ret ∧ W.t.name = nm ∧ W.t.locks = false
section Kit
variable {l : Launch} {R : Room} {Z : State} {W : Wd} {Q : Post} {h : Heap} {k n : Nat} {own nm : String} {code : ByteArray} {maxL : Nat} {ret : Option FieldType} {a0 : Array Value} {pc pc' : Nat} {Ls : Array Slot} {st : List Value}
theorem Cx.hx (C : Cx Z W own nm code maxL ret) : W.p.tables.exec = Jvm.exec := C.1
theorem Cx.hb (C : Cx Z W own nm code maxL ret) {pc : Nat} {r : Except ClassFile.DecodeError (ClassFile.Instr × Nat)} (h2 : decode code pc = r) : decode W.c.code pc = r := C.2.1 ▸ h2
theorem Cx.ow (C : Cx Z W own nm code maxL ret) : W.s.vm.findClass own = some W.m.cls := C.2.2.2.1
theorem Cx.hZ (C : Cx Z W own nm code maxL ret) : Z.Warmed39 W.s.vm := C.2.2.2.2.1
theorem Cx.ml (C : Cx Z W own nm code maxL ret) : W.c.maxLocals = maxL := C.2.2.1
theorem Cx.rt (C : Cx Z W own nm code maxL ret) : W.t.sig.returnType = ret := C.2.2.2.2.2.1
theorem Cx.nme (C : Cx Z W own nm code maxL ret) : W.t.name = nm := C.2.2.2.2.2.2.1
theorem Cx.lk (C : Cx Z W own nm code maxL ret) : W.t.locks = false := C.2.2.2.2.2.2.2
theorem old_of (O : Ext Z.heap h) : Old Z Z.heap.size h := ⟨rfl, O⟩
theorem Go.step {A B : State} (f : ∀ t, Steps W.p.tables W.e W.b B t → Steps W.p.tables W.e W.b A t) (g : Go R Z W Q B) : Go R Z W Q A := by
  obtain ⟨t, o, h1, r⟩ := g
  exact ⟨t, o, f t h1, r⟩
theorem Run.one {g g' : JFrame} (f : ∀ T locs, Std l R W T locs k n → T.heap = h → ∀ t, Steps W.p.tables W.e W.b (T.setTop g') t → Steps W.p.tables W.e W.b (T.setTop g) t) (r : Run l R Z W Q h k n g') : Run l R Z W Q h k n g :=
  fun T locs X eT N O => Go.step (f T locs X eT) (r T locs X eT N O)
theorem Run.old {f : JFrame} (r : Ext Z.heap h → Run l R Z W Q h k n f) : Run l R Z W Q h k n f := fun T locs X eT N O => r O T locs X eT N O
theorem Run.grow {f : JFrame} {k' n' : Nat} (hk : k ≤ k') (hn : n ≤ n') (r : Run l R Z W Q h k' n' f) : Run l R Z W Q h k n f := fun T locs X eT N O =>
  r T locs ⟨X.admits, X.cas, X.clock, X.frames, X.room, X.hears, X.method, X.code, X.here, X.tail, X.warmed, X.limits, X.bytes, X.same.mono hk hn⟩ eT N O

theorem iloadN (C : Cx Z W own nm code maxL ret) {i : Fin 4} {v : Int32} (hd : decode code pc = .ok (.iload_n i, 1)) (hl : Ls[i.val]? = some (.val (.int v))) (hp : pc + 1 = pc')
    (r : Run l R Z W Q h k n (mkF W.m pc' Ls (.int v :: st))) : Run l R Z W Q h k n (mkF W.m pc Ls (st)) := by
  subst hp
  exact Run.one (fun T locs X _ t g => XS.iloadN X.here C.hx rfl (C.hb hd) hl g) r
theorem iload (C : Cx Z W own nm code maxL ret) {i : Nat} {v : Int32} (hd : decode code pc = .ok (.iload i, 2)) (hl : Ls[i]? = some (.val (.int v))) (hp : pc + 2 = pc')
    (r : Run l R Z W Q h k n (mkF W.m pc' Ls (.int v :: st))) : Run l R Z W Q h k n (mkF W.m pc Ls (st)) := by
  subst hp
  exact Run.one (fun T locs X _ t g => XS.iload X.here C.hx rfl (C.hb hd) hl g) r
theorem lloadN (C : Cx Z W own nm code maxL ret) {i : Fin 4} {v : Int64} (hd : decode code pc = .ok (.lload_n i, 1)) (hl : Ls[i.val]? = some (.val (.long v))) (hp : pc + 1 = pc')
    (r : Run l R Z W Q h k n (mkF W.m pc' Ls (.long v :: st))) : Run l R Z W Q h k n (mkF W.m pc Ls (st)) := by
  subst hp
  exact Run.one (fun T locs X _ t g => XS.lloadN X.here C.hx rfl (C.hb hd) hl g) r
theorem lload (C : Cx Z W own nm code maxL ret) {i : Nat} {v : Int64} (hd : decode code pc = .ok (.lload i, 2)) (hl : Ls[i]? = some (.val (.long v))) (hp : pc + 2 = pc')
    (r : Run l R Z W Q h k n (mkF W.m pc' Ls (.long v :: st))) : Run l R Z W Q h k n (mkF W.m pc Ls (st)) := by
  subst hp
  exact Run.one (fun T locs X _ t g => XS.lload X.here C.hx rfl (C.hb hd) hl g) r
theorem aloadN (C : Cx Z W own nm code maxL ret) {i : Fin 4} {v : Value} (hd : decode code pc = .ok (.aload_n i, 1)) (hl : Ls[i.val]? = some (.val v)) (hv : v.isRef = true) (hp : pc + 1 = pc')
    (r : Run l R Z W Q h k n (mkF W.m pc' Ls (v :: st))) : Run l R Z W Q h k n (mkF W.m pc Ls (st)) := by
  subst hp
  exact Run.one (fun T locs X _ t g => XS.aloadN X.here C.hx rfl (C.hb hd) hl hv g) r
theorem aload (C : Cx Z W own nm code maxL ret) {i : Nat} {v : Value} (hd : decode code pc = .ok (.aload i, 2)) (hl : Ls[i]? = some (.val v)) (hv : v.isRef = true) (hp : pc + 2 = pc')
    (r : Run l R Z W Q h k n (mkF W.m pc' Ls (v :: st))) : Run l R Z W Q h k n (mkF W.m pc Ls (st)) := by
  subst hp
  exact Run.one (fun T locs X _ t g => XS.aload X.here C.hx rfl (C.hb hd) hl hv g) r
theorem istoreN (C : Cx Z W own nm code maxL ret) {i : Fin 4} {v : Int32} {Ls' : Array Slot} (hd : decode code pc = .ok (.istore_n i, 1)) (hl : storeLocals Ls i.val (.int v) = some Ls') (hp : pc + 1 = pc')
    (r : Run l R Z W Q h k n (mkF W.m pc' Ls' (st))) : Run l R Z W Q h k n (mkF W.m pc Ls (.int v :: st)) := by
  subst hp
  exact Run.one (fun T locs X _ t g => XS.istoreN X.here C.hx rfl (C.hb hd) rfl hl g) r
theorem istore (C : Cx Z W own nm code maxL ret) {i : Nat} {v : Int32} {Ls' : Array Slot} (hd : decode code pc = .ok (.istore i, 2)) (hl : storeLocals Ls i (.int v) = some Ls') (hp : pc + 2 = pc')
    (r : Run l R Z W Q h k n (mkF W.m pc' Ls' (st))) : Run l R Z W Q h k n (mkF W.m pc Ls (.int v :: st)) := by
  subst hp
  exact Run.one (fun T locs X _ t g => XS.istore X.here C.hx rfl (C.hb hd) rfl hl g) r
theorem lstoreN (C : Cx Z W own nm code maxL ret) {i : Fin 4} {v : Int64} {Ls' : Array Slot} (hd : decode code pc = .ok (.lstore_n i, 1)) (hl : storeLocals Ls i.val (.long v) = some Ls') (hp : pc + 1 = pc')
    (r : Run l R Z W Q h k n (mkF W.m pc' Ls' (st))) : Run l R Z W Q h k n (mkF W.m pc Ls (.long v :: st)) := by
  subst hp
  exact Run.one (fun T locs X _ t g => XS.lstoreN X.here C.hx rfl (C.hb hd) rfl hl g) r
theorem lstore (C : Cx Z W own nm code maxL ret) {i : Nat} {v : Int64} {Ls' : Array Slot} (hd : decode code pc = .ok (.lstore i, 2)) (hl : storeLocals Ls i (.long v) = some Ls') (hp : pc + 2 = pc')
    (r : Run l R Z W Q h k n (mkF W.m pc' Ls' (st))) : Run l R Z W Q h k n (mkF W.m pc Ls (.long v :: st)) := by
  subst hp
  exact Run.one (fun T locs X _ t g => XS.lstore X.here C.hx rfl (C.hb hd) rfl hl g) r
theorem astoreN (C : Cx Z W own nm code maxL ret) {i : Fin 4} {v : Value} {Ls' : Array Slot} (hd : decode code pc = .ok (.astore_n i, 1)) (hv : v.isRef = true) (hl : storeLocals Ls i.val v = some Ls') (hp : pc + 1 = pc')
    (r : Run l R Z W Q h k n (mkF W.m pc' Ls' (st))) : Run l R Z W Q h k n (mkF W.m pc Ls (v :: st)) := by
  subst hp
  exact Run.one (fun T locs X _ t g => XS.astoreN X.here C.hx rfl (C.hb hd) rfl hv hl g) r
theorem astore (C : Cx Z W own nm code maxL ret) {i : Nat} {v : Value} {Ls' : Array Slot} (hd : decode code pc = .ok (.astore i, 2)) (hv : v.isRef = true) (hl : storeLocals Ls i v = some Ls') (hp : pc + 2 = pc')
    (r : Run l R Z W Q h k n (mkF W.m pc' Ls' (st))) : Run l R Z W Q h k n (mkF W.m pc Ls (v :: st)) := by
  subst hp
  exact Run.one (fun T locs X _ t g => XS.astore X.here C.hx rfl (C.hb hd) rfl hv hl g) r
theorem iconst (C : Cx Z W own nm code maxL ret) {i : Int} {v : Int32} (hd : decode code pc = .ok (.iconst i, 1)) (hv : Int32.ofInt i = v) (hp : pc + 1 = pc')
    (r : Run l R Z W Q h k n (mkF W.m pc' Ls (.int v :: st))) : Run l R Z W Q h k n (mkF W.m pc Ls (st)) := by
  subst hp
  exact Run.one (fun T locs X _ t g => XS.iconst X.here C.hx rfl (C.hb hd) (hv ▸ g)) r
theorem bipush (C : Cx Z W own nm code maxL ret) {i : Int} {v : Int32} (hd : decode code pc = .ok (.bipush i, 2)) (hv : (Int8.ofInt i).toInt32 = v) (hp : pc + 2 = pc')
    (r : Run l R Z W Q h k n (mkF W.m pc' Ls (.int v :: st))) : Run l R Z W Q h k n (mkF W.m pc Ls (st)) := by
  subst hp
  exact Run.one (fun T locs X _ t g => XS.bipush X.here C.hx rfl (C.hb hd) (hv ▸ g)) r
theorem sipush (C : Cx Z W own nm code maxL ret) {i : Int} {v : Int32} (hd : decode code pc = .ok (.sipush i, 3)) (hv : (Int16.ofInt i).toInt32 = v) (hp : pc + 3 = pc')
    (r : Run l R Z W Q h k n (mkF W.m pc' Ls (.int v :: st))) : Run l R Z W Q h k n (mkF W.m pc Ls (st)) := by
  subst hp
  exact Run.one (fun T locs X _ t g => XS.sipush X.here C.hx rfl (C.hb hd) (hv ▸ g)) r
theorem lconst (C : Cx Z W own nm code maxL ret) {i : Fin 2} {v : Int64} (hd : decode code pc = .ok (.lconst i, 1)) (hv : Int64.ofNat i = v) (hp : pc + 1 = pc')
    (r : Run l R Z W Q h k n (mkF W.m pc' Ls (.long v :: st))) : Run l R Z W Q h k n (mkF W.m pc Ls (st)) := by
  subst hp
  exact Run.one (fun T locs X _ t g => XS.lconst X.here C.hx rfl (C.hb hd) (hv ▸ g)) r
theorem aconstNull (C : Cx Z W own nm code maxL ret)  (hd : decode code pc = .ok (.aconst_null, 1)) (hp : pc + 1 = pc')
    (r : Run l R Z W Q h k n (mkF W.m pc' Ls (.null :: st))) : Run l R Z W Q h k n (mkF W.m pc Ls (st)) := by
  subst hp
  exact Run.one (fun T locs X _ t g => XS.aconstNull X.here C.hx rfl (C.hb hd) g) r
theorem iadd (C : Cx Z W own nm code maxL ret) {x y v : Int32} (hd : decode code pc = .ok (.iadd, 1)) (hv : x + y = v) (hp : pc + 1 = pc')
    (r : Run l R Z W Q h k n (mkF W.m pc' Ls (.int v :: st))) : Run l R Z W Q h k n (mkF W.m pc Ls (.int y :: .int x :: st)) := by
  subst hp
  exact Run.one (fun T locs X _ t g => XS.iadd X.here C.hx rfl (C.hb hd) rfl (hv ▸ g)) r
theorem isub (C : Cx Z W own nm code maxL ret) {x y v : Int32} (hd : decode code pc = .ok (.isub, 1)) (hv : x - y = v) (hp : pc + 1 = pc')
    (r : Run l R Z W Q h k n (mkF W.m pc' Ls (.int v :: st))) : Run l R Z W Q h k n (mkF W.m pc Ls (.int y :: .int x :: st)) := by
  subst hp
  exact Run.one (fun T locs X _ t g => XS.isub X.here C.hx rfl (C.hb hd) rfl (hv ▸ g)) r
theorem imul (C : Cx Z W own nm code maxL ret) {x y v : Int32} (hd : decode code pc = .ok (.imul, 1)) (hv : x * y = v) (hp : pc + 1 = pc')
    (r : Run l R Z W Q h k n (mkF W.m pc' Ls (.int v :: st))) : Run l R Z W Q h k n (mkF W.m pc Ls (.int y :: .int x :: st)) := by
  subst hp
  exact Run.one (fun T locs X _ t g => XS.imul X.here C.hx rfl (C.hb hd) rfl (hv ▸ g)) r
theorem iand (C : Cx Z W own nm code maxL ret) {x y v : Int32} (hd : decode code pc = .ok (.iand, 1)) (hv : x &&& y = v) (hp : pc + 1 = pc')
    (r : Run l R Z W Q h k n (mkF W.m pc' Ls (.int v :: st))) : Run l R Z W Q h k n (mkF W.m pc Ls (.int y :: .int x :: st)) := by
  subst hp
  exact Run.one (fun T locs X _ t g => XS.iand X.here C.hx rfl (C.hb hd) rfl (hv ▸ g)) r
theorem ior (C : Cx Z W own nm code maxL ret) {x y v : Int32} (hd : decode code pc = .ok (.ior, 1)) (hv : x ||| y = v) (hp : pc + 1 = pc')
    (r : Run l R Z W Q h k n (mkF W.m pc' Ls (.int v :: st))) : Run l R Z W Q h k n (mkF W.m pc Ls (.int y :: .int x :: st)) := by
  subst hp
  exact Run.one (fun T locs X _ t g => XS.ior X.here C.hx rfl (C.hb hd) rfl (hv ▸ g)) r
theorem ixor (C : Cx Z W own nm code maxL ret) {x y v : Int32} (hd : decode code pc = .ok (.ixor, 1)) (hv : x ^^^ y = v) (hp : pc + 1 = pc')
    (r : Run l R Z W Q h k n (mkF W.m pc' Ls (.int v :: st))) : Run l R Z W Q h k n (mkF W.m pc Ls (.int y :: .int x :: st)) := by
  subst hp
  exact Run.one (fun T locs X _ t g => XS.ixor X.here C.hx rfl (C.hb hd) rfl (hv ▸ g)) r
theorem ladd (C : Cx Z W own nm code maxL ret) {x y v : Int64} (hd : decode code pc = .ok (.ladd, 1)) (hv : x + y = v) (hp : pc + 1 = pc')
    (r : Run l R Z W Q h k n (mkF W.m pc' Ls (.long v :: st))) : Run l R Z W Q h k n (mkF W.m pc Ls (.long y :: .long x :: st)) := by
  subst hp
  exact Run.one (fun T locs X _ t g => XS.ladd X.here C.hx rfl (C.hb hd) rfl (hv ▸ g)) r
theorem lsub (C : Cx Z W own nm code maxL ret) {x y v : Int64} (hd : decode code pc = .ok (.lsub, 1)) (hv : x - y = v) (hp : pc + 1 = pc')
    (r : Run l R Z W Q h k n (mkF W.m pc' Ls (.long v :: st))) : Run l R Z W Q h k n (mkF W.m pc Ls (.long y :: .long x :: st)) := by
  subst hp
  exact Run.one (fun T locs X _ t g => XS.lsub X.here C.hx rfl (C.hb hd) rfl (hv ▸ g)) r
theorem lmul (C : Cx Z W own nm code maxL ret) {x y v : Int64} (hd : decode code pc = .ok (.lmul, 1)) (hv : x * y = v) (hp : pc + 1 = pc')
    (r : Run l R Z W Q h k n (mkF W.m pc' Ls (.long v :: st))) : Run l R Z W Q h k n (mkF W.m pc Ls (.long y :: .long x :: st)) := by
  subst hp
  exact Run.one (fun T locs X _ t g => XS.lmul X.here C.hx rfl (C.hb hd) rfl (hv ▸ g)) r
theorem land (C : Cx Z W own nm code maxL ret) {x y v : Int64} (hd : decode code pc = .ok (.land, 1)) (hv : x &&& y = v) (hp : pc + 1 = pc')
    (r : Run l R Z W Q h k n (mkF W.m pc' Ls (.long v :: st))) : Run l R Z W Q h k n (mkF W.m pc Ls (.long y :: .long x :: st)) := by
  subst hp
  exact Run.one (fun T locs X _ t g => XS.land X.here C.hx rfl (C.hb hd) rfl (hv ▸ g)) r
theorem lor (C : Cx Z W own nm code maxL ret) {x y v : Int64} (hd : decode code pc = .ok (.lor, 1)) (hv : x ||| y = v) (hp : pc + 1 = pc')
    (r : Run l R Z W Q h k n (mkF W.m pc' Ls (.long v :: st))) : Run l R Z W Q h k n (mkF W.m pc Ls (.long y :: .long x :: st)) := by
  subst hp
  exact Run.one (fun T locs X _ t g => XS.lor X.here C.hx rfl (C.hb hd) rfl (hv ▸ g)) r
theorem lxor (C : Cx Z W own nm code maxL ret) {x y v : Int64} (hd : decode code pc = .ok (.lxor, 1)) (hv : x ^^^ y = v) (hp : pc + 1 = pc')
    (r : Run l R Z W Q h k n (mkF W.m pc' Ls (.long v :: st))) : Run l R Z W Q h k n (mkF W.m pc Ls (.long y :: .long x :: st)) := by
  subst hp
  exact Run.one (fun T locs X _ t g => XS.lxor X.here C.hx rfl (C.hb hd) rfl (hv ▸ g)) r
theorem idiv (C : Cx Z W own nm code maxL ret) {x y v : Int32} (hd : decode code pc = .ok (.idiv, 1)) (hy : ¬ y = 0) (hv : x / y = v) (hp : pc + 1 = pc')
    (r : Run l R Z W Q h k n (mkF W.m pc' Ls (.int v :: st))) : Run l R Z W Q h k n (mkF W.m pc Ls (.int y :: .int x :: st)) := by
  subst hp
  exact Run.one (fun T locs X _ t g => XS.idiv X.here C.hx rfl (C.hb hd) rfl hy (hv ▸ g)) r
theorem irem (C : Cx Z W own nm code maxL ret) {x y v : Int32} (hd : decode code pc = .ok (.irem, 1)) (hy : ¬ y = 0) (hv : x % y = v) (hp : pc + 1 = pc')
    (r : Run l R Z W Q h k n (mkF W.m pc' Ls (.int v :: st))) : Run l R Z W Q h k n (mkF W.m pc Ls (.int y :: .int x :: st)) := by
  subst hp
  exact Run.one (fun T locs X _ t g => iremM X C.hx rfl (C.hb hd) rfl hy (hv ▸ g)) r
theorem ineg (C : Cx Z W own nm code maxL ret) {x v : Int32} (hd : decode code pc = .ok (.ineg, 1)) (hv : -x = v) (hp : pc + 1 = pc')
    (r : Run l R Z W Q h k n (mkF W.m pc' Ls (.int v :: st))) : Run l R Z W Q h k n (mkF W.m pc Ls (.int x :: st)) := by
  subst hp
  exact Run.one (fun T locs X _ t g => XS.ineg X.here C.hx rfl (C.hb hd) rfl (hv ▸ g)) r
theorem ishl (C : Cx Z W own nm code maxL ret) {x y v : Int32} (hd : decode code pc = .ok (.ishl, 1)) (hv : x <<< (y &&& 31) = v) (hp : pc + 1 = pc')
    (r : Run l R Z W Q h k n (mkF W.m pc' Ls (.int v :: st))) : Run l R Z W Q h k n (mkF W.m pc Ls (.int y :: .int x :: st)) := by
  subst hp
  exact Run.one (fun T locs X _ t g => XS.ishl X.here C.hx rfl (C.hb hd) rfl (hv ▸ g)) r
theorem ishr (C : Cx Z W own nm code maxL ret) {x y v : Int32} (hd : decode code pc = .ok (.ishr, 1)) (hv : x >>> (y &&& 31) = v) (hp : pc + 1 = pc')
    (r : Run l R Z W Q h k n (mkF W.m pc' Ls (.int v :: st))) : Run l R Z W Q h k n (mkF W.m pc Ls (.int y :: .int x :: st)) := by
  subst hp
  exact Run.one (fun T locs X _ t g => XS.ishr X.here C.hx rfl (C.hb hd) rfl (hv ▸ g)) r
theorem iushr (C : Cx Z W own nm code maxL ret) {x y v : Int32} (hd : decode code pc = .ok (.iushr, 1)) (hv : (x.toUInt32 >>> (y &&& 31).toUInt32).toInt32 = v) (hp : pc + 1 = pc')
    (r : Run l R Z W Q h k n (mkF W.m pc' Ls (.int v :: st))) : Run l R Z W Q h k n (mkF W.m pc Ls (.int y :: .int x :: st)) := by
  subst hp
  exact Run.one (fun T locs X _ t g => XS.iushr X.here C.hx rfl (C.hb hd) rfl (hv ▸ g)) r
theorem lshl (C : Cx Z W own nm code maxL ret) {x : Int64} {y : Int32} {v : Int64} (hd : decode code pc = .ok (.lshl, 1)) (hv : x <<< (y &&& 0x3f).toInt64 = v) (hp : pc + 1 = pc')
    (r : Run l R Z W Q h k n (mkF W.m pc' Ls (.long v :: st))) : Run l R Z W Q h k n (mkF W.m pc Ls (.int y :: .long x :: st)) := by
  subst hp
  exact Run.one (fun T locs X _ t g => XS.lshl X.here C.hx rfl (C.hb hd) rfl (hv ▸ g)) r
theorem lshr (C : Cx Z W own nm code maxL ret) {x : Int64} {y : Int32} {v : Int64} (hd : decode code pc = .ok (.lshr, 1)) (hv : x >>> (y &&& 0x3f).toInt64 = v) (hp : pc + 1 = pc')
    (r : Run l R Z W Q h k n (mkF W.m pc' Ls (.long v :: st))) : Run l R Z W Q h k n (mkF W.m pc Ls (.int y :: .long x :: st)) := by
  subst hp
  exact Run.one (fun T locs X _ t g => XS.lshr X.here C.hx rfl (C.hb hd) rfl (hv ▸ g)) r
theorem lushr (C : Cx Z W own nm code maxL ret) {x : Int64} {y : Int32} {v : Int64} (hd : decode code pc = .ok (.lushr, 1)) (hv : (x.toUInt64 >>> (y &&& 0x3f).toInt64.toUInt64).toInt64 = v) (hp : pc + 1 = pc')
    (r : Run l R Z W Q h k n (mkF W.m pc' Ls (.long v :: st))) : Run l R Z W Q h k n (mkF W.m pc Ls (.int y :: .long x :: st)) := by
  subst hp
  exact Run.one (fun T locs X _ t g => XS.lushr X.here C.hx rfl (C.hb hd) rfl (hv ▸ g)) r
theorem i2l (C : Cx Z W own nm code maxL ret) {x : Int32} {v : Int64} (hd : decode code pc = .ok (.i2l, 1)) (hv : x.toInt64 = v) (hp : pc + 1 = pc')
    (r : Run l R Z W Q h k n (mkF W.m pc' Ls (.long v :: st))) : Run l R Z W Q h k n (mkF W.m pc Ls (.int x :: st)) := by
  subst hp
  exact Run.one (fun T locs X _ t g => XS.i2l X.here C.hx rfl (C.hb hd) rfl (hv ▸ g)) r
theorem l2i (C : Cx Z W own nm code maxL ret) {x : Int64} {v : Int32} (hd : decode code pc = .ok (.l2i, 1)) (hv : x.toInt32 = v) (hp : pc + 1 = pc')
    (r : Run l R Z W Q h k n (mkF W.m pc' Ls (.int v :: st))) : Run l R Z W Q h k n (mkF W.m pc Ls (.long x :: st)) := by
  subst hp
  exact Run.one (fun T locs X _ t g => XS.l2i X.here C.hx rfl (C.hb hd) rfl (hv ▸ g)) r
theorem i2b (C : Cx Z W own nm code maxL ret) {x : Int32} {v : Int32} (hd : decode code pc = .ok (.i2b, 1)) (hv : x.toInt8.toInt32 = v) (hp : pc + 1 = pc')
    (r : Run l R Z W Q h k n (mkF W.m pc' Ls (.int v :: st))) : Run l R Z W Q h k n (mkF W.m pc Ls (.int x :: st)) := by
  subst hp
  exact Run.one (fun T locs X _ t g => XS.i2b X.here C.hx rfl (C.hb hd) rfl (hv ▸ g)) r
theorem i2c (C : Cx Z W own nm code maxL ret) {x : Int32} {v : Int32} (hd : decode code pc = .ok (.i2c, 1)) (hv : x.toUInt32.toUInt16.toUInt32.toInt32 = v) (hp : pc + 1 = pc')
    (r : Run l R Z W Q h k n (mkF W.m pc' Ls (.int v :: st))) : Run l R Z W Q h k n (mkF W.m pc Ls (.int x :: st)) := by
  subst hp
  exact Run.one (fun T locs X _ t g => XS.i2c X.here C.hx rfl (C.hb hd) rfl (hv ▸ g)) r
theorem i2s (C : Cx Z W own nm code maxL ret) {x : Int32} {v : Int32} (hd : decode code pc = .ok (.i2s, 1)) (hv : x.toInt16.toInt32 = v) (hp : pc + 1 = pc')
    (r : Run l R Z W Q h k n (mkF W.m pc' Ls (.int v :: st))) : Run l R Z W Q h k n (mkF W.m pc Ls (.int x :: st)) := by
  subst hp
  exact Run.one (fun T locs X _ t g => XS.i2s X.here C.hx rfl (C.hb hd) rfl (hv ▸ g)) r
theorem lcmp (C : Cx Z W own nm code maxL ret) {x y : Int64} (hd : decode code pc = .ok (.lcmp, 1)) (hp : pc + 1 = pc')
    (r : Run l R Z W Q h k n (mkF W.m pc' Ls (.int (lcmpW x y) :: st))) : Run l R Z W Q h k n (mkF W.m pc Ls (.long y :: .long x :: st)) := by
  subst hp
  exact Run.one (fun T locs X _ t g => XS.lcmp X.here C.hx rfl (C.hb hd) rfl g) r
theorem dup (C : Cx Z W own nm code maxL ret) {v : Value} (hd : decode code pc = .ok (.dup, 1)) (hc : v.category = 1) (hp : pc + 1 = pc')
    (r : Run l R Z W Q h k n (mkF W.m pc' Ls (v :: v :: st))) : Run l R Z W Q h k n (mkF W.m pc Ls (v :: st)) := by
  subst hp
  exact Run.one (fun T locs X _ t g => XS.dup X.here C.hx rfl (C.hb hd) rfl hc g) r
theorem dupX1 (C : Cx Z W own nm code maxL ret) {v w : Value} (hd : decode code pc = .ok (.dup_x1, 1)) (hc : v.category = 1) (hc' : w.category = 1) (hp : pc + 1 = pc')
    (r : Run l R Z W Q h k n (mkF W.m pc' Ls (v :: w :: v :: st))) : Run l R Z W Q h k n (mkF W.m pc Ls (v :: w :: st)) := by
  subst hp
  exact Run.one (fun T locs X _ t g => XS.dupX1 X.here C.hx rfl (C.hb hd) rfl hc hc' g) r
theorem dup2 (C : Cx Z W own nm code maxL ret) {v w : Value} (hd : decode code pc = .ok (.dup2, 1)) (hc : v.category = 1) (hc' : w.category = 1) (hp : pc + 1 = pc')
    (r : Run l R Z W Q h k n (mkF W.m pc' Ls (v :: w :: v :: w :: st))) : Run l R Z W Q h k n (mkF W.m pc Ls (v :: w :: st)) := by
  subst hp
  exact Run.one (fun T locs X _ t g => XT.dup2 X.here C.hx rfl (C.hb hd) rfl hc hc' g) r
theorem pop (C : Cx Z W own nm code maxL ret) {v : Value} (hd : decode code pc = .ok (.pop, 1)) (hc : v.category = 1) (hp : pc + 1 = pc')
    (r : Run l R Z W Q h k n (mkF W.m pc' Ls (st))) : Run l R Z W Q h k n (mkF W.m pc Ls (v :: st)) := by
  subst hp
  exact Run.one (fun T locs X _ t g => XS.pop X.here C.hx rfl (C.hb hd) rfl hc g) r
theorem swap (C : Cx Z W own nm code maxL ret) {v w : Value} (hd : decode code pc = .ok (.swap, 1)) (hc : v.category = 1) (hc' : w.category = 1) (hp : pc + 1 = pc')
    (r : Run l R Z W Q h k n (mkF W.m pc' Ls (w :: v :: st))) : Run l R Z W Q h k n (mkF W.m pc Ls (v :: w :: st)) := by
  subst hp
  exact Run.one (fun T locs X _ t g => XS.swap X.here C.hx rfl (C.hb hd) rfl hc hc' g) r
theorem iinc (C : Cx Z W own nm code maxL ret) {i : Nat} {d : Int} {x v : Int32} {Ls' : Array Slot} (hd : decode code pc = .ok (.iinc i d, 3)) (hl : Ls[i]? = some (.val (.int x))) (hv : x + Int32.ofInt d = v) (hl' : storeLocals Ls i (.int v) = some Ls') (hp : pc + 3 = pc')
    (r : Run l R Z W Q h k n (mkF W.m pc' Ls' st)) : Run l R Z W Q h k n (mkF W.m pc Ls st) := by
  subst hp hv
  exact Run.one (fun T locs X _ t g => XS.iinc X.here C.hx rfl (C.hb hd) hl hl' g) r
theorem goto (C : Cx Z W own nm code maxL ret) {o : Int} (hd : decode code pc = .ok (.goto o, 3)) (ho : 0 ≤ (pc : Int) + o) (hp : ((pc : Int) + o).toNat = pc')
    (r : Run l R Z W Q h k n (mkF W.m pc' Ls st)) : Run l R Z W Q h k n (mkF W.m pc Ls st) :=
  Run.one (fun T locs X _ t g => XS.goto X.here C.hx rfl rfl (C.hb hd) ho hp g) r
theorem icmp_eq (C : Cx Z W own nm code maxL ret) {x y : Int32} {o : Int} {pcT : Nat} (hd : decode code pc = .ok (.if_icmp .eq o, 3)) (ho : 0 ≤ (pc : Int) + o) (hp : ((pc : Int) + o).toNat = pcT) (hp' : pc + 3 = pc')
    (rt : x = y → Run l R Z W Q h k n (mkF W.m pcT Ls st)) (rf : ¬ x = y → Run l R Z W Q h k n (mkF W.m pc' Ls st)) : Run l R Z W Q h k n (mkF W.m pc Ls (.int y :: .int x :: st)) := by
  subst hp'
  by_cases q : x = y
  · exact Run.one (fun T locs X _ t g => XS.icmpYes X.here C.hx rfl rfl (C.hb hd) rfl (teq q).1 ho hp g) (rt q)
  · exact Run.one (fun T locs X _ t g => XS.icmpNo X.here C.hx rfl (C.hb hd) rfl (feq q).1 g) (rf q)
theorem if_eq (C : Cx Z W own nm code maxL ret) {x : Int32} {o : Int} {pcT : Nat} (hd : decode code pc = .ok (.ifCond .eq o, 3)) (ho : 0 ≤ (pc : Int) + o) (hp : ((pc : Int) + o).toNat = pcT) (hp' : pc + 3 = pc')
    (rt : x = (0 : Int32) → Run l R Z W Q h k n (mkF W.m pcT Ls st)) (rf : ¬ x = (0 : Int32) → Run l R Z W Q h k n (mkF W.m pc' Ls st)) : Run l R Z W Q h k n (mkF W.m pc Ls (.int x :: st)) := by
  subst hp'
  by_cases q : x = (0 : Int32)
  · exact Run.one (fun T locs X _ t g => XS.ifYes X.here C.hx rfl rfl (C.hb hd) rfl ((if0 _ _).trans (teq q).1) ho hp g) (rt q)
  · exact Run.one (fun T locs X _ t g => XS.ifNo X.here C.hx rfl (C.hb hd) rfl ((if0 _ _).trans (feq q).1) g) (rf q)
theorem icmp_ne (C : Cx Z W own nm code maxL ret) {x y : Int32} {o : Int} {pcT : Nat} (hd : decode code pc = .ok (.if_icmp .ne o, 3)) (ho : 0 ≤ (pc : Int) + o) (hp : ((pc : Int) + o).toNat = pcT) (hp' : pc + 3 = pc')
    (rt : ¬ x = y → Run l R Z W Q h k n (mkF W.m pcT Ls st)) (rf : x = y → Run l R Z W Q h k n (mkF W.m pc' Ls st)) : Run l R Z W Q h k n (mkF W.m pc Ls (.int y :: .int x :: st)) := by
  subst hp'
  by_cases q : x = y
  · exact Run.one (fun T locs X _ t g => XS.icmpNo X.here C.hx rfl (C.hb hd) rfl (teq q).2 g) (rf q)
  · exact Run.one (fun T locs X _ t g => XS.icmpYes X.here C.hx rfl rfl (C.hb hd) rfl (feq q).2 ho hp g) (rt q)
theorem if_ne (C : Cx Z W own nm code maxL ret) {x : Int32} {o : Int} {pcT : Nat} (hd : decode code pc = .ok (.ifCond .ne o, 3)) (ho : 0 ≤ (pc : Int) + o) (hp : ((pc : Int) + o).toNat = pcT) (hp' : pc + 3 = pc')
    (rt : ¬ x = (0 : Int32) → Run l R Z W Q h k n (mkF W.m pcT Ls st)) (rf : x = (0 : Int32) → Run l R Z W Q h k n (mkF W.m pc' Ls st)) : Run l R Z W Q h k n (mkF W.m pc Ls (.int x :: st)) := by
  subst hp'
  by_cases q : x = (0 : Int32)
  · exact Run.one (fun T locs X _ t g => XS.ifNo X.here C.hx rfl (C.hb hd) rfl ((if0 _ _).trans (teq q).2) g) (rf q)
  · exact Run.one (fun T locs X _ t g => XS.ifYes X.here C.hx rfl rfl (C.hb hd) rfl ((if0 _ _).trans (feq q).2) ho hp g) (rt q)
theorem icmp_lt (C : Cx Z W own nm code maxL ret) {x y : Int32} {o : Int} {pcT : Nat} (hd : decode code pc = .ok (.if_icmp .lt o, 3)) (ho : 0 ≤ (pc : Int) + o) (hp : ((pc : Int) + o).toNat = pcT) (hp' : pc + 3 = pc')
    (rt : x < y → Run l R Z W Q h k n (mkF W.m pcT Ls st)) (rf : ¬ x < y → Run l R Z W Q h k n (mkF W.m pc' Ls st)) : Run l R Z W Q h k n (mkF W.m pc Ls (.int y :: .int x :: st)) := by
  subst hp'
  by_cases q : x < y
  · exact Run.one (fun T locs X _ t g => XS.icmpYes X.here C.hx rfl rfl (C.hb hd) rfl (tlt q).1 ho hp g) (rt q)
  · exact Run.one (fun T locs X _ t g => XS.icmpNo X.here C.hx rfl (C.hb hd) rfl (flt q).1 g) (rf q)
theorem if_lt (C : Cx Z W own nm code maxL ret) {x : Int32} {o : Int} {pcT : Nat} (hd : decode code pc = .ok (.ifCond .lt o, 3)) (ho : 0 ≤ (pc : Int) + o) (hp : ((pc : Int) + o).toNat = pcT) (hp' : pc + 3 = pc')
    (rt : x < (0 : Int32) → Run l R Z W Q h k n (mkF W.m pcT Ls st)) (rf : ¬ x < (0 : Int32) → Run l R Z W Q h k n (mkF W.m pc' Ls st)) : Run l R Z W Q h k n (mkF W.m pc Ls (.int x :: st)) := by
  subst hp'
  by_cases q : x < (0 : Int32)
  · exact Run.one (fun T locs X _ t g => XS.ifYes X.here C.hx rfl rfl (C.hb hd) rfl ((if0 _ _).trans (tlt q).1) ho hp g) (rt q)
  · exact Run.one (fun T locs X _ t g => XS.ifNo X.here C.hx rfl (C.hb hd) rfl ((if0 _ _).trans (flt q).1) g) (rf q)
theorem icmp_ge (C : Cx Z W own nm code maxL ret) {x y : Int32} {o : Int} {pcT : Nat} (hd : decode code pc = .ok (.if_icmp .ge o, 3)) (ho : 0 ≤ (pc : Int) + o) (hp : ((pc : Int) + o).toNat = pcT) (hp' : pc + 3 = pc')
    (rt : ¬ x < y → Run l R Z W Q h k n (mkF W.m pcT Ls st)) (rf : x < y → Run l R Z W Q h k n (mkF W.m pc' Ls st)) : Run l R Z W Q h k n (mkF W.m pc Ls (.int y :: .int x :: st)) := by
  subst hp'
  by_cases q : x < y
  · exact Run.one (fun T locs X _ t g => XS.icmpNo X.here C.hx rfl (C.hb hd) rfl (tlt q).2.1 g) (rf q)
  · exact Run.one (fun T locs X _ t g => XS.icmpYes X.here C.hx rfl rfl (C.hb hd) rfl (flt q).2.1 ho hp g) (rt q)
theorem if_ge (C : Cx Z W own nm code maxL ret) {x : Int32} {o : Int} {pcT : Nat} (hd : decode code pc = .ok (.ifCond .ge o, 3)) (ho : 0 ≤ (pc : Int) + o) (hp : ((pc : Int) + o).toNat = pcT) (hp' : pc + 3 = pc')
    (rt : ¬ x < (0 : Int32) → Run l R Z W Q h k n (mkF W.m pcT Ls st)) (rf : x < (0 : Int32) → Run l R Z W Q h k n (mkF W.m pc' Ls st)) : Run l R Z W Q h k n (mkF W.m pc Ls (.int x :: st)) := by
  subst hp'
  by_cases q : x < (0 : Int32)
  · exact Run.one (fun T locs X _ t g => XS.ifNo X.here C.hx rfl (C.hb hd) rfl ((if0 _ _).trans (tlt q).2.1) g) (rf q)
  · exact Run.one (fun T locs X _ t g => XS.ifYes X.here C.hx rfl rfl (C.hb hd) rfl ((if0 _ _).trans (flt q).2.1) ho hp g) (rt q)
theorem icmp_gt (C : Cx Z W own nm code maxL ret) {x y : Int32} {o : Int} {pcT : Nat} (hd : decode code pc = .ok (.if_icmp .gt o, 3)) (ho : 0 ≤ (pc : Int) + o) (hp : ((pc : Int) + o).toNat = pcT) (hp' : pc + 3 = pc')
    (rt : y < x → Run l R Z W Q h k n (mkF W.m pcT Ls st)) (rf : ¬ y < x → Run l R Z W Q h k n (mkF W.m pc' Ls st)) : Run l R Z W Q h k n (mkF W.m pc Ls (.int y :: .int x :: st)) := by
  subst hp'
  by_cases q : y < x
  · exact Run.one (fun T locs X _ t g => XS.icmpYes X.here C.hx rfl rfl (C.hb hd) rfl (tlt q).2.2.1 ho hp g) (rt q)
  · exact Run.one (fun T locs X _ t g => XS.icmpNo X.here C.hx rfl (C.hb hd) rfl (flt q).2.2.1 g) (rf q)
theorem if_gt (C : Cx Z W own nm code maxL ret) {x : Int32} {o : Int} {pcT : Nat} (hd : decode code pc = .ok (.ifCond .gt o, 3)) (ho : 0 ≤ (pc : Int) + o) (hp : ((pc : Int) + o).toNat = pcT) (hp' : pc + 3 = pc')
    (rt : (0 : Int32) < x → Run l R Z W Q h k n (mkF W.m pcT Ls st)) (rf : ¬ (0 : Int32) < x → Run l R Z W Q h k n (mkF W.m pc' Ls st)) : Run l R Z W Q h k n (mkF W.m pc Ls (.int x :: st)) := by
  subst hp'
  by_cases q : (0 : Int32) < x
  · exact Run.one (fun T locs X _ t g => XS.ifYes X.here C.hx rfl rfl (C.hb hd) rfl ((if0 _ _).trans (tlt q).2.2.1) ho hp g) (rt q)
  · exact Run.one (fun T locs X _ t g => XS.ifNo X.here C.hx rfl (C.hb hd) rfl ((if0 _ _).trans (flt q).2.2.1) g) (rf q)
theorem icmp_le (C : Cx Z W own nm code maxL ret) {x y : Int32} {o : Int} {pcT : Nat} (hd : decode code pc = .ok (.if_icmp .le o, 3)) (ho : 0 ≤ (pc : Int) + o) (hp : ((pc : Int) + o).toNat = pcT) (hp' : pc + 3 = pc')
    (rt : ¬ y < x → Run l R Z W Q h k n (mkF W.m pcT Ls st)) (rf : y < x → Run l R Z W Q h k n (mkF W.m pc' Ls st)) : Run l R Z W Q h k n (mkF W.m pc Ls (.int y :: .int x :: st)) := by
  subst hp'
  by_cases q : y < x
  · exact Run.one (fun T locs X _ t g => XS.icmpNo X.here C.hx rfl (C.hb hd) rfl (tlt q).2.2.2 g) (rf q)
  · exact Run.one (fun T locs X _ t g => XS.icmpYes X.here C.hx rfl rfl (C.hb hd) rfl (flt q).2.2.2 ho hp g) (rt q)
theorem if_le (C : Cx Z W own nm code maxL ret) {x : Int32} {o : Int} {pcT : Nat} (hd : decode code pc = .ok (.ifCond .le o, 3)) (ho : 0 ≤ (pc : Int) + o) (hp : ((pc : Int) + o).toNat = pcT) (hp' : pc + 3 = pc')
    (rt : ¬ (0 : Int32) < x → Run l R Z W Q h k n (mkF W.m pcT Ls st)) (rf : (0 : Int32) < x → Run l R Z W Q h k n (mkF W.m pc' Ls st)) : Run l R Z W Q h k n (mkF W.m pc Ls (.int x :: st)) := by
  subst hp'
  by_cases q : (0 : Int32) < x
  · exact Run.one (fun T locs X _ t g => XS.ifNo X.here C.hx rfl (C.hb hd) rfl ((if0 _ _).trans (tlt q).2.2.2) g) (rf q)
  · exact Run.one (fun T locs X _ t g => XS.ifYes X.here C.hx rfl rfl (C.hb hd) rfl ((if0 _ _).trans (flt q).2.2.2) ho hp g) (rt q)
theorem ifnullY (C : Cx Z W own nm code maxL ret) {o : Int} (hd : decode code pc = .ok (.ifnull o, 3)) (ho : 0 ≤ (pc : Int) + o) (hp : ((pc : Int) + o).toNat = pc') (r : Run l R Z W Q h k n (mkF W.m pc' Ls st)) : Run l R Z W Q h k n (mkF W.m pc Ls (.null :: st)) :=
  Run.one (fun T locs X _ t g => XS.ifnullYes X.here C.hx rfl rfl (C.hb hd) rfl ho hp g) r
theorem ifnullN (C : Cx Z W own nm code maxL ret) {o : Int} {b : Addr} (hd : decode code pc = .ok (.ifnull o, 3)) (hp : pc + 3 = pc') (r : Run l R Z W Q h k n (mkF W.m pc' Ls st)) : Run l R Z W Q h k n (mkF W.m pc Ls (.ref b :: st)) := by
  subst hp
  exact Run.one (fun T locs X _ t g => XS.ifnullNo X.here C.hx rfl (C.hb hd) rfl g) r
theorem ifnonnullY (C : Cx Z W own nm code maxL ret) {o : Int} {b : Addr} (hd : decode code pc = .ok (.ifnonnull o, 3)) (ho : 0 ≤ (pc : Int) + o) (hp : ((pc : Int) + o).toNat = pc') (r : Run l R Z W Q h k n (mkF W.m pc' Ls st)) : Run l R Z W Q h k n (mkF W.m pc Ls (.ref b :: st)) :=
  Run.one (fun T locs X _ t g => XS.ifnonnullYes X.here C.hx rfl rfl (C.hb hd) rfl ho hp g) r
theorem ifnonnullN (C : Cx Z W own nm code maxL ret) {o : Int} (hd : decode code pc = .ok (.ifnonnull o, 3)) (hp : pc + 3 = pc') (r : Run l R Z W Q h k n (mkF W.m pc' Ls st)) : Run l R Z W Q h k n (mkF W.m pc Ls (.null :: st)) := by
  subst hp
  exact Run.one (fun T locs X _ t g => XS.ifnonnullNo X.here C.hx rfl (C.hb hd) rfl g) r
theorem acmp_eq (C : Cx Z W own nm code maxL ret) {o : Int} {x y : Value} {pcT : Nat} (hd : decode code pc = .ok (.if_acmp .eq o, 3)) (hx' : x.isRef = true) (hy' : y.isRef = true) (ho : 0 ≤ (pc : Int) + o) (hp : ((pc : Int) + o).toNat = pcT) (hp' : pc + 3 = pc')
    (rt : x = y → Run l R Z W Q h k n (mkF W.m pcT Ls st)) (rf : ¬ x = y → Run l R Z W Q h k n (mkF W.m pc' Ls st)) : Run l R Z W Q h k n (mkF W.m pc Ls (y :: x :: st)) := by
  subst hp'
  by_cases q : x = y
  · exact Run.one (fun T locs X _ t g => XT.acmpYes X.here C.hx rfl rfl (C.hb hd) rfl hx' hy' (XT.aa_eq_t q) ho hp g) (rt q)
  · exact Run.one (fun T locs X _ t g => XT.acmpNo X.here C.hx rfl (C.hb hd) rfl hx' hy' (XT.aa_eq_f q) g) (rf q)
theorem acmp_ne (C : Cx Z W own nm code maxL ret) {o : Int} {x y : Value} {pcT : Nat} (hd : decode code pc = .ok (.if_acmp .ne o, 3)) (hx' : x.isRef = true) (hy' : y.isRef = true) (ho : 0 ≤ (pc : Int) + o) (hp : ((pc : Int) + o).toNat = pcT) (hp' : pc + 3 = pc')
    (rt : ¬ x = y → Run l R Z W Q h k n (mkF W.m pcT Ls st)) (rf : x = y → Run l R Z W Q h k n (mkF W.m pc' Ls st)) : Run l R Z W Q h k n (mkF W.m pc Ls (y :: x :: st)) := by
  subst hp'
  by_cases q : x = y
  · exact Run.one (fun T locs X _ t g => XT.acmpNo X.here C.hx rfl (C.hb hd) rfl hx' hy' (XT.aa_ne_f q) g) (rf q)
  · exact Run.one (fun T locs X _ t g => XT.acmpYes X.here C.hx rfl rfl (C.hb hd) rfl hx' hy' (XT.aa_ne_t q) ho hp g) (rt q)
theorem tswIn (C : Cx Z W own nm code maxL ret) {d lo hi o : Int} {offs : Array Int} {ln : Nat} {i : Int32} (hd : decode code pc = .ok (.tableswitch d lo hi offs, ln)) (hin : ¬ (i.toInt < lo ∨ i.toInt > hi)) (ho : offs[(i.toInt - lo).toNat]? = some o) (h0 : 0 ≤ (pc : Int) + o) (hp : ((pc : Int) + o).toNat = pc')
    (r : Run l R Z W Q h k n (mkF W.m pc' Ls st)) : Run l R Z W Q h k n (mkF W.m pc Ls (.int i :: st)) :=
  Run.one (fun T locs X _ t g => XS.tswIn X.here C.hx rfl rfl (C.hb hd) rfl hin ho h0 hp g) r
theorem ldcI (C : Cx Z W own nm code maxL ret) {ix : Nat} {v : Int32} (hd : decode code pc = .ok (.ldc ix, 2)) (w : (Cond.constant own ix v).before a0 Z = true) (hp : pc + 2 = pc') (r : Run l R Z W Q h k n (mkF W.m pc' Ls (.int v :: st))) : Run l R Z W Q h k n (mkF W.m pc Ls st) := by
  subst hp
  exact Run.one (fun T locs X _ t g => X.ldcInt C.hx C.ow (mvT C.hZ w) (g := mkF W.m pc Ls st) rfl (C.hb hd) t g) r
theorem ldc2J (C : Cx Z W own nm code maxL ret) {ix : Nat} {v : Int64} (hd : decode code pc = .ok (.ldc2_w ix, 3)) (w : (Cond.constantLong own ix v).before a0 Z = true) (hp : pc + 3 = pc') (r : Run l R Z W Q h k n (mkF W.m pc' Ls (.long v :: st))) : Run l R Z W Q h k n (mkF W.m pc Ls st) := by
  subst hp
  exact Run.one (fun T locs X _ t g => X.ldc2Long C.hx C.ow (mvT C.hZ w) (g := mkF W.m pc Ls st) rfl (C.hb hd) t g) r
theorem Run.via {g g' : JFrame} (f : ∀ T locs, Std l R W T locs k n → T.heap = h → ∃ T', Std l R W T' locs k n ∧ T'.heap = h ∧ ∀ t, Steps W.p.tables W.e W.b (T'.setTop g') t → Steps W.p.tables W.e W.b (T.setTop g) t) (r : Run l R Z W Q h k n g') : Run l R Z W Q h k n g :=
  fun T locs X eT N O => by
    obtain ⟨T', X', e', s'⟩ := f T locs X eT
    exact Go.step s' (r T' locs X' e' N O)
theorem getF (C : Cx Z W own nm code maxL ret) {R0 O nmF d : String} {ix : Nat} (hd : decode code pc = .ok (.getfield ix, 3)) (w : (Cond.fieldLink own ix R0 nmF d).before a0 Z = true) (via : Via Z R0 O nmF d) {a : Addr} {v : Value} (F : Fld Z h a O nmF d v) (hp : pc + 3 = pc')
    (r : Run l R Z W Q h k n (mkF W.m pc' Ls (v :: st))) : Run l R Z W Q h k n (mkF W.m pc Ls (.ref a :: st)) := by
  subst hp
  exact Run.via (fun T locs X eT => RoadKit.getF X C.hx C.hZ C.ow (host := "") (Or.inl w) via eT F (g := mkF W.m pc Ls (.ref a :: st)) rfl rfl (C.hb hd)) r
theorem getFN (C : Cx Z W own nm code maxL ret) {R0 O nmF d host : String} {ix : Nat} (hd : decode code pc = .ok (.getfield ix, 3)) (w : (Cond.fieldLinkNest own ix R0 nmF d host).before a0 Z = true) (via : Via Z R0 O nmF d) {a : Addr} {v : Value} (F : Fld Z h a O nmF d v) (hp : pc + 3 = pc')
    (r : Run l R Z W Q h k n (mkF W.m pc' Ls (v :: st))) : Run l R Z W Q h k n (mkF W.m pc Ls (.ref a :: st)) := by
  subst hp
  exact Run.via (fun T locs X eT => RoadKit.getF X C.hx C.hZ C.ow (Or.inr w) via eT F (g := mkF W.m pc Ls (.ref a :: st)) rfl rfl (C.hb hd)) r
theorem getS (C : Cx Z W own nm code maxL ret) {R0 O nmF d : String} {ix : Nat} (hd : decode code pc = .ok (.getstatic ix, 3)) (w : (Cond.fieldLink own ix R0 nmF d).before a0 Z = true) (via : Via Z R0 O nmF d) {v : Value} (F : Sta Z h O nmF d v) (hp : pc + 3 = pc')
    (r : Run l R Z W Q h k n (mkF W.m pc' Ls (v :: st))) : Run l R Z W Q h k n (mkF W.m pc Ls st) := by
  subst hp
  exact Run.via (fun T locs X eT => getS2 X C.hx C.hZ C.ow (host := "") (Or.inl w) via eT F (g := mkF W.m pc Ls st) rfl (C.hb hd)) r
theorem getSN (C : Cx Z W own nm code maxL ret) {R0 O nmF d host : String} {ix : Nat} (hd : decode code pc = .ok (.getstatic ix, 3)) (w : (Cond.fieldLinkNest own ix R0 nmF d host).before a0 Z = true) (via : Via Z R0 O nmF d) {v : Value} (F : Sta Z h O nmF d v) (hp : pc + 3 = pc')
    (r : Run l R Z W Q h k n (mkF W.m pc' Ls (v :: st))) : Run l R Z W Q h k n (mkF W.m pc Ls st) := by
  subst hp
  exact Run.via (fun T locs X eT => getS2 X C.hx C.hZ C.ow (Or.inr w) via eT F (g := mkF W.m pc Ls st) rfl (C.hb hd)) r
theorem castY (C : Cx Z W own nm code maxL ret) {K : String} {ix : Nat} (hd : decode code pc = .ok (.checkcast ix, 3)) (w : (Cond.classLink own ix K).before a0 Z = true) {a : Addr} (F : Ins Z h a K true) (hp : pc + 3 = pc')
    (r : Run l R Z W Q h k n (mkF W.m pc' Ls (.ref a :: st))) : Run l R Z W Q h k n (mkF W.m pc Ls (.ref a :: st)) := by
  subst hp
  exact Run.via (fun T locs X eT => RoadKit.castY X C.hx C.hZ C.ow w eT F (g := mkF W.m pc Ls (.ref a :: st)) rfl rfl (C.hb hd)) r
theorem instY (C : Cx Z W own nm code maxL ret) {K : String} {ix : Nat} (hd : decode code pc = .ok (.instanceof ix, 3)) (w : (Cond.classLink own ix K).before a0 Z = true) {a : Addr} (F : Ins Z h a K true) (hp : pc + 3 = pc')
    (r : Run l R Z W Q h k n (mkF W.m pc' Ls (.int 1 :: st))) : Run l R Z W Q h k n (mkF W.m pc Ls (.ref a :: st)) := by
  subst hp
  exact Run.via (fun T locs X eT => RoadKit.instY X C.hx C.hZ C.ow w eT F (g := mkF W.m pc Ls (.ref a :: st)) rfl rfl (C.hb hd)) r
theorem instNull (C : Cx Z W own nm code maxL ret) {ix : Nat} (hd : decode code pc = .ok (.instanceof ix, 3)) (hp : pc + 3 = pc')
    (r : Run l R Z W Q h k n (mkF W.m pc' Ls (.int 0 :: st))) : Run l R Z W Q h k n (mkF W.m pc Ls (.null :: st)) := by
  subst hp
  exact Run.one (fun T locs X eT t g => X.instanceofNull C.hx (g := mkF W.m pc Ls (.null :: st)) rfl rfl (C.hb hd) t g) r
theorem castNull (C : Cx Z W own nm code maxL ret) {ix : Nat} (hd : decode code pc = .ok (.checkcast ix, 3)) (hp : pc + 3 = pc')
    (r : Run l R Z W Q h k n (mkF W.m pc' Ls (.null :: st))) : Run l R Z W Q h k n (mkF W.m pc Ls (.null :: st)) := by
  subst hp
  exact Run.one (fun T locs X eT t g => X.checkcastNull C.hx (g := mkF W.m pc Ls (.null :: st)) rfl rfl (C.hb hd) t g) r
/-- an array as a list: its kind, its length, its elements -/
def Ary (Z : State) (h : Heap) (a : Addr) (ty : FieldType) (vs : List Value) : Prop := ∃ c : Cell, Arr Z h a c ty ∧ c.slots = vs.toArray ∧ vs.length < 2 ^ 31 ∧ ∀ v ∈ vs, fits ty v = true
theorem Ary.lt {a : Addr} {ty : FieldType} {vs : List Value} (F : Ary Z h a ty vs) : a < h.size := by obtain ⟨c, A, -⟩ := F; exact A.lt
theorem Ary.ext {h' : Heap} {a : Addr} {ty : FieldType} {vs : List Value} (F : Ary Z h a ty vs) (E : Ext h h') : Ary Z h' a ty vs := by obtain ⟨c, A, r⟩ := F; exact ⟨c, A.ext E, r⟩
theorem Ary.other {h' : Heap} {a b : Addr} {sl : Nat} {v : Value} {ty : FieldType} {vs : List Value} (F : Ary Z h b ty vs) (X : Wr h h' a sl v) (q : b ≠ a) : Ary Z h' b ty vs := by obtain ⟨c, A, r⟩ := F; exact ⟨c, A.other X q, r⟩
theorem Ary.keep {h' : Heap} {a : Addr} {ws : List Addr} {ty : FieldType} {vs : List Value} (F : Ary Z h a ty vs) (K : Keep h h' ws) (q : a ∉ ws) : Ary Z h' a ty vs := by obtain ⟨c, A, r⟩ := F; exact ⟨c, ⟨K.2.1 a c A.1 q, A.2⟩, r⟩
theorem Ary.set {h' : Heap} {a : Addr} {i : Nat} {v : Value} {ty : FieldType} {vs : List Value} (F : Ary Z h a ty vs) (X : Wr h h' a i v) (hv : fits ty v = true) : Ary Z h' a ty (vs.set i v) := by
  obtain ⟨c, A, e, q, f⟩ := F
  refine ⟨_, A.same X, ?_, by simpa using q, fun w hw => ?_⟩
  · show (c.slots.setIfInBounds i v) = _
    rw [e]; simp
  · rcases List.mem_or_eq_of_mem_set hw with hw | rfl
    · exact f w hw
    · exact hv
theorem Ary.inb {a : Addr} {ty : FieldType} {vs : List Value} {c : Cell} {j : Int32} (e : c.slots = vs.toArray) (h0 : ¬ j < 0) (h1 : j.toNatClampNeg < vs.length) : ¬ (j < 0 ∨ c.slots.size ≤ j.toNatClampNeg) := by
  rw [e]
  rintro (q | q)
  · exact h0 q
  · simp at q; omega
theorem Ary.arv {a : Addr} {ty : FieldType} {vs : List Value} {d : Value} (F : Ary Z h a ty vs) : ∃ kc, Arv Z h a kc ty (Int32.ofNat vs.length) vs d := by
  obtain ⟨c, A, e, q, f⟩ := F
  have hn : (Int32.ofNat vs.length).toNatClampNeg = vs.length := by
    rw [Int32.toNatClampNeg_ofNat_of_lt q]
  refine ⟨c.cls, c, A, rfl, by rw [hn, e]; simp, ?_, fun i hi => ?_, fun i hi => ?_⟩
  · rw [Int32.lt_iff_toInt_lt, Int32.toInt_ofNat_of_lt q]; simp
  · have hi' : i < vs.length := by rw [e] at hi; simpa using hi
    rw [e]; simp [List.getD_eq_getElem?_getD, hi']
  · have hi' : i < vs.length := by rw [e] at hi; simpa using hi
    have := f _ (List.getElem_mem hi')
    simpa [List.getD_eq_getElem?_getD, hi'] using this
theorem Ary.of_arv {a : Addr} {kc : ClassId} {ty : FieldType} {z : Int32} {vs : List Value} {d : Value} (F : Arv Z h a kc ty z vs d) (hz : z.toNatClampNeg = vs.length) : Ary Z h a ty vs := by
  obtain ⟨c, A, -, S, z0, H, G⟩ := F
  have hs : c.slots.size = vs.length := S.trans hz
  refine ⟨c, A, ?_, by rw [← hz]; exact (back32 z0).2, fun v hv => ?_⟩
  · apply Array.ext
    · simpa using hs
    · intro i h1 h2
      have q := H i h1
      rw [Array.getElem?_eq_getElem h1] at q
      have h3 : i < vs.length := by omega
      simpa [List.getD_eq_getElem?_getD, h3] using q
  · obtain ⟨i, hi, rfl⟩ := List.getElem_of_mem hv
    have := G i (by omega)
    simpa [List.getD_eq_getElem?_getD, hi] using this
theorem alen (C : Cx Z W own nm code maxL ret) (hd : decode code pc = .ok (.arraylength, 1)) {a : Addr} {ty : FieldType} {vs : List Value} {z : Int32} (F : Ary Z h a ty vs) (hz : Int32.ofNat vs.length = z) (hp : pc + 1 = pc')
    (r : Run l R Z W Q h k n (mkF W.m pc' Ls (.int z :: st))) : Run l R Z W Q h k n (mkF W.m pc Ls (.ref a :: st)) := by
  subst hp hz
  obtain ⟨c, A, e, -⟩ := F
  have e2 : c.slots.size.toInt32 = Int32.ofNat vs.length := by rw [e]; simp
  exact Run.one (fun T locs X eT t g => X.arraylength C.hx (by rw [eT]; exact A.1) (State.isArrayOf_alike C.hZ.alike A.2.1) (g := mkF W.m pc Ls (.ref a :: st)) rfl rfl (C.hb hd) t (by rw [e2]; exact g)) r
theorem caload (C : Cx Z W own nm code maxL ret) (hd : decode code pc = .ok (.caload, 1)) {a : Addr} {vs : List Value} {j : Int32} {v : Value} (F : Ary Z h a .char vs) (h0 : ¬ j < 0) (hv : vs[j.toNatClampNeg]? = some v) (hp : pc + 1 = pc')
    (r : Run l R Z W Q h k n (mkF W.m pc' Ls (v :: st))) : Run l R Z W Q h k n (mkF W.m pc Ls (.int j :: .ref a :: st)) := by
  subst hp
  obtain ⟨c, A, e, -⟩ := F
  have h1 : j.toNatClampNeg < vs.length := (List.getElem?_eq_some_iff.mp hv).1
  exact Run.one (fun T locs X eT t g => X.caload C.hx (by rw [eT]; exact A.1) (State.isArrayOf_alike C.hZ.alike A.2.1) A.2.2 (Ary.inb (a := a) (ty := .char) e h0 h1) (by rw [e]; simpa using hv) (g := mkF W.m pc Ls (.int j :: .ref a :: st)) rfl rfl (C.hb hd) t g) r
theorem iaload (C : Cx Z W own nm code maxL ret) (hd : decode code pc = .ok (.iaload, 1)) {a : Addr} {vs : List Value} {j : Int32} {v : Value} (F : Ary Z h a .int vs) (h0 : ¬ j < 0) (hv : vs[j.toNatClampNeg]? = some v) (hp : pc + 1 = pc')
    (r : Run l R Z W Q h k n (mkF W.m pc' Ls (v :: st))) : Run l R Z W Q h k n (mkF W.m pc Ls (.int j :: .ref a :: st)) := by
  subst hp
  obtain ⟨c, A, e, -⟩ := F
  have h1 : j.toNatClampNeg < vs.length := (List.getElem?_eq_some_iff.mp hv).1
  exact Run.one (fun T locs X eT t g => X.iaload C.hx (by rw [eT]; exact A.1) (State.isArrayOf_alike C.hZ.alike A.2.1) A.2.2 (Ary.inb (a := a) (ty := .int) e h0 h1) (by rw [e]; simpa using hv) (g := mkF W.m pc Ls (.int j :: .ref a :: st)) rfl rfl (C.hb hd) t g) r
theorem baload (C : Cx Z W own nm code maxL ret) (hd : decode code pc = .ok (.baload, 1)) {a : Addr} {vs : List Value} {j : Int32} {v : Value} (F : Ary Z h a .byte vs) (h0 : ¬ j < 0) (hv : vs[j.toNatClampNeg]? = some v) (hp : pc + 1 = pc')
    (r : Run l R Z W Q h k n (mkF W.m pc' Ls (v :: st))) : Run l R Z W Q h k n (mkF W.m pc Ls (.int j :: .ref a :: st)) := by
  subst hp
  obtain ⟨c, A, e, -⟩ := F
  have h1 : j.toNatClampNeg < vs.length := (List.getElem?_eq_some_iff.mp hv).1
  exact Run.one (fun T locs X eT t g => X.baloadBytes C.hx (by rw [eT]; exact A.1) (State.isArrayOf_alike C.hZ.alike A.2.1) A.2.2 (Ary.inb (a := a) (ty := .byte) e h0 h1) (by rw [e]; simpa using hv) (g := mkF W.m pc Ls (.int j :: .ref a :: st)) rfl rfl (C.hb hd) t g) r
theorem saload (C : Cx Z W own nm code maxL ret) (hd : decode code pc = .ok (.saload, 1)) {a : Addr} {vs : List Value} {j : Int32} {v : Value} (F : Ary Z h a .short vs) (h0 : ¬ j < 0) (hv : vs[j.toNatClampNeg]? = some v) (hp : pc + 1 = pc')
    (r : Run l R Z W Q h k n (mkF W.m pc' Ls (v :: st))) : Run l R Z W Q h k n (mkF W.m pc Ls (.int j :: .ref a :: st)) := by
  subst hp
  obtain ⟨c, A, e, -⟩ := F
  have h1 : j.toNatClampNeg < vs.length := (List.getElem?_eq_some_iff.mp hv).1
  exact Run.one (fun T locs X eT t g => X.saload C.hx (by rw [eT]; exact A.1) (State.isArrayOf_alike C.hZ.alike A.2.1) A.2.2 (Ary.inb (a := a) (ty := .short) e h0 h1) (by rw [e]; simpa using hv) (g := mkF W.m pc Ls (.int j :: .ref a :: st)) rfl rfl (C.hb hd) t g) r
theorem laload (C : Cx Z W own nm code maxL ret) (hd : decode code pc = .ok (.laload, 1)) {a : Addr} {vs : List Value} {j : Int32} {v : Value} (F : Ary Z h a .long vs) (h0 : ¬ j < 0) (hv : vs[j.toNatClampNeg]? = some v) (hp : pc + 1 = pc')
    (r : Run l R Z W Q h k n (mkF W.m pc' Ls (v :: st))) : Run l R Z W Q h k n (mkF W.m pc Ls (.int j :: .ref a :: st)) := by
  subst hp
  obtain ⟨c, A, e, -⟩ := F
  have h1 : j.toNatClampNeg < vs.length := (List.getElem?_eq_some_iff.mp hv).1
  exact Run.one (fun T locs X eT t g => X.laload C.hx (by rw [eT]; exact A.1) (State.isArrayOf_alike C.hZ.alike A.2.1) A.2.2 (Ary.inb (a := a) (ty := .long) e h0 h1) (by rw [e]; simpa using hv) (g := mkF W.m pc Ls (.int j :: .ref a :: st)) rfl rfl (C.hb hd) t g) r
theorem aaload (C : Cx Z W own nm code maxL ret) (hd : decode code pc = .ok (.aaload, 1)) {a : Addr} {ty : FieldType} {vs : List Value} {j : Int32} {v : Value} (F : Ary Z h a ty vs) (ht : ty.isReference = true) (h0 : ¬ j < 0) (hv : vs[j.toNatClampNeg]? = some v) (hp : pc + 1 = pc')
    (r : Run l R Z W Q h k n (mkF W.m pc' Ls (v :: st))) : Run l R Z W Q h k n (mkF W.m pc Ls (.int j :: .ref a :: st)) := by
  subst hp
  obtain ⟨c, A, e, -⟩ := F
  have h1 : j.toNatClampNeg < vs.length := (List.getElem?_eq_some_iff.mp hv).1
  exact Run.one (fun T locs X eT t g => X.aaload C.hx (by rw [eT]; exact A.1) (State.isArrayOf_alike C.hZ.alike A.2.1) ht A.2.2 (Ary.inb (a := a) (ty := ty) e h0 h1) (by rw [e]; simpa using hv) (g := mkF W.m pc Ls (.int j :: .ref a :: st)) rfl rfl (C.hb hd) t g) r
theorem Run.wrote {a : Addr} {sl : Nat} {v : Value} {g g' : JFrame} (ha : Z.heap.size ≤ a) (f : ∀ T locs, Std l R W T locs k n → T.heap = h → ∃ T' h', Std l R W T' (locs ++ [⟨a, sl⟩]) k n ∧ T'.heap = h' ∧ Wr h h' a sl v ∧ ∀ t, Steps W.p.tables W.e W.b (T'.setTop g') t → Steps W.p.tables W.e W.b (T.setTop g) t)
    (r : ∀ h', Wr h h' a sl v → Ext Z.heap h' → Run l R Z W Q h' k n g') : Run l R Z W Q h k n g := fun T locs X eT N O => by
  obtain ⟨T', h', X', e', w', s'⟩ := f T locs X eT
  have O' : Ext Z.heap h' := ((old_of O).wr w' ha).2
  exact Go.step s' (r h' w' O' T' _ X' e' (Fr.snoc X' N ha) O')
theorem putF (C : Cx Z W own nm code maxL ret) {R0 O nmF d K : String} {ix kk : Nat} {ty : FieldType} (hd : decode code pc = .ok (.putfield ix, 3)) (w : (Cond.fieldLink own ix R0 nmF d).before a0 Z = true) (via : Via Z R0 O nmF d) {a : Addr} {v old : Value} (F : Fld Z h a O nmF d old) (E : Exa Z h a K)
    (L : (Cond.lays K O nmF d).before a0 Z = true ∨ ((Cond.laysFinal K O nmF d).before a0 Z = true ∧ own = O ∧ nm = "<init>")) (wi : (Cond.instantiable K kk).before a0 Z = true) (hty : parseFieldDescriptor d = some ty) (hn : narrow ty v = v) (hf : fits ty v = true) (ha : Z.heap.size ≤ a) (hp : pc + 3 = pc')
    (r : ∀ h', Wr h h' a (RoadKit.slotOf Z O nmF d) v → Ext Z.heap h' → Run l R Z W Q h' k n (mkF W.m pc' Ls st)) : Run l R Z W Q h k n (mkF W.m pc Ls (v :: .ref a :: st)) := by
  subst hp
  exact Run.wrote ha (fun T locs X eT => RoadKit.putF X C.hx C.hZ C.ow (host := "") (Or.inl w) via eT F E (L.imp id fun q => ⟨q.1, q.2.1, C.nme.trans q.2.2⟩) wi hty hn hf (g := mkF W.m pc Ls (v :: .ref a :: st)) rfl rfl (C.hb hd)) r
theorem castore (C : Cx Z W own nm code maxL ret) (hd : decode code pc = .ok (.castore, 1)) {a : Addr} {vs vs' : List Value} {j x : Int32} (F : Ary Z h a .char vs) (h0 : ¬ j < 0) (h1 : j.toNatClampNeg < vs.length) (hx : nar .char x = x) (hs : vs.set j.toNatClampNeg (.int x) = vs') (ha : Z.heap.size ≤ a) (hp : pc + 1 = pc')
    (r : ∀ h', Wr h h' a j.toNatClampNeg (.int x) → Ary Z h' a .char vs' → Ext Z.heap h' → Run l R Z W Q h' k n (mkF W.m pc' Ls st)) : Run l R Z W Q h k n (mkF W.m pc Ls (.int x :: .int j :: .ref a :: st)) := by
  subst hp hs
  have F' := F
  obtain ⟨c, A, e, -⟩ := F'
  exact Run.wrote ha (fun T locs X eT => by have w0 := RoadKit.stC X C.hx C.hZ eT A (Ary.inb (a := a) (ty := .char) e h0 h1) (g := mkF W.m pc Ls (.int x :: .int j :: .ref a :: st)) rfl rfl (C.hb hd); rw [hx] at w0; exact w0) (fun h' w' O' => r h' w' (F.set w' (hx ▸ fits_nar_char x)) O')
theorem bastore (C : Cx Z W own nm code maxL ret) (hd : decode code pc = .ok (.bastore, 1)) {a : Addr} {vs vs' : List Value} {j x : Int32} (F : Ary Z h a .byte vs) (h0 : ¬ j < 0) (h1 : j.toNatClampNeg < vs.length) (hs : vs.set j.toNatClampNeg (.int (nar .byte x)) = vs') (ha : Z.heap.size ≤ a) (hp : pc + 1 = pc')
    (r : ∀ h', Wr h h' a j.toNatClampNeg (.int (nar .byte x)) → Ary Z h' a .byte vs' → Ext Z.heap h' → Run l R Z W Q h' k n (mkF W.m pc' Ls st)) : Run l R Z W Q h k n (mkF W.m pc Ls (.int x :: .int j :: .ref a :: st)) := by
  subst hp hs
  have F' := F
  obtain ⟨c, A, e, -⟩ := F'
  exact Run.wrote ha (fun T locs X eT => by have w0 := RoadKit.stB X C.hx C.hZ eT A (Ary.inb (a := a) (ty := .byte) e h0 h1) (g := mkF W.m pc Ls (.int x :: .int j :: .ref a :: st)) rfl rfl (C.hb hd); exact w0) (fun h' w' O' => r h' w' (F.set w' (fits_nar_byte x)) O')
theorem iastore (C : Cx Z W own nm code maxL ret) (hd : decode code pc = .ok (.iastore, 1)) {a : Addr} {vs vs' : List Value} {j x : Int32} (F : Ary Z h a .int vs) (h0 : ¬ j < 0) (h1 : j.toNatClampNeg < vs.length) (hs : vs.set j.toNatClampNeg (.int x) = vs') (ha : Z.heap.size ≤ a) (hp : pc + 1 = pc')
    (r : ∀ h', Wr h h' a j.toNatClampNeg (.int x) → Ary Z h' a .int vs' → Ext Z.heap h' → Run l R Z W Q h' k n (mkF W.m pc' Ls st)) : Run l R Z W Q h k n (mkF W.m pc Ls (.int x :: .int j :: .ref a :: st)) := by
  subst hp hs
  have F' := F
  obtain ⟨c, A, e, -⟩ := F'
  exact Run.wrote ha (fun T locs X eT => by have w0 := RoadKit.stI X C.hx C.hZ eT A (Ary.inb (a := a) (ty := .int) e h0 h1) (g := mkF W.m pc Ls (.int x :: .int j :: .ref a :: st)) rfl rfl (C.hb hd); exact w0) (fun h' w' O' => r h' w' (F.set w' rfl) O')
theorem aastore (C : Cx Z W own nm code maxL ret) (hd : decode code pc = .ok (.aastore, 1)) {a : Addr} {ty : FieldType} {vs vs' : List Value} {j : Int32} {v : Value} (F : Ary Z h a ty vs) (h0 : ¬ j < 0) (h1 : j.toNatClampNeg < vs.length) (ht : ty.isReference = true) (So : Sto Z h a v) (hf : fits ty v = true) (hs : vs.set j.toNatClampNeg v = vs') (ha : Z.heap.size ≤ a) (hp : pc + 1 = pc')
    (r : ∀ h', Wr h h' a j.toNatClampNeg v → Ary Z h' a ty vs' → Ext Z.heap h' → Run l R Z W Q h' k n (mkF W.m pc' Ls st)) : Run l R Z W Q h k n (mkF W.m pc Ls (v :: .int j :: .ref a :: st)) := by
  subst hp hs
  have F' := F
  obtain ⟨c, A, e, -⟩ := F'
  exact Run.wrote ha (fun T locs X eT => stR X C.hx C.hZ eT A (Ary.inb (a := a) (ty := ty) e h0 h1) ht So (g := mkF W.m pc Ls (v :: .int j :: .ref a :: st)) rfl rfl (C.hb hd)) (fun h' w' O' => r h' w' (F.set w' hf) O')
/-- what a fresh object holds -/
abbrev Fresh (Z : State) (a0 : Array Value) (h' : Heap) (a : Addr) (K : String) : Prop := ∀ {O nm d : String} {ty : FieldType}, Laid Z a0 K O nm d → parseFieldDescriptor d = some ty → Fld Z h' a O nm d (defaultValue ty)
theorem newO (C : Cx Z W own nm code maxL ret) {K : String} {ix sl k' n' : Nat} (hd : decode code pc = .ok (.new ix, 3)) (w : (Cond.classLink own ix K).before a0 Z = true) (wi : (Cond.instantiable K sl).before a0 Z = true) (wz : (Cond.initialized K).before a0 Z = true) (hc : k + 1 = k') (hl : n + sl = n') (hc' : k' ≤ R.cells) (hl' : n' ≤ R.slots) (hp : pc + 3 = pc')
    (r : ∀ a h', a = h.size → Z.heap.size ≤ a → Ext h h' → Exa Z h' a K → Fresh Z a0 h' a K → Unt h' a → Ext Z.heap h' → Run l R Z W Q h' k' n' (mkF W.m pc' Ls (.ref a :: st))) : Run l R Z W Q h k n (mkF W.m pc Ls st) := by
  subst hp hc hl
  intro T locs X eT N O
  obtain ⟨T', h', X', e', E', A', D', U', s'⟩ := RoadKit.newO X C.hx C.hZ C.ow w wi wz eT (g := mkF W.m pc Ls st) rfl (C.hb hd) hc' hl'
  have O' : Ext Z.heap h' := ((old_of O).ext E').2
  exact Go.step s' (r h.size h' rfl O.1 E' A' D' U' O' T' locs X' e' N O')
theorem newA (C : Cx Z W own nm code maxL ret) {aty : ArrayType} {ty : FieldType} {z : Int32} {k' n' cap : Nat} (hd : decode code pc = .ok (.newarray aty, 2)) (ht : newarray.typeOf aty = ty) (w : (Cond.arrayClass ty).before a0 Z = true) (hz : ¬ z < 0) (hcap : z.toNatClampNeg ≤ cap) (hb : cap * 8 ≤ 536870912) (hc : k + 1 = k') (hl : n + cap = n') (hc' : k' ≤ R.cells) (hl' : n' ≤ R.slots) (hdf : fits ty (defaultValue ty) = true) (hp : pc + 2 = pc')
    (r : ∀ a h', a = h.size → Z.heap.size ≤ a → Ext h h' → Ary Z h' a ty (List.replicate z.toNatClampNeg (defaultValue ty)) → Ext Z.heap h' → Run l R Z W Q h' k' n' (mkF W.m pc' Ls (.ref a :: st))) : Run l R Z W Q h k n (mkF W.m pc Ls (.int z :: st)) := by
  subst hp hc hl ht
  intro T locs X eT N O
  obtain ⟨T', h', cA, X', e', E', A', s'⟩ := newP X C.hx C.hZ w eT (g := mkF W.m pc Ls (.int z :: st)) rfl (C.hb hd) rfl hz hcap hb hc' hl'
  have O' : Ext Z.heap h' := ((old_of O).ext E').2
  have hz2 : z.toNatClampNeg < 2 ^ 31 := (back32 hz).2
  refine Go.step s' (r h.size h' rfl O.1 E' ⟨_, A', ?_, by simpa using hz2, fun v hv => ?_⟩ O' T' locs X' e' N O')
  · show Array.replicate _ _ = _
    simp
  · rw [(List.mem_replicate.mp hv).2]; exact hdf
theorem cloneA (C : Cx Z W own nm code maxL ret) {ad : String} {ty : FieldType} {vs : List Value} {ix Wn k' n' : Nat} {a : Addr} (hd : decode code pc = .ok (.invokevirtual ix, 3)) (F : Ary Z h a ty vs) (E : Exa Z h a ad)
    (w1 : (Cond.methodLink own ix ⟨ad, "clone", "()Ljava/lang/Object;"⟩).before a0 Z = true) (w2 : (Cond.sameMethod ad "java/lang/Object" "clone" "()Ljava/lang/Object;").before a0 Z = true) (w3 : (Cond.native ⟨"java/lang/Object", "clone", "()Ljava/lang/Object;"⟩).before a0 Z = true) (w4 : (Cond.instanceMethod ⟨"java/lang/Object", "clone", "()Ljava/lang/Object;"⟩).before a0 Z = true)
    (w5 : (Cond.selects ad ⟨ad, "clone", "()Ljava/lang/Object;"⟩ ⟨"java/lang/Object", "clone", "()Ljava/lang/Object;"⟩).before a0 Z = true) (w6 : (Cond.castable ad "java/lang/Cloneable").before a0 Z = true) (hsz : Ls.size = maxL) (hf : 1 ≤ R.frames) (hW : (st.map fun v => v.category).sum ≤ Wn) (hlo : Wn + 14 ≤ R.locals) (hc : k + 1 = k') (hl : n + vs.length = n') (hc' : k' ≤ R.cells) (hl' : n' ≤ R.slots) (hp : pc + 3 = pc')
    (r : ∀ b h', b = h.size → Z.heap.size ≤ b → Ext h h' → Ary Z h' b ty vs → Exa Z h' b ad → Ext Z.heap h' → Run l R Z W Q h' k' n' (mkF W.m pc' Ls (.ref b :: st))) : Run l R Z W Q h k n (mkF W.m pc Ls (.ref a :: st)) := by
  subst hp hc hl
  intro T locs X eT N O
  obtain ⟨c, A, e, q, f⟩ := F
  have hs : c.slots.size = vs.length := by rw [e]; simp
  obtain ⟨T', h', X', e', E', A', X2, s'⟩ := RoadKit.cloneA X C.hx C.hZ C.ow w1 w2 w3 w4 w5 w6 eT A E (fitC_of A fun i hi v hv => f v (by rw [e] at hv; exact List.mem_of_getElem? (by simpa using hv))) (g := mkF W.m pc Ls (.ref a :: st)) rfl (hsz.trans C.ml.symm) rfl (C.hb hd) hf (W := Wn) (cap := vs.length) (by show 2 * 0 + _ ≤ _; omega) hlo (by omega) hc' hl'
  have O' : Ext Z.heap h' := ((old_of O).ext E').2
  exact Go.step s' (r h.size h' rfl O.1 E' ⟨_, A', e, q, f⟩ X2 O' T' locs X' e' N O')
theorem initO (C : Cx Z W own nm code maxL ret) {ix Wn : Nat} (hd : decode code pc = .ok (.invokespecial ix, 3)) (w1 : (Cond.methodLink own ix Lib.objectInit).before a0 Z = true) (w2 : (Cond.instanceMethod Lib.objectInit).before a0 Z = true) (w3 : (Cond.code Lib.objectInit ⟨#[0xb1]⟩ 1 none).before a0 Z = true) {a : Addr} (hsz : Ls.size = maxL) (hf : 1 ≤ R.frames) (hW : (st.map fun v => v.category).sum ≤ Wn) (hl : Wn + 12 ≤ R.locals) (hp : pc + 3 = pc')
    (r : Run l R Z W Q h k n (mkF W.m pc' Ls st)) : Run l R Z W Q h k n (mkF W.m pc Ls (.ref a :: st)) := by
  subst hp
  exact Run.via (fun T locs X eT => RoadKit.initO X C.hx C.hZ C.ow w1 w2 w3 eT (g := mkF W.m pc Ls (.ref a :: st)) rfl (hsz.trans C.ml.symm) rfl (C.hb hd) hf (W := Wn) (by show 2 * 0 + _ ≤ _; omega) hl) r
/-! ## contracts and calls -/
/-- the method y, called with these arguments at the heap h0, returns with Q -/
def Con (l : Launch) (Z : State) (y : MethodName) (bytes : ByteArray) (maxL : Nat) (ret : Option FieldType) (rm : Room) (as' : Array Value) (h0 : Heap) (Q : Post) : Prop :=
  ∀ ws, MetFree l y (head1 (Jvm.Cond.code y bytes maxL ret :: ws) rm) (fun a U => a = as' ∧ Z.Warmed39 U.vm ∧ U.heap = h0) (fun _ _ _ _ _ => True) (fun _ U o U' => ∃ v L, o = .returned v ∧ (Q v U'.heap ∧ Ext Z.heap U'.heap ∧ Fr Z.heap.size L) ∧ FrameEnd U o U' L rm.cells rm.slots)
theorem Con.intro {y : MethodName} {bytes : ByteArray} {rm : Room} {as' : Array Value} {Ls0 : Array Slot} (hy : plainFor y = true) (O : Ext Z.heap h) (he : ∀ m, entryFrame m as' maxL = mkF m 0 Ls0 [])
    (body : ∀ W : Wd, Cx Z W y.cls y.name bytes maxL ret → Run l rm Z W Q h 0 0 (mkF W.m 0 Ls0 [])) : Con l Z y bytes maxL ret rm as' h Q := by
  intro ws
  refine MetFree.of_bodySF hy hisR ?_
  intro p e s m args below meth c s₁ Bd hml0 hP hK
  obtain ⟨rfl, hZ, hh⟩ := hP
  have e0 : s₁.heap = h := by rw [← hh, Bd.state]; rfl
  have X0 : Stand p l e rm s m args below meth c s₁ [] 0 0 := Stand.of_body Bd
  have r := body (p, e, s, m, args, below, meth, c) ⟨Bd.exec, Bd.bytes, hml0, findClass_of_methodNamed Bd.named, hZ, Bd.returns, (name_of_methodNamed Bd.named Bd.method).1, Bd.notSynchronized⟩ s₁ [] X0 e0 (Fr.nil _) O
  rw [he m]
  exact r
theorem Con.mono {y : MethodName} {bytes : ByteArray} {rm : Room} {as' : Array Value} {Q' : Post} (c : Con l Z y bytes maxL ret rm as' h Q) (f : ∀ v h', Q v h' → Q' v h') : Con l Z y bytes maxL ret rm as' h Q' := by
  intro ws p e ha hc hk s m args below hf happ hP hK
  obtain ⟨n, o, h1, h2, h3, v, L, h4, ⟨h5, h6⟩, h7⟩ := c ws p e ha hc hk s m args below hf happ hP hK
  exact ⟨n, o, h1, h2, h3, v, L, h4, ⟨f _ _ h5, h6⟩, h7⟩
section Calls
variable {y : MethodName} {bytes : ByteArray} {mxL : Nat} {rt : Option FieldType} {rm : Room} {Qc : Post} {argsL : List Value} {as' : Array Value} {ix Wn k' n' kc nc : Nat} {st' : List Value}
/-- a law of the library, or a contract, as a call takes it -/
abbrev Pays (l : Launch) (R : Room) (W : Wd) (y : MethodName) (ln Wn : Nat) (as' : Array Value) (h : Heap) (kc nc : Nat) (Qv : Option Value → Heap → List Loc → Prop) : Prop :=
  Back l R W.p W.e W.b W.s W.a y ln Wn (fun P a => a = as' ∧ P.U.heap = h ∧ P.cells + kc ≤ R.cells ∧ P.slots + nc ≤ R.slots) (fun P _ v B => ∃ L, Qv v B.U.heap L ∧ B.locs = P.locs ++ L ∧ B.cells = P.cells + kc ∧ B.slots = P.slots + nc)
abbrev Clean (Z : State) (Qc : Post) (Qv : Option Value → Heap → List Loc → Prop) : Prop := ∀ v h' L, Qv v h' L → Qc v h' ∧ Ext Z.heap h' ∧ Fr Z.heap.size L
theorem Con.pays (C : Cx Z W own nm code maxL ret) {ln : Nat} (K : Con l Z y bytes mxL rt rm as' h Qc) (w4 : (Cond.code y bytes mxL rt).before a0 Z = true) (wz : (Cond.initialized y.cls).before a0 Z = true) (hf : rm.frames + 1 ≤ R.frames) (hl : Wn + (mxL + 11) + rm.locals ≤ R.locals) :
    Pays l R W y ln Wn as' h rm.cells rm.slots (fun v h' L => Qc v h' ∧ Ext Z.heap h' ∧ Fr Z.heap.size L) := backOf (W := Wn) (Q := fun v h' L => Qc v h' ∧ Ext Z.heap h' ∧ Fr Z.heap.size L) (K []) C.hZ w4 wz hf hl
theorem callS (C : Cx Z W own nm code maxL ret) (hd : decode code pc = .ok (.invokestatic ix, 3)) {Qv : Option Value → Heap → List Loc → Prop} (K : Pays l R W y 3 Wn as' h kc nc Qv) (hQ : Clean Z Qc Qv) (w1 : (Cond.methodLink own ix y).before a0 Z = true) (w2 : (Cond.static y).before a0 Z = true) (w3 : (Cond.initialized y.cls).before a0 Z = true) (w4 : (Cond.code y bytes mxL rt).before a0 Z = true) (hy : y.cls ≠ "java/lang/invoke/MethodHandle" ∧ y.cls ≠ "java/lang/invoke/VarHandle")
    (has : argsL.toArray = as') (hst : argsL.reverse ++ st = st') (hlen : ∀ sig, parseMethodDescriptor y.desc = some sig → argsL.length = sig.parameters.length) (hsz : Ls.size = maxL) (hW : (st.map fun v => v.category).sum ≤ Wn) (hk : k + kc = k') (hn : n + nc = n') (hk' : k' ≤ R.cells) (hn' : n' ≤ R.slots) (hp : pc + 3 = pc')
    (r : ∀ v h', Qc v h' → Ext Z.heap h' → Run l R Z W Q h' k' n' (mkF W.m pc' Ls (v.toList ++ st))) : Run l R Z W Q h k n (mkF W.m pc Ls st') := by
  subst hp hk hn has hst
  intro T locs X eT N O
  obtain ⟨v, vm₁, ⟨T', L', k', n'⟩, -, X', ⟨L, q0, l1, y1, z1⟩, s'⟩ := Jvm.LawKit.callS X C.hx (y := y) C.ow (mvT C.hZ w1) (mvT C.hZ w2) (mvT C.hZ w3) (mvT C.hZ w4) hy K (g := mkF W.m pc Ls (argsL.reverse ++ st)) rfl (hsz.trans C.ml.symm) (argsL := argsL) (rest := st) hlen rfl (by show 2 * 0 + _ ≤ _; omega) (C.hb hd) (fun _ _ => ⟨rfl, eT, hk', hn'⟩)
  dsimp only [Pt.U, Pt.locs, Pt.cells, Pt.slots] at X' l1 y1 z1 s' q0
  subst l1 y1 z1
  obtain ⟨q1, q2, q3⟩ := hQ _ _ _ q0
  exact Go.step s' (r v T'.heap q1 q2 T' _ X' rfl (N.app q3) q2)
theorem callI (C : Cx Z W own nm code maxL ret) (hd : decode code pc = .ok (.invokespecial ix, 3)) {a : Addr} {Qv : Option Value → Heap → List Loc → Prop} (K : Pays l R W y 3 Wn as' h kc nc Qv) (hQ : Clean Z Qc Qv) (hi : y.name = "<init>") (w1 : (Cond.methodLink own ix y).before a0 Z = true) (w2 : (Cond.instanceMethod y).before a0 Z = true) (w4 : (Cond.code y bytes mxL none).before a0 Z = true) (hy : y.cls ≠ "java/lang/invoke/MethodHandle" ∧ y.cls ≠ "java/lang/invoke/VarHandle")
    (has : (Value.ref a :: argsL).toArray = as') (hst : argsL.reverse ++ .ref a :: st = st') (hlen : ∀ sig, parseMethodDescriptor y.desc = some sig → argsL.length = sig.parameters.length) (hsz : Ls.size = maxL) (hW : (st.map fun v => v.category).sum ≤ Wn) (hk : k + kc = k') (hn : n + nc = n') (hk' : k' ≤ R.cells) (hn' : n' ≤ R.slots) (hp : pc + 3 = pc')
    (r : ∀ v h', Qc v h' → Ext Z.heap h' → Run l R Z W Q h' k' n' (mkF W.m pc' Ls (v.toList ++ st))) : Run l R Z W Q h k n (mkF W.m pc Ls st') := by
  subst hp hk hn has hst
  intro T locs X eT N O
  obtain ⟨v, vm₁, ⟨T', L', k', n'⟩, -, X', ⟨L, q0, l1, y1, z1⟩, s'⟩ := X.specialBack C.hx (y := y) hi C.ow (mvT C.hZ w1) (mvT C.hZ w2) (mvT C.hZ w4) hy K (g := mkF W.m pc Ls (argsL.reverse ++ .ref a :: st)) rfl (hsz.trans C.ml.symm) (Steps.refl _) (a := a) (argsL := argsL) (rest := st) hlen rfl (by show 2 * 0 + _ ≤ _; omega) (C.hb hd) (fun _ _ => ⟨rfl, eT, hk', hn'⟩)
  dsimp only [Pt.U, Pt.locs, Pt.cells, Pt.slots] at X' l1 y1 z1 s' q0
  subst l1 y1 z1
  obtain ⟨q1, q2, q3⟩ := hQ _ _ _ q0
  exact Go.step (fun t => s'.trans) (r v T'.heap q1 q2 T' _ X' rfl (N.app q3) q2)
theorem callV (C : Cx Z W own nm code maxL ret) (hd : decode code pc = .ok (.invokevirtual ix, 3)) {y0 : MethodName} {K0 : String} {a : Addr} {Qv : Option Value → Heap → List Loc → Prop} (K : Pays l R W y 3 Wn as' h kc nc Qv) (hQ : Clean Z Qc Qv) (E : Exa Z h a K0) (w1 : (Cond.methodLink own ix y0).before a0 Z = true) (w2 : (Cond.declares y0).before a0 Z = true) (nf : NotFace W.s y0) (w3 : (Cond.selects K0 y0 y).before a0 Z = true) (w5 : (Cond.instanceMethod y).before a0 Z = true) (hy : y0.cls ≠ "java/lang/invoke/MethodHandle" ∧ y0.cls ≠ "java/lang/invoke/VarHandle")
    (has : (Value.ref a :: argsL).toArray = as') (hst : argsL.reverse ++ .ref a :: st = st') (hlen : ∀ sig, parseMethodDescriptor y0.desc = some sig → argsL.length = sig.parameters.length) (hsz : Ls.size = maxL) (hW : (st.map fun v => v.category).sum ≤ Wn) (hk : k + kc = k') (hn : n + nc = n') (hk' : k' ≤ R.cells) (hn' : n' ≤ R.slots) (hp : pc + 3 = pc')
    (r : ∀ v h', Qc v h' → Ext Z.heap h' → Run l R Z W Q h' k' n' (mkF W.m pc' Ls (v.toList ++ st))) : Run l R Z W Q h k n (mkF W.m pc Ls st') := by
  subst hp hk hn has hst
  intro T locs X eT N O
  obtain ⟨cq, kq, qa, qb, qc⟩ := isOf C.hZ eT E
  obtain ⟨v, vm₁, ⟨T', L', k', n'⟩, -, X', ⟨L, q0, l1, y1, z1⟩, s'⟩ := X.virtualBack C.hx (y := y0) (z := y) C.ow (mvT C.hZ w1) (mvT C.hZ w2) nf (mvT C.hZ w3) (mvT C.hZ w5) hy K qa qc (g := mkF W.m pc Ls (argsL.reverse ++ .ref a :: st)) rfl (hsz.trans C.ml.symm) (Steps.refl _) (argsL := argsL) (rest := st) hlen rfl (by show 2 * 0 + _ ≤ _; omega) (C.hb hd) (fun _ _ => ⟨rfl, eT, hk', hn'⟩)
  dsimp only [Pt.U, Pt.locs, Pt.cells, Pt.slots] at X' l1 y1 z1 s' q0
  subst l1 y1 z1
  obtain ⟨q1, q2, q3⟩ := hQ _ _ _ q0
  exact Go.step (fun t => s'.trans) (r v T'.heap q1 q2 T' _ X' rfl (N.app q3) q2)
theorem callVU (C : Cx Z W own nm code maxL ret) (hd : decode code pc = .ok (.invokevirtual ix, 3)) {y0 : MethodName} {K0 owner : String} {a : Addr} {Qv : Option Value → Heap → List Loc → Prop} (K : Pays l R W y 3 Wn as' h kc nc Qv) (hQ : Clean Z Qc Qv) (E : Exa Z h a K0) (w1 : (Cond.methodLink own ix y0).before a0 Z = true) (w0 : (Cond.sameMethod y0.cls owner y0.name y0.desc).before a0 Z = true) (w2 : (Cond.declares ⟨owner, y0.name, y0.desc⟩).before a0 Z = true) (w3 : (Cond.selects K0 y0 y).before a0 Z = true) (w5 : (Cond.instanceMethod y).before a0 Z = true) (hy : owner ≠ "java/lang/invoke/MethodHandle" ∧ owner ≠ "java/lang/invoke/VarHandle")
    (has : (Value.ref a :: argsL).toArray = as') (hst : argsL.reverse ++ .ref a :: st = st') (hlen : ∀ sig, parseMethodDescriptor y0.desc = some sig → argsL.length = sig.parameters.length) (hsz : Ls.size = maxL) (hW : (st.map fun v => v.category).sum ≤ Wn) (hk : k + kc = k') (hn : n + nc = n') (hk' : k' ≤ R.cells) (hn' : n' ≤ R.slots) (hp : pc + 3 = pc')
    (r : ∀ v h', Qc v h' → Ext Z.heap h' → Run l R Z W Q h' k' n' (mkF W.m pc' Ls (v.toList ++ st))) : Run l R Z W Q h k n (mkF W.m pc Ls st') := by
  subst hp hk hn has hst
  intro T locs X eT N O
  obtain ⟨cq, kq, qa, qb, qc⟩ := isOf C.hZ eT E
  obtain ⟨v, vm₁, ⟨T', L', k', n'⟩, -, X', ⟨L, q0, l1, y1, z1⟩, s'⟩ := X.virtualBackUp C.hx (x := y0) (y := y) C.ow (mvT C.hZ w1) (mvT C.hZ w0) (mvT C.hZ w2) hy (mvT C.hZ w3) (mvT C.hZ w5) K qa qc (g := mkF W.m pc Ls (argsL.reverse ++ .ref a :: st)) rfl (hsz.trans C.ml.symm) (Steps.refl _) (argsL := argsL) (rest := st) hlen rfl (by show 2 * 0 + _ ≤ _; omega) (C.hb hd) (fun _ _ => ⟨rfl, eT, hk', hn'⟩)
  dsimp only [Pt.U, Pt.locs, Pt.cells, Pt.slots] at X' l1 y1 z1 s' q0
  subst l1 y1 z1
  obtain ⟨q1, q2, q3⟩ := hQ _ _ _ q0
  exact Go.step (fun t => s'.trans) (r v T'.heap q1 q2 T' _ X' rfl (N.app q3) q2)
theorem clean0 {Qv : Post} (O : Ext Z.heap h) : Clean Z (fun v h' => Qv v h' ∧ h' = h) (fun v h' L => (Qv v h' ∧ h' = h) ∧ L = []) := fun v h' L q => by
  obtain ⟨⟨q1, rfl⟩, rfl⟩ := q
  exact ⟨⟨q1, rfl⟩, O, Fr.nil _⟩
theorem cleanC {Qc : Post} : Clean Z Qc (fun v h' L => Qc v h' ∧ Ext Z.heap h' ∧ Fr Z.heap.size L) := fun v h' L q => q
end Calls
theorem Ext.refl (h : Heap) : Ext h h := ⟨Nat.le_refl _, fun _ _ q => q⟩
theorem Ext.trans {h1 h2 h3 : Heap} (A : Ext h1 h2) (B : Ext h2 h3) : Ext h1 h3 := ⟨Nat.le_trans A.1 B.1, fun a c q => B.2 a c (A.2 a c q)⟩
theorem Ext.wr {Z : State} {h1 h2 h3 : Heap} {a : Addr} {sl : Nat} {v : Value} (A : Ext h1 h2) (B : Wr h2 h3 a sl v) (q : h1.size ≤ a) : Ext h1 h3 := ((old_of (Z := { Z with heap := h1 }) A).wr B q).2
theorem Ext.keep1 {Z : State} {h1 h2 h3 : Heap} {a : Addr} (A : Ext h1 h2) (B : Keep h2 h3 [a]) (q : h1.size ≤ a) : Ext h1 h3 := ((old_of (Z := { Z with heap := h1 }) A).keep B (allS q all0)).2
theorem Keep.toExt {h1 h2 : Heap} (A : Keep h1 h2 []) : Ext h1 h2 := ⟨A.1, fun a c q => A.2.1 a c q nin0⟩
/-! ## returns -/
theorem Run.leave (C : Cx Z W own nm code maxL ret) {v : Option Value} {f : JFrame} (hv : ret = none → v = none) (q : Q v h) (hk : k ≤ R.cells) (hn : n ≤ R.slots)
    (s' : ∀ T locs, Std l R W T locs k n → ∀ fs, (∀ (f : JFrame) (acts : List Action), f.method = W.m → f.locked = none → f.entered = [] → (doReturn W.e (T.setTop f) acts v).1 = T.setFrames fs) → Steps W.p.tables W.e W.b (T.setTop f) (T.setFrames fs)) : Run l R Z W Q h k n f := by
  intro T locs X eT N O
  have hlk : W.t.locks = false := C.lk
  obtain ⟨fs, hr, hrun, hended, hW, hsame⟩ := X.leave (v := v) (fun hh => hv (C.rt.symm.trans hh))
  have e2 : (T.setFrames fs).heap = h := eT
  exact ⟨_, _, s' T locs X fs hr, hrun, hended, _, _, rfl, ⟨by rw [e2]; exact q, by rw [e2]; exact O, N⟩, ⟨_, rfl⟩, hW, hsame.mono hk hn⟩
theorem retV (C : Cx Z W own nm code maxL none) (hd : decode code pc = .ok (.return_, 1)) (hk : k ≤ R.cells) (hn : n ≤ R.slots) (q : Q none h) : Run l R Z W Q h k n (mkF W.m pc Ls []) :=
  Run.leave C (fun _ => rfl) q hk hn (fun T locs X fs hr => X.returnOut C.hx C.rt (C.hb hd) hr)
theorem retI (C : Cx Z W own nm code maxL (some .int)) (hd : decode code pc = .ok (.ireturn, 1)) {z : Int32} (hk : k ≤ R.cells) (hn : n ≤ R.slots) (q : Q (some (.int z)) h) : Run l R Z W Q h k n (mkF W.m pc Ls (.int z :: st)) :=
  Run.leave C (fun hh => nomatch hh) q hk hn (fun T locs X fs hr => retOut X C.hx C.rt rfl (Or.inl ⟨rfl, Or.inl rfl, z, rfl⟩) (C.hb hd) hr)
theorem retNar {ty : FieldType} (C : Cx Z W own nm code maxL (some ty)) (ht : ty = .boolean ∨ ty = .byte ∨ ty = .char ∨ ty = .short) (hd : decode code pc = .ok (.ireturn, 1)) {z z' : Int32} (hz : nar ty z = z') (hk : k ≤ R.cells) (hn : n ≤ R.slots) (q : Q (some (.int z')) h) : Run l R Z W Q h k n (mkF W.m pc Ls (.int z :: st)) := by
  subst hz
  exact Run.leave C (fun hh => nomatch hh) q hk hn (fun T locs X fs hr => retN X C.hx C.rt ht (C.hb hd) hr)
theorem retL (C : Cx Z W own nm code maxL (some .long)) (hd : decode code pc = .ok (.lreturn, 1)) {z : Int64} (hk : k ≤ R.cells) (hn : n ≤ R.slots) (q : Q (some (.long z)) h) : Run l R Z W Q h k n (mkF W.m pc Ls (.long z :: st)) :=
  Run.leave C (fun hh => nomatch hh) q hk hn (fun T locs X fs hr => retOut X C.hx C.rt rfl (Or.inr (Or.inl ⟨rfl, rfl, z, rfl⟩)) (C.hb hd) hr)
theorem retA {ty : FieldType} {v : Value} (C : Cx Z W own nm code maxL (some ty)) (ht : ty.isReference = true) (hv : v.isRef = true) (hd : decode code pc = .ok (.areturn, 1)) (hk : k ≤ R.cells) (hn : n ≤ R.slots) (q : Q (some v) h) : Run l R Z W Q h k n (mkF W.m pc Ls (v :: st)) :=
  Run.leave C (fun hh => nomatch hh) q hk hn (fun T locs X fs hr => retOut X C.hx C.rt (by rcases ref_cases hv with rfl | ⟨a, rfl⟩ <;> cases ty <;> simp [FieldType.isReference] at ht <;> rfl) (Or.inr (Or.inr (Or.inr (Or.inr ⟨rfl, ht, hv⟩)))) (C.hb hd) hr)
end Kit
end Wk

def Ws (a0 : Array Value) (Z : State) : Prop := ∀ d ∈ tables_1, d.before a0 Z = true
theorem Wk.nar_i2c {x v : Int32} (h : x.toUInt32.toUInt16.toUInt32.toInt32 = v) : nar .char v = v := by subst h; simp only [nar, UInt32.toUInt32_toInt32, UInt16.toUInt16_toUInt32]
theorem Wk.nar_i2b {x v : Int32} (h : x.toInt8.toInt32 = v) : nar .byte v = v := by
  subst h
  show x.toInt8.toInt32.toInt8.toInt32 = _
  simp
theorem Wk.catR {v : Value} (h : v.isRef = true) : v.category = 1 := by rcases ref_cases h with rfl | ⟨a, rfl⟩ <;> rfl
theorem Wk.narR {v : Value} {t : FieldType} (h : v.isRef = true) (ht : t.isReference = true) : narrow t v = v := by rcases ref_cases h with rfl | ⟨a, rfl⟩ <;> cases t <;> simp [FieldType.isReference] at ht <;> rfl
theorem Wk.fitR {v : Value} {t : FieldType} (h : v.isRef = true) (ht : t.isReference = true) : fits t v = true := by rcases ref_cases h with rfl | ⟨a, rfl⟩ <;> cases t <;> simp [FieldType.isReference] at ht <;> rfl
theorem Wk.rng255 {p v w : Int32} (h : p &&& 255 = v) (h' : v.toUInt32.toUInt16.toUInt32.toInt32 = w) : ¬ w < 0 ∧ ¬ (255 : Int32) < w := by
  subst h h'
  rw [i2c_mask, Int32.lt_iff_toInt_lt, Int32.lt_iff_toInt_lt, c_mask p 255 8 (by decide) (by decide)]
  have : (0 : Int32).toInt = 0 := by decide
  have : (255 : Int32).toInt = 255 := by decide
  omega
theorem Wk.rng255L {p a : Int64} {b w : Int32} (h : p &&& 255 = a) (h1 : a.toInt32 = b) (h' : b.toUInt32.toUInt16.toUInt32.toInt32 = w) : ¬ w < 0 ∧ ¬ (255 : Int32) < w := by
  subst h h1 h'
  have a1 := c_maskL p 255 8 (by decide) (by decide)
  have a2 := c_l2i (p &&& 255)
  have a3 := c_i2c (p &&& 255).toInt32
  have a4 := rng32 (p &&& 255).toInt32
  have e0 : (0 : Int32).toInt = 0 := by decide
  have e1 : (255 : Int32).toInt = 255 := by decide
  rw [Int32.lt_iff_toInt_lt, Int32.lt_iff_toInt_lt]
  omega
theorem Wk.ord {args : Array Value} {s : State} {t : Term} {a : Addr} {C n : String} {k : Int32} (ht : t.eval args s none [] s = some (.ref a)) (h : (Jvm.Cond.eq (.field t C n "I") (.int k)).value args s none s [] = some true) : Fld s s.heap a C n "I" (.int k) := by
  obtain ⟨x, y, e1, e2, -, kin⟩ := cmp_v (Or.inl h)
  cases (Term.int_eval k).symm.trans e2
  obtain ⟨z, rfl⟩ := kin
  cases gotT (Cond.eq_ints e1 e2) h
  exact Fld.start ((fld_at ht).symm.trans e1)
theorem Wk.ordB {args : Array Value} {s : State} {t : Term} {a : Addr} {C n : String} {k : Int32} (ht : t.eval args s none [] s = some (.ref a)) (h : (Jvm.Cond.eq (.field t C n "B") (.int k)).value args s none s [] = some true) : Fld s s.heap a C n "B" (.int k) := by
  obtain ⟨x, y, e1, e2, -, kin⟩ := cmp_v (Or.inl h)
  cases (Term.int_eval k).symm.trans e2
  obtain ⟨z, rfl⟩ := kin
  cases gotT (Cond.eq_ints e1 e2) h
  exact Fld.start ((fld_at ht).symm.trans e1)
theorem Wk.nar_rng {c : Int32} (h : ¬ c < 0 ∧ ¬ (255 : Int32) < c) : nar .char c = c := by
  show c.toUInt32.toUInt16.toUInt32.toInt32 = c
  have h1 := c_i2c c
  obtain ⟨h2, h3⟩ := h
  rw [Int32.lt_iff_toInt_lt] at h2 h3
  have e0 : (0 : Int32).toInt = 0 := by decide
  have e1 : (255 : Int32).toInt = 255 := by decide
  exact Int32.toInt_inj.mp (by omega)
theorem Wk.mask31 {f v : Int32} (h : f &&& 2147483647 = v) : 0 ≤ v.toInt := by
  subst h
  rw [c_mask f 2147483647 31 (by decide) (by decide)]
  omega
theorem Wk.modr {v d w : Int32} (h0 : 0 ≤ v.toInt) (hd : 0 < d.toInt) (h : v % d = w) : 0 ≤ w.toInt ∧ w.toInt < d.toInt := by
  subst h
  have q := (c_iremV v d).1 h0 hd
  exact ⟨q.1, q.2.1⟩
theorem Wk.addI {x y v : Int32} (h : x + y = v) : (v.toInt - (x.toInt + y.toInt)) % 4294967296 = 0 := h ▸ c_iadd x y
theorem Wk.subI {x y v : Int32} (h : x - y = v) : (v.toInt - (x.toInt - y.toInt)) % 4294967296 = 0 := h ▸ c_isub x y
theorem Wk.mulI {x y v : Int32} (h : x * y = v) : (v.toInt - (x.toInt * y.toInt)) % 4294967296 = 0 := h ▸ c_imul x y
theorem Wk.eqI {x y : Int32} (h : x.toInt = y.toInt) : x = y := Int32.toInt_inj.mp h
theorem Wk.ltI {x y : Int32} : x < y ↔ x.toInt < y.toInt := Int32.lt_iff_toInt_lt
theorem Wk.nn {x : Int32} (h : 0 ≤ x.toInt) : ¬ x < 0 := by
  have e0 : (0 : Int32).toInt = 0 := by decide
  rw [Wk.ltI]; omega
theorem Wk.clamp {x : Int32} (h : 0 ≤ x.toInt) : (x.toNatClampNeg : Int) = x.toInt := (nat_of (Wk.nn h)).symm
theorem Wk.ofNat {x : Int32} (h : 0 ≤ x.toInt) : x = Int32.ofNat x.toNatClampNeg := ((back32 (Wk.nn h)).1).symm
theorem Wk.getd {cs : List Int32} {i : Nat} (h : i < cs.length) : (cs.map Value.int)[i]? = some (.int (cs.getD i 0)) := by simp [List.getD_eq_getElem?_getD, h]
theorem Wk.nat32 {n : Nat} (h : n ≤ 4000) : (Int32.ofNat n).toInt = n ∧ (Int32.ofNat n).toNatClampNeg = n := ⟨Int32.toInt_ofNat_of_lt (by omega), Int32.toNatClampNeg_ofNat_of_lt (by omega)⟩
theorem Wk.succ32 {n : Nat} (h : n < 4000) : Int32.ofNat n + Int32.ofInt 1 = Int32.ofNat (n + 1) := by
  have a := c_iadd (Int32.ofNat n) 1
  have b := rng32 (Int32.ofNat n + 1)
  have c1 : (1 : Int32).toInt = 1 := by decide
  have c2 := (Wk.nat32 (n := n) (by omega)).1
  have c3 := (Wk.nat32 (n := n + 1) (by omega)).1
  exact Wk.eqI (by show (Int32.ofNat n + 1).toInt = _; omega)
theorem Wk.orE {args : Array Value} {s : State} {idx : List Nat} {c d : Cond} (h : (Cond.or c d).value args s none s idx = some true) : c.value args s none s idx = some true ∨ d.value args s none s idx = some true := by
  simp only [Cond.value] at h
  cases h1 : c.value args s none s idx with
  | none => simp [h1] at h
  | some x => cases x <;> simp [h1] at h ⊢ <;> exact h
theorem Wk.elemI {args : Array Value} {s : State} {t u : Term} {a : Addr} {cl : Cell} {ty : FieldType} {i : Nat} {v : Int32} (ht : t.eval args s none [i] s = some (.ref a)) (A : Arr s s.heap a cl ty) (hu : u.eval args s none [i] s = some (.int v)) (hi : i.toInt32.toNatClampNeg = i) (h : (Jvm.Cond.eq (.elem t (.index 0)) u).value args s none s [i] = some true) : cl.slots[i]? = some (.int v) := by
  obtain ⟨x, y, e1, e2, -, kin⟩ := cmp_v (Or.inl h)
  cases hu.symm.trans e2
  obtain ⟨z, rfl⟩ := kin
  cases gotT (Cond.eq_ints e1 e2) h
  have q := (elem_in e1 ht (show (Term.index 0).eval args s none [i] s = some (.int i.toInt32) from rfl) A.1).2
  rwa [hi] at q
theorem Wk.aryT {Z : State} {h : Heap} {a : Addr} {cl : Cell} {ty : FieldType} {f : Nat → Int32} {n : Nat} {z : Int32} (A : Arr Z h a cl ty) (hn : cl.slots.size < 2 ^ 31 ∧ cl.slots.size.toInt32 = z) (hl : z.toNatClampNeg = n) (H : ∀ i, i < n → cl.slots[i]? = some (.int (f i))) (hf : ∀ i, i < n → fits ty (.int (f i)) = true) : Wk.Ary Z h a ty ((List.range n).map fun i => .int (f i)) := by
  have hs : cl.slots.size = n := by
    rw [← hl, ← hn.2]
    exact (Int32.toNatClampNeg_ofNat_of_lt hn.1).symm
  refine ⟨cl, A, ?_, by simpa [hs] using hn.1, ?_⟩
  · apply Array.ext
    · simpa using hs
    · intro i h1 h2
      have q := H i (by omega)
      rw [Array.getElem?_eq_getElem h1] at q
      simpa using q
  · intro v hv
    obtain ⟨i, hi, rfl⟩ := List.mem_map.mp hv
    exact hf i (List.mem_range.mp hi)
theorem Wk.lenS {args : Array Value} {s : State} {t : Term} {a : Addr} {cl : Cell} {ty : FieldType} {n : Int32} (ht : t.eval args s none [] s = some (.ref a)) (A : Arr s s.heap a cl ty) (h : (Jvm.Cond.eq (.length t) (.int n)).value args s none s [] = some true) : cl.slots.size < 2 ^ 31 ∧ cl.slots.size.toInt32 = n := by
  obtain ⟨x, y, e1, e2, -, kin⟩ := cmp_v (Or.inl h)
  cases (Term.int_eval n).symm.trans e2
  obtain ⟨z, rfl⟩ := kin
  have e3 := gotT (Cond.eq_ints e1 e2) h
  have ha : s.arrayAt? a = some cl := A.fin (Vm.Alike.refl _)
  by_cases q : cl.slots.size < 2 ^ 31
  · refine ⟨q, ?_⟩
    have e4 := len_f ht ha q
    rw [e4] at e1
    cases e1
    exact e3
  · simp [Term.eval, ht, ha, q] at e1
theorem Wk.elemS {args : Array Value} {s : State} {t : Term} {a : Addr} {cl : Cell} {ty : FieldType} {j v : Int32} (ht : t.eval args s none [] s = some (.ref a)) (A : Arr s s.heap a cl ty) (h : (Jvm.Cond.eq (.elem t (.int j)) (.int v)).value args s none s [] = some true) : cl.slots[j.toNatClampNeg]? = some (.int v) := by
  obtain ⟨x, y, e1, e2, -, kin⟩ := cmp_v (Or.inl h)
  cases (Term.int_eval v).symm.trans e2
  obtain ⟨z, rfl⟩ := kin
  cases gotT (Cond.eq_ints e1 e2) h
  exact (elem_in e1 ht (Term.int_eval j) A.1).2
theorem Wk.elemR {args : Array Value} {s : State} {t u : Term} {a b : Addr} {cl : Cell} {ty : FieldType} {j : Int32} (ht : t.eval args s none [] s = some (.ref a)) (hu : u.eval args s none [] s = some (.ref b)) (A : Arr s s.heap a cl ty) (h : (Jvm.Cond.eq (.elem t (.int j)) u).value args s none s [] = some true) : cl.slots[j.toNatClampNeg]? = some (.ref b) := by
  obtain ⟨x, y, e1, e2, -, kin⟩ := cmp_v (Or.inl h)
  cases hu.symm.trans e2
  cases gotT (eq_R e1 e2 kin.2 rfl) h
  exact (elem_in e1 ht (Term.int_eval j) A.1).2
theorem Wk.aryS {Z : State} {h : Heap} {a : Addr} {cl : Cell} {ty : FieldType} {vs : List Value} {n : Int32} (A : Arr Z h a cl ty) (hn : cl.slots.size < 2 ^ 31 ∧ cl.slots.size.toInt32 = n) (hl : n.toNatClampNeg = vs.length) (H : HasL cl 0 vs) (hf : ∀ v ∈ vs, fits ty v = true) : Wk.Ary Z h a ty vs := by
  have hs : cl.slots.size = vs.length := by
    rw [← hl, ← hn.2]
    exact (Int32.toNatClampNeg_ofNat_of_lt hn.1).symm
  refine ⟨cl, A, ?_, by omega, hf⟩
  apply Array.ext
  · simpa using hs
  · intro i h1 h2
    have q := HasL.at (dv := .null) vs 0 H i (by omega)
    rw [Nat.zero_add, Array.getElem?_eq_getElem h1] at q
    have h3 : i < vs.length := by omega
    simpa [List.getD_eq_getElem?_getD, h3] using q
abbrev StN : String := "java/lang/String"
abbrev PcN : String := "jdk/internal/util/Preconditions"
/-- the named sets of the JDK's statics, at the start -/
def Sets (Z : State) : Prop := ∃ (z : Int32) (fm : Value), Sta Z Z.heap StN "COMPACT_STRINGS" "Z" (.int z) ∧ ¬ z = 0 ∧ Sta Z Z.heap PcN "SIOOBE_FORMATTER" "Ljava/util/function/BiFunction;" fm ∧ fm.isRef = true
theorem w0 {a0 : Array Value} {Z : State} (hw : Ws a0 Z) : (Jvm.Cond.arrayClass Jvm.ClassFile.FieldType.char).before a0 Z = true := hw _ (List.mem_of_getElem? (i := 0) rfl)
theorem w1 {a0 : Array Value} {Z : State} (hw : Ws a0 Z) : (Jvm.Cond.constantLong "com/example/scopegate/scopegate/token/Base64UrlIsCanonicalPinLaw" (7 : Nat) (255 : Int64)).before a0 Z = true := hw _ (List.mem_of_getElem? (i := 1) rfl)
theorem w2 {a0 : Array Value} {Z : State} (hw : Ws a0 Z) : (Jvm.Cond.classLink "com/example/scopegate/scopegate/token/Base64UrlIsCanonicalPinLaw" (9 : Nat) "java/lang/String").before a0 Z = true := hw _ (List.mem_of_getElem? (i := 2) rfl)
theorem w3 {a0 : Array Value} {Z : State} (hw : Ws a0 Z) : (Jvm.Cond.instantiable "java/lang/String" (4 : Nat)).before a0 Z = true := hw _ (List.mem_of_getElem? (i := 3) rfl)
theorem w4 {a0 : Array Value} {Z : State} (hw : Ws a0 Z) : (Jvm.Cond.initialized "java/lang/String").before a0 Z = true := hw _ (List.mem_of_getElem? (i := 4) rfl)
theorem w5 {a0 : Array Value} {Z : State} (hw : Ws a0 Z) : (Jvm.Cond.methodLink "com/example/scopegate/scopegate/token/Base64UrlIsCanonicalPinLaw" (11 : Nat) ({ cls := "java/lang/String", name := "<init>", desc := "([C)V" } : Jvm.MethodName)).before a0 Z = true := hw _ (List.mem_of_getElem? (i := 5) rfl)
theorem w6 {a0 : Array Value} {Z : State} (hw : Ws a0 Z) : (Jvm.Cond.instanceMethod ({ cls := "java/lang/String", name := "<init>", desc := "([C)V" } : Jvm.MethodName)).before a0 Z = true := hw _ (List.mem_of_getElem? (i := 6) rfl)
theorem w7 {a0 : Array Value} {Z : State} (hw : Ws a0 Z) : (Jvm.Cond.code ({ cls := "java/lang/String", name := "<init>", desc := "([C)V" } : Jvm.MethodName) jdk_42_method_3_code (2 : Nat) (Option.none : Option Jvm.ClassFile.FieldType)).before a0 Z = true := hw _ (List.mem_of_getElem? (i := 7) rfl)
theorem w28 {a0 : Array Value} {Z : State} (hw : Ws a0 Z) : (Jvm.Cond.laysFinal "java/lang/String" "java/lang/String" "coder" "B").before a0 Z = true := hw _ (List.mem_of_getElem? (i := 28) rfl)
theorem w30 {a0 : Array Value} {Z : State} (hw : Ws a0 Z) : (Jvm.Cond.laysFinal "java/lang/String" "java/lang/String" "value" "[B").before a0 Z = true := hw _ (List.mem_of_getElem? (i := 30) rfl)
theorem w31 {a0 : Array Value} {Z : State} (hw : Ws a0 Z) : (Jvm.Cond.constant "com/example/scopegate/scopegate/token/Base64UrlIsCanonicalPinLaw" (14 : Nat) (2147483647 : Int32)).before a0 Z = true := hw _ (List.mem_of_getElem? (i := 31) rfl)
theorem w32 {a0 : Array Value} {Z : State} (hw : Ws a0 Z) : (Jvm.Cond.methodLink "com/example/scopegate/scopegate/token/Base64UrlIsCanonicalPinLaw" (15 : Nat) ({ cls := "com/example/scopegate/scopegate/token/Base64Url", name := "isCanonical", desc := "(Ljava/lang/String;II)Z" } : Jvm.MethodName)).before a0 Z = true := hw _ (List.mem_of_getElem? (i := 32) rfl)
theorem w33 {a0 : Array Value} {Z : State} (hw : Ws a0 Z) : (Jvm.Cond.static ({ cls := "com/example/scopegate/scopegate/token/Base64Url", name := "isCanonical", desc := "(Ljava/lang/String;II)Z" } : Jvm.MethodName)).before a0 Z = true := hw _ (List.mem_of_getElem? (i := 33) rfl)
theorem w34 {a0 : Array Value} {Z : State} (hw : Ws a0 Z) : (Jvm.Cond.initialized "com/example/scopegate/scopegate/token/Base64Url").before a0 Z = true := hw _ (List.mem_of_getElem? (i := 34) rfl)
theorem w35 {a0 : Array Value} {Z : State} (hw : Ws a0 Z) : (Jvm.Cond.code ({ cls := "com/example/scopegate/scopegate/token/Base64Url", name := "isCanonical", desc := "(Ljava/lang/String;II)Z" } : Jvm.MethodName) prog_15_method_3_code (5 : Nat) (Option.some Jvm.ClassFile.FieldType.boolean)).before a0 Z = true := hw _ (List.mem_of_getElem? (i := 35) rfl)
theorem w36 {a0 : Array Value} {Z : State} (hw : Ws a0 Z) : (Jvm.Cond.methodLink "com/example/scopegate/scopegate/token/Base64Url" (19 : Nat) ({ cls := "java/lang/String", name := "charAt", desc := "(I)C" } : Jvm.MethodName)).before a0 Z = true := hw _ (List.mem_of_getElem? (i := 36) rfl)
theorem w37 {a0 : Array Value} {Z : State} (hw : Ws a0 Z) : (Jvm.Cond.declares ({ cls := "java/lang/String", name := "charAt", desc := "(I)C" } : Jvm.MethodName)).before a0 Z = true := hw _ (List.mem_of_getElem? (i := 37) rfl)
theorem w38 {a0 : Array Value} {Z : State} (hw : Ws a0 Z) : (Jvm.Cond.instanceMethod ({ cls := "java/lang/String", name := "charAt", desc := "(I)C" } : Jvm.MethodName)).before a0 Z = true := hw _ (List.mem_of_getElem? (i := 38) rfl)
theorem w39 {a0 : Array Value} {Z : State} (hw : Ws a0 Z) : (Jvm.Cond.selects "java/lang/String" ({ cls := "java/lang/String", name := "charAt", desc := "(I)C" } : Jvm.MethodName) ({ cls := "java/lang/String", name := "charAt", desc := "(I)C" } : Jvm.MethodName)).before a0 Z = true := hw _ (List.mem_of_getElem? (i := 39) rfl)
theorem w40 {a0 : Array Value} {Z : State} (hw : Ws a0 Z) : (Jvm.Cond.code ({ cls := "java/lang/String", name := "charAt", desc := "(I)C" } : Jvm.MethodName) jdk_42_method_56_code (2 : Nat) (Option.some Jvm.ClassFile.FieldType.char)).before a0 Z = true := hw _ (List.mem_of_getElem? (i := 40) rfl)
theorem w58 {a0 : Array Value} {Z : State} (hw : Ws a0 Z) : (Jvm.Cond.methodLink "com/example/scopegate/scopegate/token/Base64Url" (23 : Nat) ({ cls := "com/example/scopegate/scopegate/token/Base64Url", name := "value", desc := "(C)I" } : Jvm.MethodName)).before a0 Z = true := hw _ (List.mem_of_getElem? (i := 58) rfl)
theorem w59 {a0 : Array Value} {Z : State} (hw : Ws a0 Z) : (Jvm.Cond.static ({ cls := "com/example/scopegate/scopegate/token/Base64Url", name := "value", desc := "(C)I" } : Jvm.MethodName)).before a0 Z = true := hw _ (List.mem_of_getElem? (i := 59) rfl)
theorem w60 {a0 : Array Value} {Z : State} (hw : Ws a0 Z) : (Jvm.Cond.code ({ cls := "com/example/scopegate/scopegate/token/Base64Url", name := "value", desc := "(C)I" } : Jvm.MethodName) prog_15_method_5_code (1 : Nat) (Option.some Jvm.ClassFile.FieldType.int)).before a0 Z = true := hw _ (List.mem_of_getElem? (i := 60) rfl)
theorem w61 {a0 : Array Value} {Z : State} (hw : Ws a0 Z) : (Jvm.Cond.fieldLink "com/example/scopegate/scopegate/token/Base64Url" (41 : Nat) "com/example/scopegate/scopegate/token/Base64Url" "VALUES" "[B").before a0 Z = true := hw _ (List.mem_of_getElem? (i := 61) rfl)
theorem w62 {a0 : Array Value} {Z : State} (hw : Ws a0 Z) : (Jvm.Cond.laysStatic "com/example/scopegate/scopegate/token/Base64Url" "VALUES" "[B").before a0 Z = true := hw _ (List.mem_of_getElem? (i := 62) rfl)
theorem w63 {a0 : Array Value} {Z : State} (hw : Ws a0 Z) : (Jvm.Cond.methodLink "com/example/scopegate/scopegate/token/Base64UrlIsCanonicalPinLaw" (21 : Nat) ({ cls := "com/example/scopegate/scopegate/token/Base64UrlIsCanonicalPinLaw", name := "expected", desc := "([CII)Z" } : Jvm.MethodName)).before a0 Z = true := hw _ (List.mem_of_getElem? (i := 63) rfl)
theorem w64 {a0 : Array Value} {Z : State} (hw : Ws a0 Z) : (Jvm.Cond.static ({ cls := "com/example/scopegate/scopegate/token/Base64UrlIsCanonicalPinLaw", name := "expected", desc := "([CII)Z" } : Jvm.MethodName)).before a0 Z = true := hw _ (List.mem_of_getElem? (i := 64) rfl)
theorem w65 {a0 : Array Value} {Z : State} (hw : Ws a0 Z) : (Jvm.Cond.initialized "com/example/scopegate/scopegate/token/Base64UrlIsCanonicalPinLaw").before a0 Z = true := hw _ (List.mem_of_getElem? (i := 65) rfl)
theorem w66 {a0 : Array Value} {Z : State} (hw : Ws a0 Z) : (Jvm.Cond.code ({ cls := "com/example/scopegate/scopegate/token/Base64UrlIsCanonicalPinLaw", name := "expected", desc := "([CII)Z" } : Jvm.MethodName) method_6_code (7 : Nat) (Option.some Jvm.ClassFile.FieldType.boolean)).before a0 Z = true := hw _ (List.mem_of_getElem? (i := 66) rfl)
theorem w67 {a0 : Array Value} {Z : State} (hw : Ws a0 Z) : (Jvm.Cond.methodLink "com/example/scopegate/scopegate/token/Base64UrlIsCanonicalPinLaw" (31 : Nat) ({ cls := "com/example/scopegate/scopegate/token/Base64UrlIsCanonicalPinLaw", name := "okAt", desc := "([CIII)Z" } : Jvm.MethodName)).before a0 Z = true := hw _ (List.mem_of_getElem? (i := 67) rfl)
theorem w68 {a0 : Array Value} {Z : State} (hw : Ws a0 Z) : (Jvm.Cond.static ({ cls := "com/example/scopegate/scopegate/token/Base64UrlIsCanonicalPinLaw", name := "okAt", desc := "([CIII)Z" } : Jvm.MethodName)).before a0 Z = true := hw _ (List.mem_of_getElem? (i := 68) rfl)
theorem w69 {a0 : Array Value} {Z : State} (hw : Ws a0 Z) : (Jvm.Cond.code ({ cls := "com/example/scopegate/scopegate/token/Base64UrlIsCanonicalPinLaw", name := "okAt", desc := "([CIII)Z" } : Jvm.MethodName) method_5_code (4 : Nat) (Option.some Jvm.ClassFile.FieldType.boolean)).before a0 Z = true := hw _ (List.mem_of_getElem? (i := 69) rfl)
theorem w70 {a0 : Array Value} {Z : State} (hw : Ws a0 Z) : (Jvm.Cond.methodLink "com/example/scopegate/scopegate/token/Base64UrlIsCanonicalPinLaw" (27 : Nat) ({ cls := "com/example/scopegate/scopegate/token/Base64UrlIsCanonicalPinLaw", name := "valid", desc := "(C)Z" } : Jvm.MethodName)).before a0 Z = true := hw _ (List.mem_of_getElem? (i := 70) rfl)
theorem w71 {a0 : Array Value} {Z : State} (hw : Ws a0 Z) : (Jvm.Cond.static ({ cls := "com/example/scopegate/scopegate/token/Base64UrlIsCanonicalPinLaw", name := "valid", desc := "(C)Z" } : Jvm.MethodName)).before a0 Z = true := hw _ (List.mem_of_getElem? (i := 71) rfl)
theorem w72 {a0 : Array Value} {Z : State} (hw : Ws a0 Z) : (Jvm.Cond.code ({ cls := "com/example/scopegate/scopegate/token/Base64UrlIsCanonicalPinLaw", name := "valid", desc := "(C)Z" } : Jvm.MethodName) method_3_code (1 : Nat) (Option.some Jvm.ClassFile.FieldType.boolean)).before a0 Z = true := hw _ (List.mem_of_getElem? (i := 72) rfl)
theorem w73 {a0 : Array Value} {Z : State} (hw : Ws a0 Z) : (Jvm.Cond.methodLink "com/example/scopegate/scopegate/token/Base64UrlIsCanonicalPinLaw" (35 : Nat) ({ cls := "com/example/scopegate/scopegate/token/Base64UrlIsCanonicalPinLaw", name := "sixBits", desc := "(C)I" } : Jvm.MethodName)).before a0 Z = true := hw _ (List.mem_of_getElem? (i := 73) rfl)
theorem w74 {a0 : Array Value} {Z : State} (hw : Ws a0 Z) : (Jvm.Cond.static ({ cls := "com/example/scopegate/scopegate/token/Base64UrlIsCanonicalPinLaw", name := "sixBits", desc := "(C)I" } : Jvm.MethodName)).before a0 Z = true := hw _ (List.mem_of_getElem? (i := 74) rfl)
theorem w75 {a0 : Array Value} {Z : State} (hw : Ws a0 Z) : (Jvm.Cond.code ({ cls := "com/example/scopegate/scopegate/token/Base64UrlIsCanonicalPinLaw", name := "sixBits", desc := "(C)I" } : Jvm.MethodName) method_4_code (1 : Nat) (Option.some Jvm.ClassFile.FieldType.int)).before a0 Z = true := hw _ (List.mem_of_getElem? (i := 75) rfl)
theorem d_method_3_0 : decode method_3_code 0 = .ok (.iload_n 0, 1) := by decide +kernel
theorem d_method_3_1 : decode method_3_code 1 = .ok (.bipush 65, 2) := by decide +kernel
theorem d_method_3_3 : decode method_3_code 3 = .ok (.if_icmp .lt 9, 3) := by decide +kernel
theorem d_method_3_12 : decode method_3_code 12 = .ok (.iload_n 0, 1) := by decide +kernel
theorem d_method_3_13 : decode method_3_code 13 = .ok (.bipush 97, 2) := by decide +kernel
theorem d_method_3_15 : decode method_3_code 15 = .ok (.if_icmp .lt 9, 3) := by decide +kernel
theorem d_method_3_24 : decode method_3_code 24 = .ok (.iload_n 0, 1) := by decide +kernel
theorem d_method_3_25 : decode method_3_code 25 = .ok (.bipush 48, 2) := by decide +kernel
theorem d_method_3_27 : decode method_3_code 27 = .ok (.if_icmp .lt 9, 3) := by decide +kernel
theorem d_method_3_36 : decode method_3_code 36 = .ok (.iload_n 0, 1) := by decide +kernel
theorem d_method_3_37 : decode method_3_code 37 = .ok (.bipush 45, 2) := by decide +kernel
theorem d_method_3_39 : decode method_3_code 39 = .ok (.if_icmp .eq 9, 3) := by decide +kernel
theorem d_method_3_48 : decode method_3_code 48 = .ok (.iconst 1, 1) := by decide +kernel
theorem d_method_3_49 : decode method_3_code 49 = .ok (.goto 4, 3) := by decide +kernel
theorem d_method_3_53 : decode method_3_code 53 = .ok (.ireturn, 1) := by decide +kernel
theorem d_method_3_42 : decode method_3_code 42 = .ok (.iload_n 0, 1) := by decide +kernel
theorem d_method_3_43 : decode method_3_code 43 = .ok (.bipush 95, 2) := by decide +kernel
theorem d_method_3_45 : decode method_3_code 45 = .ok (.if_icmp .ne 7, 3) := by decide +kernel
theorem d_method_3_52 : decode method_3_code 52 = .ok (.iconst 0, 1) := by decide +kernel
theorem d_method_3_30 : decode method_3_code 30 = .ok (.iload_n 0, 1) := by decide +kernel
theorem d_method_3_31 : decode method_3_code 31 = .ok (.bipush 57, 2) := by decide +kernel
theorem d_method_3_33 : decode method_3_code 33 = .ok (.if_icmp .le 15, 3) := by decide +kernel
theorem d_method_3_18 : decode method_3_code 18 = .ok (.iload_n 0, 1) := by decide +kernel
theorem d_method_3_19 : decode method_3_code 19 = .ok (.bipush 122, 2) := by decide +kernel
theorem d_method_3_21 : decode method_3_code 21 = .ok (.if_icmp .le 27, 3) := by decide +kernel
theorem d_method_3_6 : decode method_3_code 6 = .ok (.iload_n 0, 1) := by decide +kernel
theorem d_method_3_7 : decode method_3_code 7 = .ok (.bipush 90, 2) := by decide +kernel
theorem d_method_3_9 : decode method_3_code 9 = .ok (.if_icmp .le 39, 3) := by decide +kernel
theorem d_method_4_0 : decode method_4_code 0 = .ok (.iload_n 0, 1) := by decide +kernel
theorem d_method_4_1 : decode method_4_code 1 = .ok (.bipush 65, 2) := by decide +kernel
theorem d_method_4_3 : decode method_4_code 3 = .ok (.if_icmp .lt 14, 3) := by decide +kernel
theorem d_method_4_17 : decode method_4_code 17 = .ok (.iload_n 0, 1) := by decide +kernel
theorem d_method_4_18 : decode method_4_code 18 = .ok (.bipush 97, 2) := by decide +kernel
theorem d_method_4_20 : decode method_4_code 20 = .ok (.if_icmp .lt 17, 3) := by decide +kernel
theorem d_method_4_37 : decode method_4_code 37 = .ok (.iload_n 0, 1) := by decide +kernel
theorem d_method_4_38 : decode method_4_code 38 = .ok (.bipush 48, 2) := by decide +kernel
theorem d_method_4_40 : decode method_4_code 40 = .ok (.if_icmp .lt 17, 3) := by decide +kernel
theorem d_method_4_57 : decode method_4_code 57 = .ok (.iload_n 0, 1) := by decide +kernel
theorem d_method_4_58 : decode method_4_code 58 = .ok (.bipush 45, 2) := by decide +kernel
theorem d_method_4_60 : decode method_4_code 60 = .ok (.if_icmp .ne 6, 3) := by decide +kernel
theorem d_method_4_66 : decode method_4_code 66 = .ok (.bipush 63, 2) := by decide +kernel
theorem d_method_4_68 : decode method_4_code 68 = .ok (.ireturn, 1) := by decide +kernel
theorem d_method_4_63 : decode method_4_code 63 = .ok (.bipush 62, 2) := by decide +kernel
theorem d_method_4_65 : decode method_4_code 65 = .ok (.ireturn, 1) := by decide +kernel
theorem d_method_4_43 : decode method_4_code 43 = .ok (.iload_n 0, 1) := by decide +kernel
theorem d_method_4_44 : decode method_4_code 44 = .ok (.bipush 57, 2) := by decide +kernel
theorem d_method_4_46 : decode method_4_code 46 = .ok (.if_icmp .gt 11, 3) := by decide +kernel
theorem d_method_4_49 : decode method_4_code 49 = .ok (.iload_n 0, 1) := by decide +kernel
theorem d_method_4_50 : decode method_4_code 50 = .ok (.bipush 48, 2) := by decide +kernel
theorem d_method_4_52 : decode method_4_code 52 = .ok (.isub, 1) := by decide +kernel
theorem d_method_4_53 : decode method_4_code 53 = .ok (.bipush 52, 2) := by decide +kernel
theorem d_method_4_55 : decode method_4_code 55 = .ok (.iadd, 1) := by decide +kernel
theorem d_method_4_56 : decode method_4_code 56 = .ok (.ireturn, 1) := by decide +kernel
theorem d_method_4_23 : decode method_4_code 23 = .ok (.iload_n 0, 1) := by decide +kernel
theorem d_method_4_24 : decode method_4_code 24 = .ok (.bipush 122, 2) := by decide +kernel
theorem d_method_4_26 : decode method_4_code 26 = .ok (.if_icmp .gt 11, 3) := by decide +kernel
theorem d_method_4_29 : decode method_4_code 29 = .ok (.iload_n 0, 1) := by decide +kernel
theorem d_method_4_30 : decode method_4_code 30 = .ok (.bipush 97, 2) := by decide +kernel
theorem d_method_4_32 : decode method_4_code 32 = .ok (.isub, 1) := by decide +kernel
theorem d_method_4_33 : decode method_4_code 33 = .ok (.bipush 26, 2) := by decide +kernel
theorem d_method_4_35 : decode method_4_code 35 = .ok (.iadd, 1) := by decide +kernel
theorem d_method_4_36 : decode method_4_code 36 = .ok (.ireturn, 1) := by decide +kernel
theorem d_method_4_6 : decode method_4_code 6 = .ok (.iload_n 0, 1) := by decide +kernel
theorem d_method_4_7 : decode method_4_code 7 = .ok (.bipush 90, 2) := by decide +kernel
theorem d_method_4_9 : decode method_4_code 9 = .ok (.if_icmp .gt 8, 3) := by decide +kernel
theorem d_method_4_12 : decode method_4_code 12 = .ok (.iload_n 0, 1) := by decide +kernel
theorem d_method_4_13 : decode method_4_code 13 = .ok (.bipush 65, 2) := by decide +kernel
theorem d_method_4_15 : decode method_4_code 15 = .ok (.isub, 1) := by decide +kernel
theorem d_method_4_16 : decode method_4_code 16 = .ok (.ireturn, 1) := by decide +kernel
theorem d_prog_15m5_0 : decode prog_15_method_5_code 0 = .ok (.iload_n 0, 1) := by decide +kernel
theorem d_prog_15m5_1 : decode prog_15_method_5_code 1 = .ok (.getstatic 41, 3) := by decide +kernel
theorem d_prog_15m5_4 : decode prog_15_method_5_code 4 = .ok (.arraylength, 1) := by decide +kernel
theorem d_prog_15m5_5 : decode prog_15_method_5_code 5 = .ok (.if_icmp .ge 11, 3) := by decide +kernel
theorem d_prog_15m5_16 : decode prog_15_method_5_code 16 = .ok (.iconst (-1), 1) := by decide +kernel
theorem d_prog_15m5_17 : decode prog_15_method_5_code 17 = .ok (.ireturn, 1) := by decide +kernel
theorem d_prog_15m5_8 : decode prog_15_method_5_code 8 = .ok (.getstatic 41, 3) := by decide +kernel
theorem d_prog_15m5_11 : decode prog_15_method_5_code 11 = .ok (.iload_n 0, 1) := by decide +kernel
theorem d_prog_15m5_12 : decode prog_15_method_5_code 12 = .ok (.baload, 1) := by decide +kernel
theorem d_prog_15m5_13 : decode prog_15_method_5_code 13 = .ok (.goto 4, 3) := by decide +kernel
theorem d_method_5_0 : decode method_5_code 0 = .ok (.iload_n 1, 1) := by decide +kernel
theorem d_method_5_1 : decode method_5_code 1 = .ok (.iload_n 2, 1) := by decide +kernel
theorem d_method_5_2 : decode method_5_code 2 = .ok (.if_icmp .lt 17, 3) := by decide +kernel
theorem d_method_5_19 : decode method_5_code 19 = .ok (.iconst 1, 1) := by decide +kernel
theorem d_method_5_20 : decode method_5_code 20 = .ok (.goto 4, 3) := by decide +kernel
theorem d_method_5_24 : decode method_5_code 24 = .ok (.ireturn, 1) := by decide +kernel
theorem d_method_5_5 : decode method_5_code 5 = .ok (.iload_n 1, 1) := by decide +kernel
theorem d_method_5_6 : decode method_5_code 6 = .ok (.iload_n 3, 1) := by decide +kernel
theorem d_method_5_7 : decode method_5_code 7 = .ok (.if_icmp .ge 12, 3) := by decide +kernel
theorem d_method_5_10 : decode method_5_code 10 = .ok (.aload_n 0, 1) := by decide +kernel
theorem d_method_5_11 : decode method_5_code 11 = .ok (.iload_n 1, 1) := by decide +kernel
theorem d_method_5_12 : decode method_5_code 12 = .ok (.caload, 1) := by decide +kernel
theorem d_method_5_13 : decode method_5_code 13 = .ok (.invokestatic 27, 3) := by decide +kernel
theorem d_method_5_16 : decode method_5_code 16 = .ok (.ifCond .eq 7, 3) := by decide +kernel
theorem d_method_5_23 : decode method_5_code 23 = .ok (.iconst 0, 1) := by decide +kernel
theorem d_method_6_0 : decode method_6_code 0 = .ok (.aload_n 0, 1) := by decide +kernel
theorem d_method_6_1 : decode method_6_code 1 = .ok (.iconst 0, 1) := by decide +kernel
theorem d_method_6_2 : decode method_6_code 2 = .ok (.iload_n 1, 1) := by decide +kernel
theorem d_method_6_3 : decode method_6_code 3 = .ok (.iload_n 2, 1) := by decide +kernel
theorem d_method_6_4 : decode method_6_code 4 = .ok (.invokestatic 31, 3) := by decide +kernel
theorem d_method_6_7 : decode method_6_code 7 = .ok (.ifCond .eq 57, 3) := by decide +kernel
theorem d_method_6_64 : decode method_6_code 64 = .ok (.iconst 0, 1) := by decide +kernel
theorem d_method_6_65 : decode method_6_code 65 = .ok (.istore_n 3, 1) := by decide +kernel
theorem d_method_6_66 : decode method_6_code 66 = .ok (.iload_n 3, 1) := by decide +kernel
theorem d_method_6_67 : decode method_6_code 67 = .ok (.ifCond .ne 5, 3) := by decide +kernel
theorem d_method_6_70 : decode method_6_code 70 = .ok (.iconst 0, 1) := by decide +kernel
theorem d_method_6_71 : decode method_6_code 71 = .ok (.ireturn, 1) := by decide +kernel
theorem d_method_6_10 : decode method_6_code 10 = .ok (.aload_n 0, 1) := by decide +kernel
theorem d_method_6_11 : decode method_6_code 11 = .ok (.iconst 1, 1) := by decide +kernel
theorem d_method_6_12 : decode method_6_code 12 = .ok (.iload_n 1, 1) := by decide +kernel
theorem d_method_6_13 : decode method_6_code 13 = .ok (.iload_n 2, 1) := by decide +kernel
theorem d_method_6_14 : decode method_6_code 14 = .ok (.invokestatic 31, 3) := by decide +kernel
theorem d_method_6_17 : decode method_6_code 17 = .ok (.ifCond .eq 47, 3) := by decide +kernel
theorem d_method_6_20 : decode method_6_code 20 = .ok (.aload_n 0, 1) := by decide +kernel
theorem d_method_6_21 : decode method_6_code 21 = .ok (.iconst 2, 1) := by decide +kernel
theorem d_method_6_22 : decode method_6_code 22 = .ok (.iload_n 1, 1) := by decide +kernel
theorem d_method_6_23 : decode method_6_code 23 = .ok (.iload_n 2, 1) := by decide +kernel
theorem d_method_6_24 : decode method_6_code 24 = .ok (.invokestatic 31, 3) := by decide +kernel
theorem d_method_6_27 : decode method_6_code 27 = .ok (.ifCond .eq 37, 3) := by decide +kernel
theorem d_method_6_30 : decode method_6_code 30 = .ok (.aload_n 0, 1) := by decide +kernel
theorem d_method_6_31 : decode method_6_code 31 = .ok (.iconst 3, 1) := by decide +kernel
theorem d_method_6_32 : decode method_6_code 32 = .ok (.iload_n 1, 1) := by decide +kernel
theorem d_method_6_33 : decode method_6_code 33 = .ok (.iload_n 2, 1) := by decide +kernel
theorem d_method_6_34 : decode method_6_code 34 = .ok (.invokestatic 31, 3) := by decide +kernel
theorem d_method_6_37 : decode method_6_code 37 = .ok (.ifCond .eq 27, 3) := by decide +kernel
theorem d_method_6_40 : decode method_6_code 40 = .ok (.aload_n 0, 1) := by decide +kernel
theorem d_method_6_41 : decode method_6_code 41 = .ok (.iconst 4, 1) := by decide +kernel
theorem d_method_6_42 : decode method_6_code 42 = .ok (.iload_n 1, 1) := by decide +kernel
theorem d_method_6_43 : decode method_6_code 43 = .ok (.iload_n 2, 1) := by decide +kernel
theorem d_method_6_44 : decode method_6_code 44 = .ok (.invokestatic 31, 3) := by decide +kernel
theorem d_method_6_47 : decode method_6_code 47 = .ok (.ifCond .eq 17, 3) := by decide +kernel
theorem d_method_6_50 : decode method_6_code 50 = .ok (.aload_n 0, 1) := by decide +kernel
theorem d_method_6_51 : decode method_6_code 51 = .ok (.iconst 5, 1) := by decide +kernel
theorem d_method_6_52 : decode method_6_code 52 = .ok (.iload_n 1, 1) := by decide +kernel
theorem d_method_6_53 : decode method_6_code 53 = .ok (.iload_n 2, 1) := by decide +kernel
theorem d_method_6_54 : decode method_6_code 54 = .ok (.invokestatic 31, 3) := by decide +kernel
theorem d_method_6_57 : decode method_6_code 57 = .ok (.ifCond .eq 7, 3) := by decide +kernel
theorem d_method_6_60 : decode method_6_code 60 = .ok (.iconst 1, 1) := by decide +kernel
theorem d_method_6_61 : decode method_6_code 61 = .ok (.goto 4, 3) := by decide +kernel
theorem d_method_6_72 : decode method_6_code 72 = .ok (.iload_n 2, 1) := by decide +kernel
theorem d_method_6_73 : decode method_6_code 73 = .ok (.iload_n 1, 1) := by decide +kernel
theorem d_method_6_74 : decode method_6_code 74 = .ok (.isub, 1) := by decide +kernel
theorem d_method_6_75 : decode method_6_code 75 = .ok (.istore 4, 2) := by decide +kernel
theorem d_method_6_77 : decode method_6_code 77 = .ok (.iload 4, 2) := by decide +kernel
theorem d_method_6_79 : decode method_6_code 79 = .ok (.iconst 4, 1) := by decide +kernel
theorem d_method_6_80 : decode method_6_code 80 = .ok (.irem, 1) := by decide +kernel
theorem d_method_6_81 : decode method_6_code 81 = .ok (.istore 5, 2) := by decide +kernel
theorem d_method_6_83 : decode method_6_code 83 = .ok (.iload 5, 2) := by decide +kernel
theorem d_method_6_85 : decode method_6_code 85 = .ok (.ifCond .ne 5, 3) := by decide +kernel
theorem d_method_6_88 : decode method_6_code 88 = .ok (.iconst 1, 1) := by decide +kernel
theorem d_method_6_89 : decode method_6_code 89 = .ok (.ireturn, 1) := by decide +kernel
theorem d_method_6_90 : decode method_6_code 90 = .ok (.iload 5, 2) := by decide +kernel
theorem d_method_6_92 : decode method_6_code 92 = .ok (.iconst 1, 1) := by decide +kernel
theorem d_method_6_93 : decode method_6_code 93 = .ok (.if_icmp .ne 5, 3) := by decide +kernel
theorem d_method_6_96 : decode method_6_code 96 = .ok (.iconst 0, 1) := by decide +kernel
theorem d_method_6_97 : decode method_6_code 97 = .ok (.ireturn, 1) := by decide +kernel
theorem d_method_6_98 : decode method_6_code 98 = .ok (.aload_n 0, 1) := by decide +kernel
theorem d_method_6_99 : decode method_6_code 99 = .ok (.iload_n 2, 1) := by decide +kernel
theorem d_method_6_100 : decode method_6_code 100 = .ok (.iconst 1, 1) := by decide +kernel
theorem d_method_6_101 : decode method_6_code 101 = .ok (.isub, 1) := by decide +kernel
theorem d_method_6_102 : decode method_6_code 102 = .ok (.caload, 1) := by decide +kernel
theorem d_method_6_103 : decode method_6_code 103 = .ok (.invokestatic 35, 3) := by decide +kernel
theorem d_method_6_106 : decode method_6_code 106 = .ok (.istore 6, 2) := by decide +kernel
theorem d_method_6_108 : decode method_6_code 108 = .ok (.iload 5, 2) := by decide +kernel
theorem d_method_6_110 : decode method_6_code 110 = .ok (.iconst 2, 1) := by decide +kernel
theorem d_method_6_111 : decode method_6_code 111 = .ok (.if_icmp .ne 17, 3) := by decide +kernel
theorem d_method_6_114 : decode method_6_code 114 = .ok (.iload 6, 2) := by decide +kernel
theorem d_method_6_116 : decode method_6_code 116 = .ok (.bipush 15, 2) := by decide +kernel
theorem d_method_6_118 : decode method_6_code 118 = .ok (.iand, 1) := by decide +kernel
theorem d_method_6_119 : decode method_6_code 119 = .ok (.ifCond .ne 7, 3) := by decide +kernel
theorem d_method_6_126 : decode method_6_code 126 = .ok (.iconst 0, 1) := by decide +kernel
theorem d_method_6_127 : decode method_6_code 127 = .ok (.ireturn, 1) := by decide +kernel
theorem d_method_6_122 : decode method_6_code 122 = .ok (.iconst 1, 1) := by decide +kernel
theorem d_method_6_123 : decode method_6_code 123 = .ok (.goto 4, 3) := by decide +kernel
theorem d_method_6_128 : decode method_6_code 128 = .ok (.iload 6, 2) := by decide +kernel
theorem d_method_6_130 : decode method_6_code 130 = .ok (.iconst 3, 1) := by decide +kernel
theorem d_method_6_131 : decode method_6_code 131 = .ok (.iand, 1) := by decide +kernel
theorem d_method_6_132 : decode method_6_code 132 = .ok (.ifCond .ne 7, 3) := by decide +kernel
theorem d_method_6_139 : decode method_6_code 139 = .ok (.iconst 0, 1) := by decide +kernel
theorem d_method_6_140 : decode method_6_code 140 = .ok (.ireturn, 1) := by decide +kernel
theorem d_method_6_135 : decode method_6_code 135 = .ok (.iconst 1, 1) := by decide +kernel
theorem d_method_6_136 : decode method_6_code 136 = .ok (.goto 4, 3) := by decide +kernel
theorem d_prog_15m3_0 : decode prog_15_method_3_code 0 = .ok (.iconst 0, 1) := by decide +kernel
theorem d_prog_15m3_1 : decode prog_15_method_3_code 1 = .ok (.istore_n 3, 1) := by decide +kernel
theorem d_prog_15m3_2 : decode prog_15_method_3_code 2 = .ok (.iload_n 1, 1) := by decide +kernel
theorem d_prog_15m3_3 : decode prog_15_method_3_code 3 = .ok (.istore 4, 2) := by decide +kernel
theorem d_prog_15m3_5 : decode prog_15_method_3_code 5 = .ok (.iload 4, 2) := by decide +kernel
theorem d_prog_15m3_7 : decode prog_15_method_3_code 7 = .ok (.iload_n 2, 1) := by decide +kernel
theorem d_prog_15m3_8 : decode prog_15_method_3_code 8 = .ok (.if_icmp .ge 25, 3) := by decide +kernel
theorem d_prog_15m3_33 : decode prog_15_method_3_code 33 = .ok (.iload_n 2, 1) := by decide +kernel
theorem d_prog_15m3_34 : decode prog_15_method_3_code 34 = .ok (.iload_n 1, 1) := by decide +kernel
theorem d_prog_15m3_35 : decode prog_15_method_3_code 35 = .ok (.isub, 1) := by decide +kernel
theorem d_prog_15m3_36 : decode prog_15_method_3_code 36 = .ok (.iconst 4, 1) := by decide +kernel
theorem d_prog_15m3_37 : decode prog_15_method_3_code 37 = .ok (.irem, 1) := by decide +kernel
theorem d_prog_15m3_38 : decode prog_15_method_3_code 38 = .ok (.tableswitch 63 0 3 #[30, 63, 34, 49], 30) := by decide +kernel
theorem d_prog_15m3_68 : decode prog_15_method_3_code 68 = .ok (.iconst 1, 1) := by decide +kernel
theorem d_prog_15m3_69 : decode prog_15_method_3_code 69 = .ok (.goto 33, 3) := by decide +kernel
theorem d_prog_15m3_102 : decode prog_15_method_3_code 102 = .ok (.ireturn, 1) := by decide +kernel
theorem d_prog_15m3_101 : decode prog_15_method_3_code 101 = .ok (.iconst 0, 1) := by decide +kernel
theorem d_prog_15m3_72 : decode prog_15_method_3_code 72 = .ok (.iload_n 3, 1) := by decide +kernel
theorem d_prog_15m3_73 : decode prog_15_method_3_code 73 = .ok (.bipush 15, 2) := by decide +kernel
theorem d_prog_15m3_75 : decode prog_15_method_3_code 75 = .ok (.iand, 1) := by decide +kernel
theorem d_prog_15m3_76 : decode prog_15_method_3_code 76 = .ok (.ifCond .ne 7, 3) := by decide +kernel
theorem d_prog_15m3_83 : decode prog_15_method_3_code 83 = .ok (.iconst 0, 1) := by decide +kernel
theorem d_prog_15m3_84 : decode prog_15_method_3_code 84 = .ok (.goto 18, 3) := by decide +kernel
theorem d_prog_15m3_79 : decode prog_15_method_3_code 79 = .ok (.iconst 1, 1) := by decide +kernel
theorem d_prog_15m3_80 : decode prog_15_method_3_code 80 = .ok (.goto 22, 3) := by decide +kernel
theorem d_prog_15m3_87 : decode prog_15_method_3_code 87 = .ok (.iload_n 3, 1) := by decide +kernel
theorem d_prog_15m3_88 : decode prog_15_method_3_code 88 = .ok (.iconst 3, 1) := by decide +kernel
theorem d_prog_15m3_89 : decode prog_15_method_3_code 89 = .ok (.iand, 1) := by decide +kernel
theorem d_prog_15m3_90 : decode prog_15_method_3_code 90 = .ok (.ifCond .ne 7, 3) := by decide +kernel
theorem d_prog_15m3_97 : decode prog_15_method_3_code 97 = .ok (.iconst 0, 1) := by decide +kernel
theorem d_prog_15m3_98 : decode prog_15_method_3_code 98 = .ok (.goto 4, 3) := by decide +kernel
theorem d_prog_15m3_93 : decode prog_15_method_3_code 93 = .ok (.iconst 1, 1) := by decide +kernel
theorem d_prog_15m3_94 : decode prog_15_method_3_code 94 = .ok (.goto 8, 3) := by decide +kernel
theorem d_prog_15m3_11 : decode prog_15_method_3_code 11 = .ok (.aload_n 0, 1) := by decide +kernel
theorem d_prog_15m3_12 : decode prog_15_method_3_code 12 = .ok (.iload 4, 2) := by decide +kernel
theorem d_prog_15m3_14 : decode prog_15_method_3_code 14 = .ok (.invokevirtual 19, 3) := by decide +kernel
theorem d_prog_15m3_17 : decode prog_15_method_3_code 17 = .ok (.invokestatic 23, 3) := by decide +kernel
theorem d_prog_15m3_20 : decode prog_15_method_3_code 20 = .ok (.istore_n 3, 1) := by decide +kernel
theorem d_prog_15m3_21 : decode prog_15_method_3_code 21 = .ok (.iload_n 3, 1) := by decide +kernel
theorem d_prog_15m3_22 : decode prog_15_method_3_code 22 = .ok (.ifCond .ge 5, 3) := by decide +kernel
theorem d_prog_15m3_27 : decode prog_15_method_3_code 27 = .ok (.iinc 4 1, 3) := by decide +kernel
theorem d_prog_15m3_30 : decode prog_15_method_3_code 30 = .ok (.goto (-25), 3) := by decide +kernel
theorem d_prog_15m3_25 : decode prog_15_method_3_code 25 = .ok (.iconst 0, 1) := by decide +kernel
theorem d_prog_15m3_26 : decode prog_15_method_3_code 26 = .ok (.ireturn, 1) := by decide +kernel
theorem pd0 : parseMethodDescriptor "(C)Z" = some ⟨[.char], some .boolean⟩ := by decide +kernel
theorem pd1 : parseMethodDescriptor "([CIII)Z" = some ⟨[(.array .char), .int, .int, .int], some .boolean⟩ := by decide +kernel
theorem pd2 : parseMethodDescriptor "(C)I" = some ⟨[.char], some .int⟩ := by decide +kernel
theorem pd3 : parseMethodDescriptor "(I)C" = some ⟨[.int], some .char⟩ := by decide +kernel
theorem pd4 : parseMethodDescriptor "([C)V" = some ⟨[(.array .char)], none⟩ := by decide +kernel
theorem pd5 : parseMethodDescriptor "(Ljava/lang/String;II)Z" = some ⟨[(.object "java/lang/String"), .int, .int], some .boolean⟩ := by decide +kernel
theorem pd6 : parseMethodDescriptor "([CII)Z" = some ⟨[(.array .char), .int, .int], some .boolean⟩ := by decide +kernel
theorem pn0 : plainName "com/example/scopegate/scopegate/token/Base64UrlIsCanonicalPinLaw" = true := by first | (simp [plainName, overriddenIn]; done) | decide +kernel
theorem pn1 : plainName "com/example/scopegate/scopegate/token/Base64Url" = true := by first | (simp [plainName, overriddenIn]; done) | decide +kernel
theorem ef0 (m : MethodId) (x0 : Int32) : entryFrame m #[(.int x0)] 1 = mkF m 0 #[.val (.int x0)] [] := by (first | (simp [entryFrame, mkF, argsToLocals, Value.category]; done) | rfl)
theorem ef1 (m : MethodId) (x0 : Int32) : entryFrame m #[(.int x0)] 1 = mkF m 0 #[.val (.int x0)] [] := by (first | (simp [entryFrame, mkF, argsToLocals, Value.category]; done) | rfl)
theorem ef2 (m : MethodId) (x0 : Int32) : entryFrame m #[(.int x0)] 1 = mkF m 0 #[.val (.int x0)] [] := by (first | (simp [entryFrame, mkF, argsToLocals, Value.category]; done) | rfl)
theorem ef3 (m : MethodId) (x0 : Addr) (x2 : Int32) (x3 : Int32) : entryFrame m #[(.ref x0), (.int (0 : Int32)), (.int x2), (.int x3)] 4 = mkF m 0 #[.val (.ref x0), .val (.int (0 : Int32)), .val (.int x2), .val (.int x3)] [] := by (first | (simp [entryFrame, mkF, argsToLocals, Value.category]; done) | rfl)
theorem ef4 (m : MethodId) (x0 : Addr) (x2 : Int32) (x3 : Int32) : entryFrame m #[(.ref x0), (.int (1 : Int32)), (.int x2), (.int x3)] 4 = mkF m 0 #[.val (.ref x0), .val (.int (1 : Int32)), .val (.int x2), .val (.int x3)] [] := by (first | (simp [entryFrame, mkF, argsToLocals, Value.category]; done) | rfl)
theorem ef5 (m : MethodId) (x0 : Addr) (x2 : Int32) (x3 : Int32) : entryFrame m #[(.ref x0), (.int (2 : Int32)), (.int x2), (.int x3)] 4 = mkF m 0 #[.val (.ref x0), .val (.int (2 : Int32)), .val (.int x2), .val (.int x3)] [] := by (first | (simp [entryFrame, mkF, argsToLocals, Value.category]; done) | rfl)
theorem ef6 (m : MethodId) (x0 : Addr) (x2 : Int32) (x3 : Int32) : entryFrame m #[(.ref x0), (.int (3 : Int32)), (.int x2), (.int x3)] 4 = mkF m 0 #[.val (.ref x0), .val (.int (3 : Int32)), .val (.int x2), .val (.int x3)] [] := by (first | (simp [entryFrame, mkF, argsToLocals, Value.category]; done) | rfl)
theorem ef7 (m : MethodId) (x0 : Addr) (x2 : Int32) (x3 : Int32) : entryFrame m #[(.ref x0), (.int (4 : Int32)), (.int x2), (.int x3)] 4 = mkF m 0 #[.val (.ref x0), .val (.int (4 : Int32)), .val (.int x2), .val (.int x3)] [] := by (first | (simp [entryFrame, mkF, argsToLocals, Value.category]; done) | rfl)
theorem ef8 (m : MethodId) (x0 : Addr) (x2 : Int32) (x3 : Int32) : entryFrame m #[(.ref x0), (.int (5 : Int32)), (.int x2), (.int x3)] 4 = mkF m 0 #[.val (.ref x0), .val (.int (5 : Int32)), .val (.int x2), .val (.int x3)] [] := by (first | (simp [entryFrame, mkF, argsToLocals, Value.category]; done) | rfl)
theorem ef9 (m : MethodId) (x0 : Addr) (x1 : Int32) (x2 : Int32) : entryFrame m #[(.ref x0), (.int x1), (.int x2)] 7 = mkF m 0 #[.val (.ref x0), .val (.int x1), .val (.int x2), .unset, .unset, .unset, .unset] [] := by (first | (simp [entryFrame, mkF, argsToLocals, Value.category]; done) | rfl)
theorem ef10 (m : MethodId) (x0 : Addr) (x1 : Int32) (x2 : Int32) : entryFrame m #[(.ref x0), (.int x1), (.int x2)] 5 = mkF m 0 #[.val (.ref x0), .val (.int x1), .val (.int x2), .unset, .unset] [] := by (first | (simp [entryFrame, mkF, argsToLocals, Value.category]; done) | rfl)
theorem ef11 (m : MethodId) (x0 : Int64) (x1 : Int32) (x2 : Int32) : entryFrame m #[(.long x0), (.int x1), (.int x2)] maxLocals = mkF m 0 #[.val (.long x0), .second, .val (.int x1), .val (.int x2), .unset, .unset, .unset, .unset, .unset] [] := by (first | (simp [entryFrame, mkF, argsToLocals, Value.category, maxLocals]; done) | rfl)
/-- the String at x spells cs (Latin-1, at most 4,000 signs) -/
def Str (Z : State) (h : Heap) (x : Addr) (cs : List Int32) : Prop := Exa Z h x StN ∧ Fld Z h x StN "coder" "B" (.int 0) ∧ (∃ t, Fld Z h x StN "value" "[B" (.ref t) ∧ Wk.Ary Z h t .byte ((cs.map fun c => c.toInt8.toInt32).map Value.int)) ∧ (∀ c ∈ cs, ¬ c < 0 ∧ ¬ (255 : Int32) < c) ∧ cs.length ≤ 4000
theorem Str.ext {Z : State} {h h' : Heap} {x : Addr} {cs : List Int32} (F : Str Z h x cs) (E : Ext h h') : Str Z h' x cs := by
  obtain ⟨a, b, ⟨t, c, d⟩, r⟩ := F
  exact ⟨a.ext E, b.ext E, ⟨t, c.ext E, d.ext E⟩, r⟩
theorem Str.exa {Z : State} {h : Heap} {x : Addr} {cs : List Int32} (F : Str Z h x cs) : Exa Z h x StN := F.1
theorem Str.lt {Z : State} {h : Heap} {x : Addr} {cs : List Int32} (F : Str Z h x cs) : x < h.size := F.1.lt
theorem strNew {l : Launch} {R : Room} {Z : State} {W : Wk.Wd} {a0 : Array Value} {own nm : String} {code : ByteArray} {maxL : Nat} {ret : Option FieldType} (C : Wk.Cx Z W own nm code maxL ret) (hw : Ws a0 Z) (hs : Sets Z) {h : Heap} (O : Ext Z.heap h) {x b : Addr} {cs : List Int32} {n Wn : Nat} {v0 c0 : Value}
    (hx0 : Z.heap.size ≤ x) (E : Exa Z h x StN) (V : Fld Z h x StN "value" "[B" v0) (Cd : Fld Z h x StN "coder" "B" c0) (K : Wk.Ary Z h b .char (cs.map Value.int)) (hn : cs.length = n) (l0 : 0 < n) (l2 : n ≤ 4000) (hp : ∀ c ∈ cs, ¬ c < 0 ∧ ¬ (255 : Int32) < c) (hfr : 4 ≤ R.frames) (hlo : Wn + 65 ≤ R.locals) :
    Wk.Pays l R W (⟨"java/lang/String", "<init>", "([C)V"⟩ : MethodName) 3 Wn #[.ref x, .ref b] h 1 n (StrChars.Road.QV Z x (Int32.ofNat n) (cs.map fun c => c.toInt8.toInt32) h Z.heap.size) := by
  obtain ⟨z, fm, S1, hz, -, -⟩ := hs
  obtain ⟨kc, A⟩ := K.arv (d := .int 0)
  rw [List.length_map, hn] at A
  have hws : ∀ d ∈ StrChars.Road.words, d.before a0 Z = true := fun d hd => hw d ((by decide +kernel : ∀ d ∈ StrChars.Road.words, d ∈ tables_1) d hd)
  exact StrChars.Road.backV (W := Wn) C.hZ hws (kI := 4) (w3 hw) (cs := cs) hx0 O.1 E V Cd A (S1.ext O) hz hn rfl l0 l2 hp rfl hfr hlo
theorem strNewC {Z : State} {h : Heap} {x : Addr} {cs : List Int32} {n : Nat} (O : Ext Z.heap h) (hx0 : Z.heap.size ≤ x) (hn : cs.length = n) (l2 : n ≤ 4000) (hp : ∀ c ∈ cs, ¬ c < 0 ∧ ¬ (255 : Int32) < c) :
    Wk.Clean Z (fun v h' => v = none ∧ Keep h h' [x] ∧ Str Z h' x cs) (StrChars.Road.QV Z x (Int32.ofNat n) (cs.map fun c => c.toInt8.toInt32) h Z.heap.size) := by
  rintro v h' L ⟨rfl, N, K, E, Cd, t, kb, -, -, -, V, A⟩
  refine ⟨⟨rfl, K, E, Cd, ⟨t, V, Wk.Ary.of_arv A ?_⟩, hp, by omega⟩, Wk.Ext.keep1 (Z := Z) O K hx0, N⟩
  rw [Int32.toNatClampNeg_ofNat_of_lt (by omega)]; simp [hn]
theorem pureC {Z : State} {h : Heap} {P : Option Value → Prop} (O : Ext Z.heap h) : Wk.Clean Z (fun v h' => P v ∧ h' = h) (fun v h' L => P v ∧ L = [] ∧ h' = h) := by
  rintro v h' L ⟨q, rfl, rfl⟩
  exact ⟨⟨q, rfl⟩, O, Fr.nil _⟩
theorem strAt {l : Launch} {R : Room} {Z : State} {W : Wk.Wd} {a0 : Array Value} {own nm : String} {code : ByteArray} {maxL : Nat} {ret : Option FieldType} (C : Wk.Cx Z W own nm code maxL ret) (hw : Ws a0 Z) (hs : Sets Z) {h : Heap} (O : Ext Z.heap h) {x : Addr} {cs : List Int32} {Wn i : Nat} {j : Int32} (F : Str Z h x cs) (hi : i < cs.length) (hj : j = Int32.ofNat i) (hfr : 4 ≤ R.frames) (hlo : Wn + 53 ≤ R.locals) :
    Wk.Pays l R W (⟨"java/lang/String", "charAt", "(I)C"⟩ : MethodName) 3 Wn #[.ref x, .int j] h 0 0 (fun v h' L => v = some (.int (cs.getD i 0)) ∧ L = [] ∧ h' = h) := by
  obtain ⟨z, fm, S1, hz, S2, rf⟩ := hs
  obtain ⟨E, Cd, ⟨t, V, K⟩, hp, l2⟩ := F
  obtain ⟨kc, A⟩ := K.arv (d := .int 0)
  have hws : ∀ d ∈ StrChars.Road.wordsChN, d.before a0 Z = true := fun d hd => hw d ((by decide +kernel : ∀ d ∈ StrChars.Road.wordsChN, d ∈ tables_1) d hd)
  rw [List.length_map, List.length_map] at A
  exact StrChars.Road.chN (W := Wn) C.hZ hws (kI := 4) (w3 hw) E V Cd A (StrChars.Road.codOf rfl fun c hc => (hp c hc).2) (fun c hc => ⟨(hp c hc).1, fun q => (hp c hc).2 (Int32.lt_trans (by decide) q)⟩) (S1.ext O) hz (S2.ext O) rf l2 hi hj hfr hlo
def vld (c : Int32) : Int32 := if ¬ c < 65 ∧ ¬ (90 : Int32) < c then 1 else if ¬ c < 97 ∧ ¬ (122 : Int32) < c then 1 else if ¬ c < 48 ∧ ¬ (57 : Int32) < c then 1 else if c = 45 then 1 else if c = 95 then 1 else 0
def six (c : Int32) : Int32 := if ¬ c < 65 ∧ ¬ (90 : Int32) < c then c - 65 else if ¬ c < 97 ∧ ¬ (122 : Int32) < c then c - 97 + 26 else if ¬ c < 48 ∧ ¬ (57 : Int32) < c then c - 48 + 52 else if c = 45 then 62 else 63
def b64n (i : Nat) : Int32 := if i < 45 then -1 else if i = 45 then 62 else if i < 48 then -1 else if i < 58 then Int32.ofNat (i + 4) else if i < 65 then -1 else if i < 91 then Int32.ofNat (i - 65) else if i < 95 then -1 else if i = 95 then 63 else if i = 96 then -1 else if i < 123 then Int32.ofNat (i - 71) else -1
def tabV : List Value := (List.range 128).map fun i => Value.int (b64n i)
theorem own_tabLen : tabV.length = 128 := by simp [tabV]
theorem own_tabGet {n : Nat} (h : n < 128) : tabV[n]? = some (.int (b64n n)) := by simp [tabV, h]
def val (c : Int32) : Int32 := if ¬ c < 128 then -1 else b64n c.toNatClampNeg
theorem own_nat {c : Int32} (r : ¬ c < 0 ∧ ¬ (255 : Int32) < c) : ∃ n : Nat, n < 256 ∧ c = Int32.ofNat n := by
  have h0 : 0 ≤ c.toInt := by
    have a := r.1; have e0 : (0 : Int32).toInt = 0 := by decide
    rw [Wk.ltI] at a; omega
  refine ⟨c.toNatClampNeg, ?_, Wk.ofNat h0⟩
  have a := r.2; have b := Wk.clamp h0; have e1 : (255 : Int32).toInt = 255 := by decide
  rw [Wk.ltI] at a; omega
theorem own_rel : ∀ n, n < 256 → vld (Int32.ofNat n) = (if val (Int32.ofNat n) < 0 then 0 else 1) ∧ (¬ val (Int32.ofNat n) < 0 → six (Int32.ofNat n) = val (Int32.ofNat n)) := by decide +kernel
theorem own_rl {c : Int32} (r : ¬ c < 0 ∧ ¬ (255 : Int32) < c) : vld c = (if val c < 0 then 0 else 1) ∧ (¬ val c < 0 → six c = val c) := by
  obtain ⟨n, hn, rfl⟩ := own_nat r
  exact own_rel n hn
theorem own_vld01 (c : Int32) : vld c = 0 ∨ vld c = 1 := by unfold vld; (repeat' split) <;> simp
theorem own_mk : ∀ e, e < 7 → ∀ s, s < 7 → s ≤ e → (Int32.ofNat e - Int32.ofNat s) % 4 = Int32.ofNat ((e - s) % 4) := by decide +kernel
theorem own_mod4 {s e : Nat} {v w : Int32} (h1 : s ≤ e) (h2 : e ≤ 6) (hv : Int32.ofNat e - Int32.ofNat s = v) (hw : v % 4 = w) : (w = 0 ∧ (e - s) % 4 = 0) ∨ (w = 1 ∧ (e - s) % 4 = 1) ∨ (w = 2 ∧ (e - s) % 4 = 2) ∨ (w = 3 ∧ (e - s) % 4 = 3) := by
  have k := own_mk e (by omega) s (by omega) h1
  rw [hv, hw] at k
  have z : (e - s) % 4 = 0 ∨ (e - s) % 4 = 1 ∨ (e - s) % 4 = 2 ∨ (e - s) % 4 = 3 := by omega
  rcases z with z | z | z | z <;> rw [z] at k <;> rw [k, z] <;> decide
theorem own_ek : ∀ e, e < 7 → 1 ≤ e → ¬ (Int32.ofNat e - 1) < 0 ∧ (Int32.ofNat e - 1).toNatClampNeg = e - 1 := by decide +kernel
theorem own_em1 {e : Nat} {v : Int32} (h1 : 1 ≤ e) (h2 : e ≤ 6) (hv : Int32.ofNat e - (1 : Int32) = v) : ¬ v < 0 ∧ v.toNatClampNeg = e - 1 := hv ▸ own_ek e (by omega) h1
theorem own_lt {c : Int32} (r : ¬ c < 0 ∧ ¬ (255 : Int32) < c) (q : c < 128) : c.toNatClampNeg < 128 := by
  have h0 : 0 ≤ c.toInt := by
    have a := r.1; have e0 : (0 : Int32).toInt = 0 := by decide
    rw [Wk.ltI] at a; omega
  have b := Wk.clamp h0; have e1 : (128 : Int32).toInt = 128 := by decide
  rw [Wk.ltI] at q; omega
def okI (i s e c : Int32) : Int32 := if i < s then 1 else if ¬ i < e then 1 else vld c
def expW (o0 o1 o2 o3 o4 o5 : Int32) (d : Nat) (x : Int32) : Int32 := if o0 = 0 then 0 else if o1 = 0 then 0 else if o2 = 0 then 0 else if o3 = 0 then 0 else if o4 = 0 then 0 else if o5 = 0 then 0 else if d % 4 = 0 then 1 else if d % 4 = 1 then 0 else if d % 4 = 2 then (if x &&& 15 = 0 then 1 else 0) else (if x &&& 3 = 0 then 1 else 0)
def expV (cs : List Int32) (s e : Nat) : Int32 := expW (okI 0 (Int32.ofNat s) (Int32.ofNat e) (cs.getD 0 0)) (okI 1 (Int32.ofNat s) (Int32.ofNat e) (cs.getD 1 0)) (okI 2 (Int32.ofNat s) (Int32.ofNat e) (cs.getD 2 0)) (okI 3 (Int32.ofNat s) (Int32.ofNat e) (cs.getD 3 0)) (okI 4 (Int32.ofNat s) (Int32.ofNat e) (cs.getD 4 0)) (okI 5 (Int32.ofNat s) (Int32.ofNat e) (cs.getD 5 0)) (e - s) (six (cs.getD (e - 1) 0))
def scan : List Int32 → Int32 → Option Int32
  | [], v => some v
  | c :: r, _ => if val c < 0 then none else scan r (val c)
theorem scan_lt {c v : Int32} {r : List Int32} (h : val c < 0) : scan (c :: r) v = none := if_pos h
theorem scan_ge {c v : Int32} {r : List Int32} (h : ¬ val c < 0) : scan (c :: r) v = scan r (val c) := if_neg h
def canT (d : Nat) : Option Int32 → Int32
  | none => 0
  | some v => if d % 4 = 0 then 1 else if d % 4 = 1 then 0 else if d % 4 = 2 then (if v &&& 15 = 0 then 1 else 0) else (if v &&& 3 = 0 then 1 else 0)
def canV (cs : List Int32) (s e : Nat) : Int32 := canT (e - s) (scan ((cs.drop s).take (e - s)) 0)
theorem own_hdr {cs : List Int32} {j d : Nat} (h : j < cs.length) : (cs.drop j).take (d + 1) = cs.getD j 0 :: (cs.drop (j + 1)).take d := by
  rw [List.drop_eq_getElem_cons h, List.take_succ_cons]
  congr 1
  simp [List.getD_eq_getElem?_getD, h]
theorem own_in {cs : List Int32} (hp : ∀ c ∈ cs, ¬ c < 0 ∧ ¬ (255 : Int32) < c) {j : Nat} (h : j < cs.length) : ¬ cs.getD j 0 < 0 ∧ ¬ (255 : Int32) < cs.getD j 0 := by
  have e : cs.getD j 0 = cs[j] := by simp [List.getD_eq_getElem?_getD, h]
  rw [e]; exact hp _ (List.getElem_mem h)
set_option maxRecDepth 65536 in
set_option maxHeartbeats 40000000 in
theorem own_valid (l : Launch) {Z : State} {a0 : Array Value} (hw : Ws a0 Z) {h0 : Heap} (O0 : Ext Z.heap h0) (c : Int32)  :
    Wk.Con l Z (⟨"com/example/scopegate/scopegate/token/Base64UrlIsCanonicalPinLaw", "valid", "(C)Z"⟩ : MethodName) method_3_code 1 (some .boolean) ({ frames := 0, cells := 0, slots := 0, locals := 0 } : Room) #[(.int c)] h0 (fun v h' => v = some (.int (vld c)) ∧ h' = h0) := by
  refine Wk.Con.intro (plainFor_of_name pn0) O0 (fun m => ef0 m c) ?_
  intro W C
  replace C : Wk.Cx Z W "com/example/scopegate/scopegate/token/Base64UrlIsCanonicalPinLaw" "valid" method_3_code 1 (some .boolean) := C
  refine Wk.iloadN (pc' := 1) C d_method_3_0 rfl rfl ?_
  refine Wk.bipush (pc' := 3) C d_method_3_1 (v := (65 : Int32)) rfl rfl ?_
  refine Wk.icmp_lt C d_method_3_3 (by decide) (pcT := 12) (by decide) (pc' := 6) rfl (fun q11 => ?_) (fun q11 => ?_)
  · -- pc 3: taken
    refine Wk.iloadN (pc' := 13) C d_method_3_12 rfl rfl ?_
    refine Wk.bipush (pc' := 15) C d_method_3_13 (v := (97 : Int32)) rfl rfl ?_
    refine Wk.icmp_lt C d_method_3_15 (by decide) (pcT := 24) (by decide) (pc' := 18) rfl (fun q12 => ?_) (fun q12 => ?_)
    · -- pc 15: taken
      refine Wk.iloadN (pc' := 25) C d_method_3_24 rfl rfl ?_
      refine Wk.bipush (pc' := 27) C d_method_3_25 (v := (48 : Int32)) rfl rfl ?_
      refine Wk.icmp_lt C d_method_3_27 (by decide) (pcT := 36) (by decide) (pc' := 30) rfl (fun q13 => ?_) (fun q13 => ?_)
      · -- pc 27: taken
        refine Wk.iloadN (pc' := 37) C d_method_3_36 rfl rfl ?_
        refine Wk.bipush (pc' := 39) C d_method_3_37 (v := (45 : Int32)) rfl rfl ?_
        refine Wk.icmp_eq C d_method_3_39 (by decide) (pcT := 48) (by decide) (pc' := 42) rfl (fun q14 => ?_) (fun q14 => ?_)
        · -- pc 39: taken
          refine Wk.iconst (pc' := 49) C d_method_3_48 (v := (1 : Int32)) rfl rfl ?_
          refine Wk.goto C d_method_3_49 (by decide) (pc' := 53) (by decide) ?_
          exact Wk.retNar (ty := .boolean) C (by simp) d_method_3_53 rfl (by decide) (by decide) ⟨congrArg (fun z => some (Value.int z)) (Eq.symm (show vld c = _ from (if_neg (fun z => z.1 q11)).trans ((if_neg (fun z => z.1 q12)).trans ((if_neg (fun z => z.1 q13)).trans (if_pos q14))))), rfl⟩
        · -- pc 39: not taken
          refine Wk.iloadN (pc' := 43) C d_method_3_42 rfl rfl ?_
          refine Wk.bipush (pc' := 45) C d_method_3_43 (v := (95 : Int32)) rfl rfl ?_
          refine Wk.icmp_ne C d_method_3_45 (by decide) (pcT := 52) (by decide) (pc' := 48) rfl (fun q15 => ?_) (fun q15 => ?_)
          · -- pc 45: taken
            refine Wk.iconst (pc' := 53) C d_method_3_52 (v := (0 : Int32)) rfl rfl ?_
            exact Wk.retNar (ty := .boolean) C (by simp) d_method_3_53 rfl (by decide) (by decide) ⟨congrArg (fun z => some (Value.int z)) (Eq.symm (show vld c = _ from (if_neg (fun z => z.1 q11)).trans ((if_neg (fun z => z.1 q12)).trans ((if_neg (fun z => z.1 q13)).trans ((if_neg q14).trans (if_neg q15)))))), rfl⟩
          · -- pc 45: not taken
            refine Wk.iconst (pc' := 49) C d_method_3_48 (v := (1 : Int32)) rfl rfl ?_
            refine Wk.goto C d_method_3_49 (by decide) (pc' := 53) (by decide) ?_
            exact Wk.retNar (ty := .boolean) C (by simp) d_method_3_53 rfl (by decide) (by decide) ⟨congrArg (fun z => some (Value.int z)) (Eq.symm (show vld c = _ from (if_neg (fun z => z.1 q11)).trans ((if_neg (fun z => z.1 q12)).trans ((if_neg (fun z => z.1 q13)).trans ((if_neg q14).trans (if_pos q15)))))), rfl⟩
      · -- pc 27: not taken
        refine Wk.iloadN (pc' := 31) C d_method_3_30 rfl rfl ?_
        refine Wk.bipush (pc' := 33) C d_method_3_31 (v := (57 : Int32)) rfl rfl ?_
        refine Wk.icmp_le C d_method_3_33 (by decide) (pcT := 48) (by decide) (pc' := 36) rfl (fun q16 => ?_) (fun q16 => ?_)
        · -- pc 33: taken
          refine Wk.iconst (pc' := 49) C d_method_3_48 (v := (1 : Int32)) rfl rfl ?_
          refine Wk.goto C d_method_3_49 (by decide) (pc' := 53) (by decide) ?_
          exact Wk.retNar (ty := .boolean) C (by simp) d_method_3_53 rfl (by decide) (by decide) ⟨congrArg (fun z => some (Value.int z)) (Eq.symm (show vld c = _ from (if_neg (fun z => z.1 q11)).trans ((if_neg (fun z => z.1 q12)).trans (if_pos ⟨q13, q16⟩)))), rfl⟩
        · -- pc 33: not taken
          refine Wk.iloadN (pc' := 37) C d_method_3_36 rfl rfl ?_
          refine Wk.bipush (pc' := 39) C d_method_3_37 (v := (45 : Int32)) rfl rfl ?_
          refine Wk.icmp_eq C d_method_3_39 (by decide) (pcT := 48) (by decide) (pc' := 42) rfl (fun q17 => ?_) (fun q17 => ?_)
          · -- pc 39: taken
            refine Wk.iconst (pc' := 49) C d_method_3_48 (v := (1 : Int32)) rfl rfl ?_
            refine Wk.goto C d_method_3_49 (by decide) (pc' := 53) (by decide) ?_
            exact Wk.retNar (ty := .boolean) C (by simp) d_method_3_53 rfl (by decide) (by decide) ⟨congrArg (fun z => some (Value.int z)) (Eq.symm (show vld c = _ from (if_neg (fun z => z.1 q11)).trans ((if_neg (fun z => z.1 q12)).trans ((if_neg (fun z => z.2 q16)).trans (if_pos q17))))), rfl⟩
          · -- pc 39: not taken
            refine Wk.iloadN (pc' := 43) C d_method_3_42 rfl rfl ?_
            refine Wk.bipush (pc' := 45) C d_method_3_43 (v := (95 : Int32)) rfl rfl ?_
            refine Wk.icmp_ne C d_method_3_45 (by decide) (pcT := 52) (by decide) (pc' := 48) rfl (fun q18 => ?_) (fun q18 => ?_)
            · -- pc 45: taken
              refine Wk.iconst (pc' := 53) C d_method_3_52 (v := (0 : Int32)) rfl rfl ?_
              exact Wk.retNar (ty := .boolean) C (by simp) d_method_3_53 rfl (by decide) (by decide) ⟨congrArg (fun z => some (Value.int z)) (Eq.symm (show vld c = _ from (if_neg (fun z => z.1 q11)).trans ((if_neg (fun z => z.1 q12)).trans ((if_neg (fun z => z.2 q16)).trans ((if_neg q17).trans (if_neg q18)))))), rfl⟩
            · -- pc 45: not taken
              refine Wk.iconst (pc' := 49) C d_method_3_48 (v := (1 : Int32)) rfl rfl ?_
              refine Wk.goto C d_method_3_49 (by decide) (pc' := 53) (by decide) ?_
              exact Wk.retNar (ty := .boolean) C (by simp) d_method_3_53 rfl (by decide) (by decide) ⟨congrArg (fun z => some (Value.int z)) (Eq.symm (show vld c = _ from (if_neg (fun z => z.1 q11)).trans ((if_neg (fun z => z.1 q12)).trans ((if_neg (fun z => z.2 q16)).trans ((if_neg q17).trans (if_pos q18)))))), rfl⟩
    · -- pc 15: not taken
      refine Wk.iloadN (pc' := 19) C d_method_3_18 rfl rfl ?_
      refine Wk.bipush (pc' := 21) C d_method_3_19 (v := (122 : Int32)) rfl rfl ?_
      refine Wk.icmp_le C d_method_3_21 (by decide) (pcT := 48) (by decide) (pc' := 24) rfl (fun q19 => ?_) (fun q19 => ?_)
      · -- pc 21: taken
        refine Wk.iconst (pc' := 49) C d_method_3_48 (v := (1 : Int32)) rfl rfl ?_
        refine Wk.goto C d_method_3_49 (by decide) (pc' := 53) (by decide) ?_
        exact Wk.retNar (ty := .boolean) C (by simp) d_method_3_53 rfl (by decide) (by decide) ⟨congrArg (fun z => some (Value.int z)) (Eq.symm (show vld c = _ from (if_neg (fun z => z.1 q11)).trans (if_pos ⟨q12, q19⟩))), rfl⟩
      · -- pc 21: not taken
        refine Wk.iloadN (pc' := 25) C d_method_3_24 rfl rfl ?_
        refine Wk.bipush (pc' := 27) C d_method_3_25 (v := (48 : Int32)) rfl rfl ?_
        refine Wk.icmp_lt C d_method_3_27 (by decide) (pcT := 36) (by decide) (pc' := 30) rfl (fun q20 => ?_) (fun q20 => ?_)
        · -- pc 27: taken
          refine Wk.iloadN (pc' := 37) C d_method_3_36 rfl rfl ?_
          refine Wk.bipush (pc' := 39) C d_method_3_37 (v := (45 : Int32)) rfl rfl ?_
          refine Wk.icmp_eq C d_method_3_39 (by decide) (pcT := 48) (by decide) (pc' := 42) rfl (fun q21 => ?_) (fun q21 => ?_)
          · -- pc 39: taken
            refine Wk.iconst (pc' := 49) C d_method_3_48 (v := (1 : Int32)) rfl rfl ?_
            refine Wk.goto C d_method_3_49 (by decide) (pc' := 53) (by decide) ?_
            exact Wk.retNar (ty := .boolean) C (by simp) d_method_3_53 rfl (by decide) (by decide) ⟨congrArg (fun z => some (Value.int z)) (Eq.symm (show vld c = _ from (if_neg (fun z => z.1 q11)).trans ((if_neg (fun z => z.2 q19)).trans ((if_neg (fun z => z.1 q20)).trans (if_pos q21))))), rfl⟩
          · -- pc 39: not taken
            refine Wk.iloadN (pc' := 43) C d_method_3_42 rfl rfl ?_
            refine Wk.bipush (pc' := 45) C d_method_3_43 (v := (95 : Int32)) rfl rfl ?_
            refine Wk.icmp_ne C d_method_3_45 (by decide) (pcT := 52) (by decide) (pc' := 48) rfl (fun q22 => ?_) (fun q22 => ?_)
            · -- pc 45: taken
              refine Wk.iconst (pc' := 53) C d_method_3_52 (v := (0 : Int32)) rfl rfl ?_
              exact Wk.retNar (ty := .boolean) C (by simp) d_method_3_53 rfl (by decide) (by decide) ⟨congrArg (fun z => some (Value.int z)) (Eq.symm (show vld c = _ from (if_neg (fun z => z.1 q11)).trans ((if_neg (fun z => z.2 q19)).trans ((if_neg (fun z => z.1 q20)).trans ((if_neg q21).trans (if_neg q22)))))), rfl⟩
            · -- pc 45: not taken
              refine Wk.iconst (pc' := 49) C d_method_3_48 (v := (1 : Int32)) rfl rfl ?_
              refine Wk.goto C d_method_3_49 (by decide) (pc' := 53) (by decide) ?_
              exact Wk.retNar (ty := .boolean) C (by simp) d_method_3_53 rfl (by decide) (by decide) ⟨congrArg (fun z => some (Value.int z)) (Eq.symm (show vld c = _ from (if_neg (fun z => z.1 q11)).trans ((if_neg (fun z => z.2 q19)).trans ((if_neg (fun z => z.1 q20)).trans ((if_neg q21).trans (if_pos q22)))))), rfl⟩
        · -- pc 27: not taken
          refine Wk.iloadN (pc' := 31) C d_method_3_30 rfl rfl ?_
          refine Wk.bipush (pc' := 33) C d_method_3_31 (v := (57 : Int32)) rfl rfl ?_
          refine Wk.icmp_le C d_method_3_33 (by decide) (pcT := 48) (by decide) (pc' := 36) rfl (fun q23 => ?_) (fun q23 => ?_)
          · -- pc 33: taken
            refine Wk.iconst (pc' := 49) C d_method_3_48 (v := (1 : Int32)) rfl rfl ?_
            refine Wk.goto C d_method_3_49 (by decide) (pc' := 53) (by decide) ?_
            exact Wk.retNar (ty := .boolean) C (by simp) d_method_3_53 rfl (by decide) (by decide) ⟨congrArg (fun z => some (Value.int z)) (Eq.symm (show vld c = _ from (if_neg (fun z => z.1 q11)).trans ((if_neg (fun z => z.2 q19)).trans (if_pos ⟨q20, q23⟩)))), rfl⟩
          · -- pc 33: not taken
            refine Wk.iloadN (pc' := 37) C d_method_3_36 rfl rfl ?_
            refine Wk.bipush (pc' := 39) C d_method_3_37 (v := (45 : Int32)) rfl rfl ?_
            refine Wk.icmp_eq C d_method_3_39 (by decide) (pcT := 48) (by decide) (pc' := 42) rfl (fun q24 => ?_) (fun q24 => ?_)
            · -- pc 39: taken
              refine Wk.iconst (pc' := 49) C d_method_3_48 (v := (1 : Int32)) rfl rfl ?_
              refine Wk.goto C d_method_3_49 (by decide) (pc' := 53) (by decide) ?_
              exact Wk.retNar (ty := .boolean) C (by simp) d_method_3_53 rfl (by decide) (by decide) ⟨congrArg (fun z => some (Value.int z)) (Eq.symm (show vld c = _ from (if_neg (fun z => z.1 q11)).trans ((if_neg (fun z => z.2 q19)).trans ((if_neg (fun z => z.2 q23)).trans (if_pos q24))))), rfl⟩
            · -- pc 39: not taken
              refine Wk.iloadN (pc' := 43) C d_method_3_42 rfl rfl ?_
              refine Wk.bipush (pc' := 45) C d_method_3_43 (v := (95 : Int32)) rfl rfl ?_
              refine Wk.icmp_ne C d_method_3_45 (by decide) (pcT := 52) (by decide) (pc' := 48) rfl (fun q25 => ?_) (fun q25 => ?_)
              · -- pc 45: taken
                refine Wk.iconst (pc' := 53) C d_method_3_52 (v := (0 : Int32)) rfl rfl ?_
                exact Wk.retNar (ty := .boolean) C (by simp) d_method_3_53 rfl (by decide) (by decide) ⟨congrArg (fun z => some (Value.int z)) (Eq.symm (show vld c = _ from (if_neg (fun z => z.1 q11)).trans ((if_neg (fun z => z.2 q19)).trans ((if_neg (fun z => z.2 q23)).trans ((if_neg q24).trans (if_neg q25)))))), rfl⟩
              · -- pc 45: not taken
                refine Wk.iconst (pc' := 49) C d_method_3_48 (v := (1 : Int32)) rfl rfl ?_
                refine Wk.goto C d_method_3_49 (by decide) (pc' := 53) (by decide) ?_
                exact Wk.retNar (ty := .boolean) C (by simp) d_method_3_53 rfl (by decide) (by decide) ⟨congrArg (fun z => some (Value.int z)) (Eq.symm (show vld c = _ from (if_neg (fun z => z.1 q11)).trans ((if_neg (fun z => z.2 q19)).trans ((if_neg (fun z => z.2 q23)).trans ((if_neg q24).trans (if_pos q25)))))), rfl⟩
  · -- pc 3: not taken
    refine Wk.iloadN (pc' := 7) C d_method_3_6 rfl rfl ?_
    refine Wk.bipush (pc' := 9) C d_method_3_7 (v := (90 : Int32)) rfl rfl ?_
    refine Wk.icmp_le C d_method_3_9 (by decide) (pcT := 48) (by decide) (pc' := 12) rfl (fun q26 => ?_) (fun q26 => ?_)
    · -- pc 9: taken
      refine Wk.iconst (pc' := 49) C d_method_3_48 (v := (1 : Int32)) rfl rfl ?_
      refine Wk.goto C d_method_3_49 (by decide) (pc' := 53) (by decide) ?_
      exact Wk.retNar (ty := .boolean) C (by simp) d_method_3_53 rfl (by decide) (by decide) ⟨congrArg (fun z => some (Value.int z)) (Eq.symm (show vld c = _ from if_pos ⟨q11, q26⟩)), rfl⟩
    · -- pc 9: not taken
      refine Wk.iloadN (pc' := 13) C d_method_3_12 rfl rfl ?_
      refine Wk.bipush (pc' := 15) C d_method_3_13 (v := (97 : Int32)) rfl rfl ?_
      refine Wk.icmp_lt C d_method_3_15 (by decide) (pcT := 24) (by decide) (pc' := 18) rfl (fun q27 => ?_) (fun q27 => ?_)
      · -- pc 15: taken
        refine Wk.iloadN (pc' := 25) C d_method_3_24 rfl rfl ?_
        refine Wk.bipush (pc' := 27) C d_method_3_25 (v := (48 : Int32)) rfl rfl ?_
        refine Wk.icmp_lt C d_method_3_27 (by decide) (pcT := 36) (by decide) (pc' := 30) rfl (fun q28 => ?_) (fun q28 => ?_)
        · -- pc 27: taken
          refine Wk.iloadN (pc' := 37) C d_method_3_36 rfl rfl ?_
          refine Wk.bipush (pc' := 39) C d_method_3_37 (v := (45 : Int32)) rfl rfl ?_
          refine Wk.icmp_eq C d_method_3_39 (by decide) (pcT := 48) (by decide) (pc' := 42) rfl (fun q29 => ?_) (fun q29 => ?_)
          · -- pc 39: taken
            refine Wk.iconst (pc' := 49) C d_method_3_48 (v := (1 : Int32)) rfl rfl ?_
            refine Wk.goto C d_method_3_49 (by decide) (pc' := 53) (by decide) ?_
            exact Wk.retNar (ty := .boolean) C (by simp) d_method_3_53 rfl (by decide) (by decide) ⟨congrArg (fun z => some (Value.int z)) (Eq.symm (show vld c = _ from (if_neg (fun z => z.2 q26)).trans ((if_neg (fun z => z.1 q27)).trans ((if_neg (fun z => z.1 q28)).trans (if_pos q29))))), rfl⟩
          · -- pc 39: not taken
            refine Wk.iloadN (pc' := 43) C d_method_3_42 rfl rfl ?_
            refine Wk.bipush (pc' := 45) C d_method_3_43 (v := (95 : Int32)) rfl rfl ?_
            refine Wk.icmp_ne C d_method_3_45 (by decide) (pcT := 52) (by decide) (pc' := 48) rfl (fun q30 => ?_) (fun q30 => ?_)
            · -- pc 45: taken
              refine Wk.iconst (pc' := 53) C d_method_3_52 (v := (0 : Int32)) rfl rfl ?_
              exact Wk.retNar (ty := .boolean) C (by simp) d_method_3_53 rfl (by decide) (by decide) ⟨congrArg (fun z => some (Value.int z)) (Eq.symm (show vld c = _ from (if_neg (fun z => z.2 q26)).trans ((if_neg (fun z => z.1 q27)).trans ((if_neg (fun z => z.1 q28)).trans ((if_neg q29).trans (if_neg q30)))))), rfl⟩
            · -- pc 45: not taken
              refine Wk.iconst (pc' := 49) C d_method_3_48 (v := (1 : Int32)) rfl rfl ?_
              refine Wk.goto C d_method_3_49 (by decide) (pc' := 53) (by decide) ?_
              exact Wk.retNar (ty := .boolean) C (by simp) d_method_3_53 rfl (by decide) (by decide) ⟨congrArg (fun z => some (Value.int z)) (Eq.symm (show vld c = _ from (if_neg (fun z => z.2 q26)).trans ((if_neg (fun z => z.1 q27)).trans ((if_neg (fun z => z.1 q28)).trans ((if_neg q29).trans (if_pos q30)))))), rfl⟩
        · -- pc 27: not taken
          refine Wk.iloadN (pc' := 31) C d_method_3_30 rfl rfl ?_
          refine Wk.bipush (pc' := 33) C d_method_3_31 (v := (57 : Int32)) rfl rfl ?_
          refine Wk.icmp_le C d_method_3_33 (by decide) (pcT := 48) (by decide) (pc' := 36) rfl (fun q31 => ?_) (fun q31 => ?_)
          · -- pc 33: taken
            refine Wk.iconst (pc' := 49) C d_method_3_48 (v := (1 : Int32)) rfl rfl ?_
            refine Wk.goto C d_method_3_49 (by decide) (pc' := 53) (by decide) ?_
            exact Wk.retNar (ty := .boolean) C (by simp) d_method_3_53 rfl (by decide) (by decide) ⟨congrArg (fun z => some (Value.int z)) (Eq.symm (show vld c = _ from (if_neg (fun z => z.2 q26)).trans ((if_neg (fun z => z.1 q27)).trans (if_pos ⟨q28, q31⟩)))), rfl⟩
          · -- pc 33: not taken
            refine Wk.iloadN (pc' := 37) C d_method_3_36 rfl rfl ?_
            refine Wk.bipush (pc' := 39) C d_method_3_37 (v := (45 : Int32)) rfl rfl ?_
            refine Wk.icmp_eq C d_method_3_39 (by decide) (pcT := 48) (by decide) (pc' := 42) rfl (fun q32 => ?_) (fun q32 => ?_)
            · -- pc 39: taken
              refine Wk.iconst (pc' := 49) C d_method_3_48 (v := (1 : Int32)) rfl rfl ?_
              refine Wk.goto C d_method_3_49 (by decide) (pc' := 53) (by decide) ?_
              exact Wk.retNar (ty := .boolean) C (by simp) d_method_3_53 rfl (by decide) (by decide) ⟨congrArg (fun z => some (Value.int z)) (Eq.symm (show vld c = _ from (if_neg (fun z => z.2 q26)).trans ((if_neg (fun z => z.1 q27)).trans ((if_neg (fun z => z.2 q31)).trans (if_pos q32))))), rfl⟩
            · -- pc 39: not taken
              refine Wk.iloadN (pc' := 43) C d_method_3_42 rfl rfl ?_
              refine Wk.bipush (pc' := 45) C d_method_3_43 (v := (95 : Int32)) rfl rfl ?_
              refine Wk.icmp_ne C d_method_3_45 (by decide) (pcT := 52) (by decide) (pc' := 48) rfl (fun q33 => ?_) (fun q33 => ?_)
              · -- pc 45: taken
                refine Wk.iconst (pc' := 53) C d_method_3_52 (v := (0 : Int32)) rfl rfl ?_
                exact Wk.retNar (ty := .boolean) C (by simp) d_method_3_53 rfl (by decide) (by decide) ⟨congrArg (fun z => some (Value.int z)) (Eq.symm (show vld c = _ from (if_neg (fun z => z.2 q26)).trans ((if_neg (fun z => z.1 q27)).trans ((if_neg (fun z => z.2 q31)).trans ((if_neg q32).trans (if_neg q33)))))), rfl⟩
              · -- pc 45: not taken
                refine Wk.iconst (pc' := 49) C d_method_3_48 (v := (1 : Int32)) rfl rfl ?_
                refine Wk.goto C d_method_3_49 (by decide) (pc' := 53) (by decide) ?_
                exact Wk.retNar (ty := .boolean) C (by simp) d_method_3_53 rfl (by decide) (by decide) ⟨congrArg (fun z => some (Value.int z)) (Eq.symm (show vld c = _ from (if_neg (fun z => z.2 q26)).trans ((if_neg (fun z => z.1 q27)).trans ((if_neg (fun z => z.2 q31)).trans ((if_neg q32).trans (if_pos q33)))))), rfl⟩
      · -- pc 15: not taken
        refine Wk.iloadN (pc' := 19) C d_method_3_18 rfl rfl ?_
        refine Wk.bipush (pc' := 21) C d_method_3_19 (v := (122 : Int32)) rfl rfl ?_
        refine Wk.icmp_le C d_method_3_21 (by decide) (pcT := 48) (by decide) (pc' := 24) rfl (fun q34 => ?_) (fun q34 => ?_)
        · -- pc 21: taken
          refine Wk.iconst (pc' := 49) C d_method_3_48 (v := (1 : Int32)) rfl rfl ?_
          refine Wk.goto C d_method_3_49 (by decide) (pc' := 53) (by decide) ?_
          exact Wk.retNar (ty := .boolean) C (by simp) d_method_3_53 rfl (by decide) (by decide) ⟨congrArg (fun z => some (Value.int z)) (Eq.symm (show vld c = _ from (if_neg (fun z => z.2 q26)).trans (if_pos ⟨q27, q34⟩))), rfl⟩
        · -- pc 21: not taken
          refine Wk.iloadN (pc' := 25) C d_method_3_24 rfl rfl ?_
          refine Wk.bipush (pc' := 27) C d_method_3_25 (v := (48 : Int32)) rfl rfl ?_
          refine Wk.icmp_lt C d_method_3_27 (by decide) (pcT := 36) (by decide) (pc' := 30) rfl (fun q35 => ?_) (fun q35 => ?_)
          · -- pc 27: taken
            refine Wk.iloadN (pc' := 37) C d_method_3_36 rfl rfl ?_
            refine Wk.bipush (pc' := 39) C d_method_3_37 (v := (45 : Int32)) rfl rfl ?_
            refine Wk.icmp_eq C d_method_3_39 (by decide) (pcT := 48) (by decide) (pc' := 42) rfl (fun q36 => ?_) (fun q36 => ?_)
            · -- pc 39: taken
              refine Wk.iconst (pc' := 49) C d_method_3_48 (v := (1 : Int32)) rfl rfl ?_
              refine Wk.goto C d_method_3_49 (by decide) (pc' := 53) (by decide) ?_
              exact Wk.retNar (ty := .boolean) C (by simp) d_method_3_53 rfl (by decide) (by decide) ⟨congrArg (fun z => some (Value.int z)) (Eq.symm (show vld c = _ from (if_neg (fun z => z.2 q26)).trans ((if_neg (fun z => z.2 q34)).trans ((if_neg (fun z => z.1 q35)).trans (if_pos q36))))), rfl⟩
            · -- pc 39: not taken
              refine Wk.iloadN (pc' := 43) C d_method_3_42 rfl rfl ?_
              refine Wk.bipush (pc' := 45) C d_method_3_43 (v := (95 : Int32)) rfl rfl ?_
              refine Wk.icmp_ne C d_method_3_45 (by decide) (pcT := 52) (by decide) (pc' := 48) rfl (fun q37 => ?_) (fun q37 => ?_)
              · -- pc 45: taken
                refine Wk.iconst (pc' := 53) C d_method_3_52 (v := (0 : Int32)) rfl rfl ?_
                exact Wk.retNar (ty := .boolean) C (by simp) d_method_3_53 rfl (by decide) (by decide) ⟨congrArg (fun z => some (Value.int z)) (Eq.symm (show vld c = _ from (if_neg (fun z => z.2 q26)).trans ((if_neg (fun z => z.2 q34)).trans ((if_neg (fun z => z.1 q35)).trans ((if_neg q36).trans (if_neg q37)))))), rfl⟩
              · -- pc 45: not taken
                refine Wk.iconst (pc' := 49) C d_method_3_48 (v := (1 : Int32)) rfl rfl ?_
                refine Wk.goto C d_method_3_49 (by decide) (pc' := 53) (by decide) ?_
                exact Wk.retNar (ty := .boolean) C (by simp) d_method_3_53 rfl (by decide) (by decide) ⟨congrArg (fun z => some (Value.int z)) (Eq.symm (show vld c = _ from (if_neg (fun z => z.2 q26)).trans ((if_neg (fun z => z.2 q34)).trans ((if_neg (fun z => z.1 q35)).trans ((if_neg q36).trans (if_pos q37)))))), rfl⟩
          · -- pc 27: not taken
            refine Wk.iloadN (pc' := 31) C d_method_3_30 rfl rfl ?_
            refine Wk.bipush (pc' := 33) C d_method_3_31 (v := (57 : Int32)) rfl rfl ?_
            refine Wk.icmp_le C d_method_3_33 (by decide) (pcT := 48) (by decide) (pc' := 36) rfl (fun q38 => ?_) (fun q38 => ?_)
            · -- pc 33: taken
              refine Wk.iconst (pc' := 49) C d_method_3_48 (v := (1 : Int32)) rfl rfl ?_
              refine Wk.goto C d_method_3_49 (by decide) (pc' := 53) (by decide) ?_
              exact Wk.retNar (ty := .boolean) C (by simp) d_method_3_53 rfl (by decide) (by decide) ⟨congrArg (fun z => some (Value.int z)) (Eq.symm (show vld c = _ from (if_neg (fun z => z.2 q26)).trans ((if_neg (fun z => z.2 q34)).trans (if_pos ⟨q35, q38⟩)))), rfl⟩
            · -- pc 33: not taken
              refine Wk.iloadN (pc' := 37) C d_method_3_36 rfl rfl ?_
              refine Wk.bipush (pc' := 39) C d_method_3_37 (v := (45 : Int32)) rfl rfl ?_
              refine Wk.icmp_eq C d_method_3_39 (by decide) (pcT := 48) (by decide) (pc' := 42) rfl (fun q39 => ?_) (fun q39 => ?_)
              · -- pc 39: taken
                refine Wk.iconst (pc' := 49) C d_method_3_48 (v := (1 : Int32)) rfl rfl ?_
                refine Wk.goto C d_method_3_49 (by decide) (pc' := 53) (by decide) ?_
                exact Wk.retNar (ty := .boolean) C (by simp) d_method_3_53 rfl (by decide) (by decide) ⟨congrArg (fun z => some (Value.int z)) (Eq.symm (show vld c = _ from (if_neg (fun z => z.2 q26)).trans ((if_neg (fun z => z.2 q34)).trans ((if_neg (fun z => z.2 q38)).trans (if_pos q39))))), rfl⟩
              · -- pc 39: not taken
                refine Wk.iloadN (pc' := 43) C d_method_3_42 rfl rfl ?_
                refine Wk.bipush (pc' := 45) C d_method_3_43 (v := (95 : Int32)) rfl rfl ?_
                refine Wk.icmp_ne C d_method_3_45 (by decide) (pcT := 52) (by decide) (pc' := 48) rfl (fun q40 => ?_) (fun q40 => ?_)
                · -- pc 45: taken
                  refine Wk.iconst (pc' := 53) C d_method_3_52 (v := (0 : Int32)) rfl rfl ?_
                  exact Wk.retNar (ty := .boolean) C (by simp) d_method_3_53 rfl (by decide) (by decide) ⟨congrArg (fun z => some (Value.int z)) (Eq.symm (show vld c = _ from (if_neg (fun z => z.2 q26)).trans ((if_neg (fun z => z.2 q34)).trans ((if_neg (fun z => z.2 q38)).trans ((if_neg q39).trans (if_neg q40)))))), rfl⟩
                · -- pc 45: not taken
                  refine Wk.iconst (pc' := 49) C d_method_3_48 (v := (1 : Int32)) rfl rfl ?_
                  refine Wk.goto C d_method_3_49 (by decide) (pc' := 53) (by decide) ?_
                  exact Wk.retNar (ty := .boolean) C (by simp) d_method_3_53 rfl (by decide) (by decide) ⟨congrArg (fun z => some (Value.int z)) (Eq.symm (show vld c = _ from (if_neg (fun z => z.2 q26)).trans ((if_neg (fun z => z.2 q34)).trans ((if_neg (fun z => z.2 q38)).trans ((if_neg q39).trans (if_pos q40)))))), rfl⟩
set_option maxRecDepth 65536 in
set_option maxHeartbeats 40000000 in
theorem own_six (l : Launch) {Z : State} {a0 : Array Value} (hw : Ws a0 Z) {h0 : Heap} (O0 : Ext Z.heap h0) (c : Int32)  :
    Wk.Con l Z (⟨"com/example/scopegate/scopegate/token/Base64UrlIsCanonicalPinLaw", "sixBits", "(C)I"⟩ : MethodName) method_4_code 1 (some .int) ({ frames := 0, cells := 0, slots := 0, locals := 0 } : Room) #[(.int c)] h0 (fun v h' => v = some (.int (six c)) ∧ h' = h0) := by
  refine Wk.Con.intro (plainFor_of_name pn0) O0 (fun m => ef1 m c) ?_
  intro W C
  replace C : Wk.Cx Z W "com/example/scopegate/scopegate/token/Base64UrlIsCanonicalPinLaw" "sixBits" method_4_code 1 (some .int) := C
  refine Wk.iloadN (pc' := 1) C d_method_4_0 rfl rfl ?_
  refine Wk.bipush (pc' := 3) C d_method_4_1 (v := (65 : Int32)) rfl rfl ?_
  refine Wk.icmp_lt C d_method_4_3 (by decide) (pcT := 17) (by decide) (pc' := 6) rfl (fun q11 => ?_) (fun q11 => ?_)
  · -- pc 3: taken
    refine Wk.iloadN (pc' := 18) C d_method_4_17 rfl rfl ?_
    refine Wk.bipush (pc' := 20) C d_method_4_18 (v := (97 : Int32)) rfl rfl ?_
    refine Wk.icmp_lt C d_method_4_20 (by decide) (pcT := 37) (by decide) (pc' := 23) rfl (fun q12 => ?_) (fun q12 => ?_)
    · -- pc 20: taken
      refine Wk.iloadN (pc' := 38) C d_method_4_37 rfl rfl ?_
      refine Wk.bipush (pc' := 40) C d_method_4_38 (v := (48 : Int32)) rfl rfl ?_
      refine Wk.icmp_lt C d_method_4_40 (by decide) (pcT := 57) (by decide) (pc' := 43) rfl (fun q13 => ?_) (fun q13 => ?_)
      · -- pc 40: taken
        refine Wk.iloadN (pc' := 58) C d_method_4_57 rfl rfl ?_
        refine Wk.bipush (pc' := 60) C d_method_4_58 (v := (45 : Int32)) rfl rfl ?_
        refine Wk.icmp_ne C d_method_4_60 (by decide) (pcT := 66) (by decide) (pc' := 63) rfl (fun q14 => ?_) (fun q14 => ?_)
        · -- pc 60: taken
          refine Wk.bipush (pc' := 68) C d_method_4_66 (v := (63 : Int32)) rfl rfl ?_
          exact Wk.retI C d_method_4_68 (by decide) (by decide) ⟨congrArg (fun z => some (Value.int z)) (Eq.symm (show six c = _ from (if_neg (fun z => z.1 q11)).trans ((if_neg (fun z => z.1 q12)).trans ((if_neg (fun z => z.1 q13)).trans (if_neg q14))))), rfl⟩
        · -- pc 60: not taken
          refine Wk.bipush (pc' := 65) C d_method_4_63 (v := (62 : Int32)) rfl rfl ?_
          exact Wk.retI C d_method_4_65 (by decide) (by decide) ⟨congrArg (fun z => some (Value.int z)) (Eq.symm (show six c = _ from (if_neg (fun z => z.1 q11)).trans ((if_neg (fun z => z.1 q12)).trans ((if_neg (fun z => z.1 q13)).trans (if_pos q14))))), rfl⟩
      · -- pc 40: not taken
        refine Wk.iloadN (pc' := 44) C d_method_4_43 rfl rfl ?_
        refine Wk.bipush (pc' := 46) C d_method_4_44 (v := (57 : Int32)) rfl rfl ?_
        refine Wk.icmp_gt C d_method_4_46 (by decide) (pcT := 57) (by decide) (pc' := 49) rfl (fun q15 => ?_) (fun q15 => ?_)
        · -- pc 46: taken
          refine Wk.iloadN (pc' := 58) C d_method_4_57 rfl rfl ?_
          refine Wk.bipush (pc' := 60) C d_method_4_58 (v := (45 : Int32)) rfl rfl ?_
          refine Wk.icmp_ne C d_method_4_60 (by decide) (pcT := 66) (by decide) (pc' := 63) rfl (fun q16 => ?_) (fun q16 => ?_)
          · -- pc 60: taken
            refine Wk.bipush (pc' := 68) C d_method_4_66 (v := (63 : Int32)) rfl rfl ?_
            exact Wk.retI C d_method_4_68 (by decide) (by decide) ⟨congrArg (fun z => some (Value.int z)) (Eq.symm (show six c = _ from (if_neg (fun z => z.1 q11)).trans ((if_neg (fun z => z.1 q12)).trans ((if_neg (fun z => z.2 q15)).trans (if_neg q16))))), rfl⟩
          · -- pc 60: not taken
            refine Wk.bipush (pc' := 65) C d_method_4_63 (v := (62 : Int32)) rfl rfl ?_
            exact Wk.retI C d_method_4_65 (by decide) (by decide) ⟨congrArg (fun z => some (Value.int z)) (Eq.symm (show six c = _ from (if_neg (fun z => z.1 q11)).trans ((if_neg (fun z => z.1 q12)).trans ((if_neg (fun z => z.2 q15)).trans (if_pos q16))))), rfl⟩
        · -- pc 46: not taken
          refine Wk.iloadN (pc' := 50) C d_method_4_49 rfl rfl ?_
          refine Wk.bipush (pc' := 52) C d_method_4_50 (v := (48 : Int32)) rfl rfl ?_
          obtain ⟨v17, hv17⟩ : ∃ z : Int32, c - (48 : Int32) = z := ⟨_, rfl⟩
          refine Wk.isub (pc' := 53) C d_method_4_52 hv17 rfl ?_
          refine Wk.bipush (pc' := 55) C d_method_4_53 (v := (52 : Int32)) rfl rfl ?_
          obtain ⟨v18, hv18⟩ : ∃ z : Int32, v17 + (52 : Int32) = z := ⟨_, rfl⟩
          refine Wk.iadd (pc' := 56) C d_method_4_55 hv18 rfl ?_
          exact Wk.retI C d_method_4_56 (by decide) (by decide) ⟨congrArg (fun z => some (Value.int z)) (Eq.symm (show six c = _ from (if_neg (fun z => z.1 q11)).trans ((if_neg (fun z => z.1 q12)).trans ((if_pos ⟨q13, q15⟩).trans (by rw [hv17, hv18]))))), rfl⟩
    · -- pc 20: not taken
      refine Wk.iloadN (pc' := 24) C d_method_4_23 rfl rfl ?_
      refine Wk.bipush (pc' := 26) C d_method_4_24 (v := (122 : Int32)) rfl rfl ?_
      refine Wk.icmp_gt C d_method_4_26 (by decide) (pcT := 37) (by decide) (pc' := 29) rfl (fun q19 => ?_) (fun q19 => ?_)
      · -- pc 26: taken
        refine Wk.iloadN (pc' := 38) C d_method_4_37 rfl rfl ?_
        refine Wk.bipush (pc' := 40) C d_method_4_38 (v := (48 : Int32)) rfl rfl ?_
        refine Wk.icmp_lt C d_method_4_40 (by decide) (pcT := 57) (by decide) (pc' := 43) rfl (fun q20 => ?_) (fun q20 => ?_)
        · -- pc 40: taken
          refine Wk.iloadN (pc' := 58) C d_method_4_57 rfl rfl ?_
          refine Wk.bipush (pc' := 60) C d_method_4_58 (v := (45 : Int32)) rfl rfl ?_
          refine Wk.icmp_ne C d_method_4_60 (by decide) (pcT := 66) (by decide) (pc' := 63) rfl (fun q21 => ?_) (fun q21 => ?_)
          · -- pc 60: taken
            refine Wk.bipush (pc' := 68) C d_method_4_66 (v := (63 : Int32)) rfl rfl ?_
            exact Wk.retI C d_method_4_68 (by decide) (by decide) ⟨congrArg (fun z => some (Value.int z)) (Eq.symm (show six c = _ from (if_neg (fun z => z.1 q11)).trans ((if_neg (fun z => z.2 q19)).trans ((if_neg (fun z => z.1 q20)).trans (if_neg q21))))), rfl⟩
          · -- pc 60: not taken
            refine Wk.bipush (pc' := 65) C d_method_4_63 (v := (62 : Int32)) rfl rfl ?_
            exact Wk.retI C d_method_4_65 (by decide) (by decide) ⟨congrArg (fun z => some (Value.int z)) (Eq.symm (show six c = _ from (if_neg (fun z => z.1 q11)).trans ((if_neg (fun z => z.2 q19)).trans ((if_neg (fun z => z.1 q20)).trans (if_pos q21))))), rfl⟩
        · -- pc 40: not taken
          refine Wk.iloadN (pc' := 44) C d_method_4_43 rfl rfl ?_
          refine Wk.bipush (pc' := 46) C d_method_4_44 (v := (57 : Int32)) rfl rfl ?_
          refine Wk.icmp_gt C d_method_4_46 (by decide) (pcT := 57) (by decide) (pc' := 49) rfl (fun q22 => ?_) (fun q22 => ?_)
          · -- pc 46: taken
            refine Wk.iloadN (pc' := 58) C d_method_4_57 rfl rfl ?_
            refine Wk.bipush (pc' := 60) C d_method_4_58 (v := (45 : Int32)) rfl rfl ?_
            refine Wk.icmp_ne C d_method_4_60 (by decide) (pcT := 66) (by decide) (pc' := 63) rfl (fun q23 => ?_) (fun q23 => ?_)
            · -- pc 60: taken
              refine Wk.bipush (pc' := 68) C d_method_4_66 (v := (63 : Int32)) rfl rfl ?_
              exact Wk.retI C d_method_4_68 (by decide) (by decide) ⟨congrArg (fun z => some (Value.int z)) (Eq.symm (show six c = _ from (if_neg (fun z => z.1 q11)).trans ((if_neg (fun z => z.2 q19)).trans ((if_neg (fun z => z.2 q22)).trans (if_neg q23))))), rfl⟩
            · -- pc 60: not taken
              refine Wk.bipush (pc' := 65) C d_method_4_63 (v := (62 : Int32)) rfl rfl ?_
              exact Wk.retI C d_method_4_65 (by decide) (by decide) ⟨congrArg (fun z => some (Value.int z)) (Eq.symm (show six c = _ from (if_neg (fun z => z.1 q11)).trans ((if_neg (fun z => z.2 q19)).trans ((if_neg (fun z => z.2 q22)).trans (if_pos q23))))), rfl⟩
          · -- pc 46: not taken
            refine Wk.iloadN (pc' := 50) C d_method_4_49 rfl rfl ?_
            refine Wk.bipush (pc' := 52) C d_method_4_50 (v := (48 : Int32)) rfl rfl ?_
            obtain ⟨v24, hv24⟩ : ∃ z : Int32, c - (48 : Int32) = z := ⟨_, rfl⟩
            refine Wk.isub (pc' := 53) C d_method_4_52 hv24 rfl ?_
            refine Wk.bipush (pc' := 55) C d_method_4_53 (v := (52 : Int32)) rfl rfl ?_
            obtain ⟨v25, hv25⟩ : ∃ z : Int32, v24 + (52 : Int32) = z := ⟨_, rfl⟩
            refine Wk.iadd (pc' := 56) C d_method_4_55 hv25 rfl ?_
            exact Wk.retI C d_method_4_56 (by decide) (by decide) ⟨congrArg (fun z => some (Value.int z)) (Eq.symm (show six c = _ from (if_neg (fun z => z.1 q11)).trans ((if_neg (fun z => z.2 q19)).trans ((if_pos ⟨q20, q22⟩).trans (by rw [hv24, hv25]))))), rfl⟩
      · -- pc 26: not taken
        refine Wk.iloadN (pc' := 30) C d_method_4_29 rfl rfl ?_
        refine Wk.bipush (pc' := 32) C d_method_4_30 (v := (97 : Int32)) rfl rfl ?_
        obtain ⟨v26, hv26⟩ : ∃ z : Int32, c - (97 : Int32) = z := ⟨_, rfl⟩
        refine Wk.isub (pc' := 33) C d_method_4_32 hv26 rfl ?_
        refine Wk.bipush (pc' := 35) C d_method_4_33 (v := (26 : Int32)) rfl rfl ?_
        obtain ⟨v27, hv27⟩ : ∃ z : Int32, v26 + (26 : Int32) = z := ⟨_, rfl⟩
        refine Wk.iadd (pc' := 36) C d_method_4_35 hv27 rfl ?_
        exact Wk.retI C d_method_4_36 (by decide) (by decide) ⟨congrArg (fun z => some (Value.int z)) (Eq.symm (show six c = _ from (if_neg (fun z => z.1 q11)).trans ((if_pos ⟨q12, q19⟩).trans (by rw [hv26, hv27])))), rfl⟩
  · -- pc 3: not taken
    refine Wk.iloadN (pc' := 7) C d_method_4_6 rfl rfl ?_
    refine Wk.bipush (pc' := 9) C d_method_4_7 (v := (90 : Int32)) rfl rfl ?_
    refine Wk.icmp_gt C d_method_4_9 (by decide) (pcT := 17) (by decide) (pc' := 12) rfl (fun q28 => ?_) (fun q28 => ?_)
    · -- pc 9: taken
      refine Wk.iloadN (pc' := 18) C d_method_4_17 rfl rfl ?_
      refine Wk.bipush (pc' := 20) C d_method_4_18 (v := (97 : Int32)) rfl rfl ?_
      refine Wk.icmp_lt C d_method_4_20 (by decide) (pcT := 37) (by decide) (pc' := 23) rfl (fun q29 => ?_) (fun q29 => ?_)
      · -- pc 20: taken
        refine Wk.iloadN (pc' := 38) C d_method_4_37 rfl rfl ?_
        refine Wk.bipush (pc' := 40) C d_method_4_38 (v := (48 : Int32)) rfl rfl ?_
        refine Wk.icmp_lt C d_method_4_40 (by decide) (pcT := 57) (by decide) (pc' := 43) rfl (fun q30 => ?_) (fun q30 => ?_)
        · -- pc 40: taken
          refine Wk.iloadN (pc' := 58) C d_method_4_57 rfl rfl ?_
          refine Wk.bipush (pc' := 60) C d_method_4_58 (v := (45 : Int32)) rfl rfl ?_
          refine Wk.icmp_ne C d_method_4_60 (by decide) (pcT := 66) (by decide) (pc' := 63) rfl (fun q31 => ?_) (fun q31 => ?_)
          · -- pc 60: taken
            refine Wk.bipush (pc' := 68) C d_method_4_66 (v := (63 : Int32)) rfl rfl ?_
            exact Wk.retI C d_method_4_68 (by decide) (by decide) ⟨congrArg (fun z => some (Value.int z)) (Eq.symm (show six c = _ from (if_neg (fun z => z.2 q28)).trans ((if_neg (fun z => z.1 q29)).trans ((if_neg (fun z => z.1 q30)).trans (if_neg q31))))), rfl⟩
          · -- pc 60: not taken
            refine Wk.bipush (pc' := 65) C d_method_4_63 (v := (62 : Int32)) rfl rfl ?_
            exact Wk.retI C d_method_4_65 (by decide) (by decide) ⟨congrArg (fun z => some (Value.int z)) (Eq.symm (show six c = _ from (if_neg (fun z => z.2 q28)).trans ((if_neg (fun z => z.1 q29)).trans ((if_neg (fun z => z.1 q30)).trans (if_pos q31))))), rfl⟩
        · -- pc 40: not taken
          refine Wk.iloadN (pc' := 44) C d_method_4_43 rfl rfl ?_
          refine Wk.bipush (pc' := 46) C d_method_4_44 (v := (57 : Int32)) rfl rfl ?_
          refine Wk.icmp_gt C d_method_4_46 (by decide) (pcT := 57) (by decide) (pc' := 49) rfl (fun q32 => ?_) (fun q32 => ?_)
          · -- pc 46: taken
            refine Wk.iloadN (pc' := 58) C d_method_4_57 rfl rfl ?_
            refine Wk.bipush (pc' := 60) C d_method_4_58 (v := (45 : Int32)) rfl rfl ?_
            refine Wk.icmp_ne C d_method_4_60 (by decide) (pcT := 66) (by decide) (pc' := 63) rfl (fun q33 => ?_) (fun q33 => ?_)
            · -- pc 60: taken
              refine Wk.bipush (pc' := 68) C d_method_4_66 (v := (63 : Int32)) rfl rfl ?_
              exact Wk.retI C d_method_4_68 (by decide) (by decide) ⟨congrArg (fun z => some (Value.int z)) (Eq.symm (show six c = _ from (if_neg (fun z => z.2 q28)).trans ((if_neg (fun z => z.1 q29)).trans ((if_neg (fun z => z.2 q32)).trans (if_neg q33))))), rfl⟩
            · -- pc 60: not taken
              refine Wk.bipush (pc' := 65) C d_method_4_63 (v := (62 : Int32)) rfl rfl ?_
              exact Wk.retI C d_method_4_65 (by decide) (by decide) ⟨congrArg (fun z => some (Value.int z)) (Eq.symm (show six c = _ from (if_neg (fun z => z.2 q28)).trans ((if_neg (fun z => z.1 q29)).trans ((if_neg (fun z => z.2 q32)).trans (if_pos q33))))), rfl⟩
          · -- pc 46: not taken
            refine Wk.iloadN (pc' := 50) C d_method_4_49 rfl rfl ?_
            refine Wk.bipush (pc' := 52) C d_method_4_50 (v := (48 : Int32)) rfl rfl ?_
            obtain ⟨v34, hv34⟩ : ∃ z : Int32, c - (48 : Int32) = z := ⟨_, rfl⟩
            refine Wk.isub (pc' := 53) C d_method_4_52 hv34 rfl ?_
            refine Wk.bipush (pc' := 55) C d_method_4_53 (v := (52 : Int32)) rfl rfl ?_
            obtain ⟨v35, hv35⟩ : ∃ z : Int32, v34 + (52 : Int32) = z := ⟨_, rfl⟩
            refine Wk.iadd (pc' := 56) C d_method_4_55 hv35 rfl ?_
            exact Wk.retI C d_method_4_56 (by decide) (by decide) ⟨congrArg (fun z => some (Value.int z)) (Eq.symm (show six c = _ from (if_neg (fun z => z.2 q28)).trans ((if_neg (fun z => z.1 q29)).trans ((if_pos ⟨q30, q32⟩).trans (by rw [hv34, hv35]))))), rfl⟩
      · -- pc 20: not taken
        refine Wk.iloadN (pc' := 24) C d_method_4_23 rfl rfl ?_
        refine Wk.bipush (pc' := 26) C d_method_4_24 (v := (122 : Int32)) rfl rfl ?_
        refine Wk.icmp_gt C d_method_4_26 (by decide) (pcT := 37) (by decide) (pc' := 29) rfl (fun q36 => ?_) (fun q36 => ?_)
        · -- pc 26: taken
          refine Wk.iloadN (pc' := 38) C d_method_4_37 rfl rfl ?_
          refine Wk.bipush (pc' := 40) C d_method_4_38 (v := (48 : Int32)) rfl rfl ?_
          refine Wk.icmp_lt C d_method_4_40 (by decide) (pcT := 57) (by decide) (pc' := 43) rfl (fun q37 => ?_) (fun q37 => ?_)
          · -- pc 40: taken
            refine Wk.iloadN (pc' := 58) C d_method_4_57 rfl rfl ?_
            refine Wk.bipush (pc' := 60) C d_method_4_58 (v := (45 : Int32)) rfl rfl ?_
            refine Wk.icmp_ne C d_method_4_60 (by decide) (pcT := 66) (by decide) (pc' := 63) rfl (fun q38 => ?_) (fun q38 => ?_)
            · -- pc 60: taken
              refine Wk.bipush (pc' := 68) C d_method_4_66 (v := (63 : Int32)) rfl rfl ?_
              exact Wk.retI C d_method_4_68 (by decide) (by decide) ⟨congrArg (fun z => some (Value.int z)) (Eq.symm (show six c = _ from (if_neg (fun z => z.2 q28)).trans ((if_neg (fun z => z.2 q36)).trans ((if_neg (fun z => z.1 q37)).trans (if_neg q38))))), rfl⟩
            · -- pc 60: not taken
              refine Wk.bipush (pc' := 65) C d_method_4_63 (v := (62 : Int32)) rfl rfl ?_
              exact Wk.retI C d_method_4_65 (by decide) (by decide) ⟨congrArg (fun z => some (Value.int z)) (Eq.symm (show six c = _ from (if_neg (fun z => z.2 q28)).trans ((if_neg (fun z => z.2 q36)).trans ((if_neg (fun z => z.1 q37)).trans (if_pos q38))))), rfl⟩
          · -- pc 40: not taken
            refine Wk.iloadN (pc' := 44) C d_method_4_43 rfl rfl ?_
            refine Wk.bipush (pc' := 46) C d_method_4_44 (v := (57 : Int32)) rfl rfl ?_
            refine Wk.icmp_gt C d_method_4_46 (by decide) (pcT := 57) (by decide) (pc' := 49) rfl (fun q39 => ?_) (fun q39 => ?_)
            · -- pc 46: taken
              refine Wk.iloadN (pc' := 58) C d_method_4_57 rfl rfl ?_
              refine Wk.bipush (pc' := 60) C d_method_4_58 (v := (45 : Int32)) rfl rfl ?_
              refine Wk.icmp_ne C d_method_4_60 (by decide) (pcT := 66) (by decide) (pc' := 63) rfl (fun q40 => ?_) (fun q40 => ?_)
              · -- pc 60: taken
                refine Wk.bipush (pc' := 68) C d_method_4_66 (v := (63 : Int32)) rfl rfl ?_
                exact Wk.retI C d_method_4_68 (by decide) (by decide) ⟨congrArg (fun z => some (Value.int z)) (Eq.symm (show six c = _ from (if_neg (fun z => z.2 q28)).trans ((if_neg (fun z => z.2 q36)).trans ((if_neg (fun z => z.2 q39)).trans (if_neg q40))))), rfl⟩
              · -- pc 60: not taken
                refine Wk.bipush (pc' := 65) C d_method_4_63 (v := (62 : Int32)) rfl rfl ?_
                exact Wk.retI C d_method_4_65 (by decide) (by decide) ⟨congrArg (fun z => some (Value.int z)) (Eq.symm (show six c = _ from (if_neg (fun z => z.2 q28)).trans ((if_neg (fun z => z.2 q36)).trans ((if_neg (fun z => z.2 q39)).trans (if_pos q40))))), rfl⟩
            · -- pc 46: not taken
              refine Wk.iloadN (pc' := 50) C d_method_4_49 rfl rfl ?_
              refine Wk.bipush (pc' := 52) C d_method_4_50 (v := (48 : Int32)) rfl rfl ?_
              obtain ⟨v41, hv41⟩ : ∃ z : Int32, c - (48 : Int32) = z := ⟨_, rfl⟩
              refine Wk.isub (pc' := 53) C d_method_4_52 hv41 rfl ?_
              refine Wk.bipush (pc' := 55) C d_method_4_53 (v := (52 : Int32)) rfl rfl ?_
              obtain ⟨v42, hv42⟩ : ∃ z : Int32, v41 + (52 : Int32) = z := ⟨_, rfl⟩
              refine Wk.iadd (pc' := 56) C d_method_4_55 hv42 rfl ?_
              exact Wk.retI C d_method_4_56 (by decide) (by decide) ⟨congrArg (fun z => some (Value.int z)) (Eq.symm (show six c = _ from (if_neg (fun z => z.2 q28)).trans ((if_neg (fun z => z.2 q36)).trans ((if_pos ⟨q37, q39⟩).trans (by rw [hv41, hv42]))))), rfl⟩
        · -- pc 26: not taken
          refine Wk.iloadN (pc' := 30) C d_method_4_29 rfl rfl ?_
          refine Wk.bipush (pc' := 32) C d_method_4_30 (v := (97 : Int32)) rfl rfl ?_
          obtain ⟨v43, hv43⟩ : ∃ z : Int32, c - (97 : Int32) = z := ⟨_, rfl⟩
          refine Wk.isub (pc' := 33) C d_method_4_32 hv43 rfl ?_
          refine Wk.bipush (pc' := 35) C d_method_4_33 (v := (26 : Int32)) rfl rfl ?_
          obtain ⟨v44, hv44⟩ : ∃ z : Int32, v43 + (26 : Int32) = z := ⟨_, rfl⟩
          refine Wk.iadd (pc' := 36) C d_method_4_35 hv44 rfl ?_
          exact Wk.retI C d_method_4_36 (by decide) (by decide) ⟨congrArg (fun z => some (Value.int z)) (Eq.symm (show six c = _ from (if_neg (fun z => z.2 q28)).trans ((if_pos ⟨q29, q36⟩).trans (by rw [hv43, hv44])))), rfl⟩
    · -- pc 9: not taken
      refine Wk.iloadN (pc' := 13) C d_method_4_12 rfl rfl ?_
      refine Wk.bipush (pc' := 15) C d_method_4_13 (v := (65 : Int32)) rfl rfl ?_
      obtain ⟨v45, hv45⟩ : ∃ z : Int32, c - (65 : Int32) = z := ⟨_, rfl⟩
      refine Wk.isub (pc' := 16) C d_method_4_15 hv45 rfl ?_
      exact Wk.retI C d_method_4_16 (by decide) (by decide) ⟨congrArg (fun z => some (Value.int z)) (Eq.symm (show six c = _ from (if_pos ⟨q11, q28⟩).trans (by rw [hv45]))), rfl⟩
set_option maxRecDepth 65536 in
set_option maxHeartbeats 40000000 in
theorem own_value (l : Launch) {Z : State} {a0 : Array Value} (hw : Ws a0 Z) {h0 : Heap} (O0 : Ext Z.heap h0) (aT : Addr) (c : Int32) (ST : Sta Z Z.heap "com/example/scopegate/scopegate/token/Base64Url" "VALUES" "[B" (.ref aT)) (VT : Wk.Ary Z Z.heap aT .byte tabV) (r : ¬ c < 0 ∧ ¬ (255 : Int32) < c) :
    Wk.Con l Z (⟨"com/example/scopegate/scopegate/token/Base64Url", "value", "(C)I"⟩ : MethodName) prog_15_method_5_code 1 (some .int) ({ frames := 0, cells := 0, slots := 0, locals := 0 } : Room) #[(.int c)] h0 (fun v h' => v = some (.int (val c)) ∧ h' = h0) := by
  refine Wk.Con.intro (plainFor_of_name pn1) O0 (fun m => ef2 m c) ?_
  intro W C
  replace C : Wk.Cx Z W "com/example/scopegate/scopegate/token/Base64Url" "value" prog_15_method_5_code 1 (some .int) := C
  refine Wk.iloadN (pc' := 1) C d_prog_15m5_0 rfl rfl ?_
  refine Wk.getS (pc' := 4) C d_prog_15m5_1 (w61 hw) Via.refl (ST.ext O0) rfl ?_
  refine Wk.alen (pc' := 5) C d_prog_15m5_4 (VT.ext O0) (z := (128 : Int32)) (by rw [own_tabLen]; rfl) rfl ?_
  refine Wk.icmp_ge C d_prog_15m5_5 (by decide) (pcT := 16) (by decide) (pc' := 8) rfl (fun q11 => ?_) (fun q11 => ?_)
  · -- pc 5: taken
    refine Wk.iconst (pc' := 17) C d_prog_15m5_16 (v := (-1 : Int32)) rfl rfl ?_
    exact Wk.retI C d_prog_15m5_17 (by decide) (by decide) ⟨congrArg (fun z => some (Value.int z)) (Eq.symm (show val c = _ from if_pos q11)), rfl⟩
  · -- pc 5: not taken
    refine Wk.getS (pc' := 11) C d_prog_15m5_8 (w61 hw) Via.refl (ST.ext O0) rfl ?_
    refine Wk.iloadN (pc' := 12) C d_prog_15m5_11 rfl rfl ?_
    refine Wk.baload (pc' := 13) C d_prog_15m5_12 (VT.ext O0) r.1 (v := (.int (b64n c.toNatClampNeg))) (own_tabGet (own_lt r q11)) rfl ?_
    refine Wk.goto C d_prog_15m5_13 (by decide) (pc' := 17) (by decide) ?_
    exact Wk.retI C d_prog_15m5_17 (by decide) (by decide) ⟨congrArg (fun z => some (Value.int z)) (Eq.symm (show val c = _ from if_neg (fun z => z q11))), rfl⟩
set_option maxRecDepth 65536 in
set_option maxHeartbeats 40000000 in
theorem own_okAt0 (l : Launch) {Z : State} {a0 : Array Value} (hw : Ws a0 Z) {h0 : Heap} (O0 : Ext Z.heap h0) (a : Addr) (cs : List Int32) (s e : Int32) (V : Wk.Ary Z h0 a .char (cs.map Value.int)) (hl : cs.length = 6) :
    Wk.Con l Z (⟨"com/example/scopegate/scopegate/token/Base64UrlIsCanonicalPinLaw", "okAt", "([CIII)Z"⟩ : MethodName) method_5_code 4 (some .boolean) ({ frames := 1, cells := 0, slots := 0, locals := 12 } : Room) #[(.ref a), (.int (0 : Int32)), (.int s), (.int e)] h0 (fun v h' => v = some (.int (okI 0 s e (cs.getD 0 0))) ∧ h' = h0) := by
  refine Wk.Con.intro (plainFor_of_name pn0) O0 (fun m => ef3 m a s e) ?_
  intro W C
  replace C : Wk.Cx Z W "com/example/scopegate/scopegate/token/Base64UrlIsCanonicalPinLaw" "okAt" method_5_code 4 (some .boolean) := C
  refine Wk.iloadN (pc' := 1) C d_method_5_0 rfl rfl ?_
  refine Wk.iloadN (pc' := 2) C d_method_5_1 rfl rfl ?_
  refine Wk.icmp_lt C d_method_5_2 (by decide) (pcT := 19) (by decide) (pc' := 5) rfl (fun q11 => ?_) (fun q11 => ?_)
  · -- pc 2: taken
    refine Wk.iconst (pc' := 20) C d_method_5_19 (v := (1 : Int32)) rfl rfl ?_
    refine Wk.goto C d_method_5_20 (by decide) (pc' := 24) (by decide) ?_
    exact Wk.retNar (ty := .boolean) C (by simp) d_method_5_24 rfl (by decide) (by decide) ⟨congrArg (fun z => some (Value.int z)) (Eq.symm (show okI 0 s e (cs.getD 0 0) = _ from if_pos q11)), rfl⟩
  · -- pc 2: not taken
    refine Wk.iloadN (pc' := 6) C d_method_5_5 rfl rfl ?_
    refine Wk.iloadN (pc' := 7) C d_method_5_6 rfl rfl ?_
    refine Wk.icmp_ge C d_method_5_7 (by decide) (pcT := 19) (by decide) (pc' := 10) rfl (fun q12 => ?_) (fun q12 => ?_)
    · -- pc 7: taken
      refine Wk.iconst (pc' := 20) C d_method_5_19 (v := (1 : Int32)) rfl rfl ?_
      refine Wk.goto C d_method_5_20 (by decide) (pc' := 24) (by decide) ?_
      exact Wk.retNar (ty := .boolean) C (by simp) d_method_5_24 rfl (by decide) (by decide) ⟨congrArg (fun z => some (Value.int z)) (Eq.symm (show okI 0 s e (cs.getD 0 0) = _ from (if_neg q11).trans (if_pos q12))), rfl⟩
    · -- pc 7: not taken
      refine Wk.aloadN (pc' := 11) C d_method_5_10 rfl rfl rfl ?_
      refine Wk.iloadN (pc' := 12) C d_method_5_11 rfl rfl ?_
      refine Wk.caload (pc' := 13) C d_method_5_12 V (by decide) (v := (.int (cs.getD 0 0))) (show (cs.map Value.int)[0]? = _ from Wk.getd (by omega)) rfl ?_
      refine Wk.callS (pc' := 16) C d_method_5_13 (Wk.Con.pays C (Wn := 0) (own_valid l hw O0 (cs.getD 0 0)) (w72 hw) (w65 hw) (by decide) (by decide)) Wk.cleanC (w70 hw) (w71 hw) (w65 hw) (w72 hw) (by decide) (argsL := [(.int (cs.getD 0 0))]) (st := []) rfl rfl (lenOf pd0 rfl) rfl (Nat.le_of_eq rfl) (k' := 0) rfl (n' := 0) rfl (by decide) (by decide) rfl ?_
      intro r13 h14 Q14 O14
      obtain ⟨rfl, e15⟩ := Q14
      obtain rfl := e15.symm
      refine Wk.if_eq C d_method_5_16 (by decide) (pcT := 23) (by decide) (pc' := 19) rfl (fun q16 => ?_) (fun q16 => ?_)
      · -- pc 16: taken
        refine Wk.iconst (pc' := 24) C d_method_5_23 (v := (0 : Int32)) rfl rfl ?_
        exact Wk.retNar (ty := .boolean) C (by simp) d_method_5_24 rfl (by decide) (by decide) ⟨congrArg (fun z => some (Value.int z)) (Eq.symm (show okI 0 s e (cs.getD 0 0) = _ from (if_neg q11).trans ((if_neg (fun z => z q12)).trans (q16)))), rfl⟩
      · -- pc 16: not taken
        refine Wk.iconst (pc' := 20) C d_method_5_19 (v := (1 : Int32)) rfl rfl ?_
        refine Wk.goto C d_method_5_20 (by decide) (pc' := 24) (by decide) ?_
        exact Wk.retNar (ty := .boolean) C (by simp) d_method_5_24 rfl (by decide) (by decide) ⟨congrArg (fun z => some (Value.int z)) (Eq.symm (show okI 0 s e (cs.getD 0 0) = _ from (if_neg q11).trans ((if_neg (fun z => z q12)).trans ((own_vld01 _).resolve_left q16)))), rfl⟩
set_option maxRecDepth 65536 in
set_option maxHeartbeats 40000000 in
theorem own_okAt1 (l : Launch) {Z : State} {a0 : Array Value} (hw : Ws a0 Z) {h0 : Heap} (O0 : Ext Z.heap h0) (a : Addr) (cs : List Int32) (s e : Int32) (V : Wk.Ary Z h0 a .char (cs.map Value.int)) (hl : cs.length = 6) :
    Wk.Con l Z (⟨"com/example/scopegate/scopegate/token/Base64UrlIsCanonicalPinLaw", "okAt", "([CIII)Z"⟩ : MethodName) method_5_code 4 (some .boolean) ({ frames := 1, cells := 0, slots := 0, locals := 12 } : Room) #[(.ref a), (.int (1 : Int32)), (.int s), (.int e)] h0 (fun v h' => v = some (.int (okI 1 s e (cs.getD 1 0))) ∧ h' = h0) := by
  refine Wk.Con.intro (plainFor_of_name pn0) O0 (fun m => ef4 m a s e) ?_
  intro W C
  replace C : Wk.Cx Z W "com/example/scopegate/scopegate/token/Base64UrlIsCanonicalPinLaw" "okAt" method_5_code 4 (some .boolean) := C
  refine Wk.iloadN (pc' := 1) C d_method_5_0 rfl rfl ?_
  refine Wk.iloadN (pc' := 2) C d_method_5_1 rfl rfl ?_
  refine Wk.icmp_lt C d_method_5_2 (by decide) (pcT := 19) (by decide) (pc' := 5) rfl (fun q11 => ?_) (fun q11 => ?_)
  · -- pc 2: taken
    refine Wk.iconst (pc' := 20) C d_method_5_19 (v := (1 : Int32)) rfl rfl ?_
    refine Wk.goto C d_method_5_20 (by decide) (pc' := 24) (by decide) ?_
    exact Wk.retNar (ty := .boolean) C (by simp) d_method_5_24 rfl (by decide) (by decide) ⟨congrArg (fun z => some (Value.int z)) (Eq.symm (show okI 1 s e (cs.getD 1 0) = _ from if_pos q11)), rfl⟩
  · -- pc 2: not taken
    refine Wk.iloadN (pc' := 6) C d_method_5_5 rfl rfl ?_
    refine Wk.iloadN (pc' := 7) C d_method_5_6 rfl rfl ?_
    refine Wk.icmp_ge C d_method_5_7 (by decide) (pcT := 19) (by decide) (pc' := 10) rfl (fun q12 => ?_) (fun q12 => ?_)
    · -- pc 7: taken
      refine Wk.iconst (pc' := 20) C d_method_5_19 (v := (1 : Int32)) rfl rfl ?_
      refine Wk.goto C d_method_5_20 (by decide) (pc' := 24) (by decide) ?_
      exact Wk.retNar (ty := .boolean) C (by simp) d_method_5_24 rfl (by decide) (by decide) ⟨congrArg (fun z => some (Value.int z)) (Eq.symm (show okI 1 s e (cs.getD 1 0) = _ from (if_neg q11).trans (if_pos q12))), rfl⟩
    · -- pc 7: not taken
      refine Wk.aloadN (pc' := 11) C d_method_5_10 rfl rfl rfl ?_
      refine Wk.iloadN (pc' := 12) C d_method_5_11 rfl rfl ?_
      refine Wk.caload (pc' := 13) C d_method_5_12 V (by decide) (v := (.int (cs.getD 1 0))) (show (cs.map Value.int)[1]? = _ from Wk.getd (by omega)) rfl ?_
      refine Wk.callS (pc' := 16) C d_method_5_13 (Wk.Con.pays C (Wn := 0) (own_valid l hw O0 (cs.getD 1 0)) (w72 hw) (w65 hw) (by decide) (by decide)) Wk.cleanC (w70 hw) (w71 hw) (w65 hw) (w72 hw) (by decide) (argsL := [(.int (cs.getD 1 0))]) (st := []) rfl rfl (lenOf pd0 rfl) rfl (Nat.le_of_eq rfl) (k' := 0) rfl (n' := 0) rfl (by decide) (by decide) rfl ?_
      intro r13 h14 Q14 O14
      obtain ⟨rfl, e15⟩ := Q14
      obtain rfl := e15.symm
      refine Wk.if_eq C d_method_5_16 (by decide) (pcT := 23) (by decide) (pc' := 19) rfl (fun q16 => ?_) (fun q16 => ?_)
      · -- pc 16: taken
        refine Wk.iconst (pc' := 24) C d_method_5_23 (v := (0 : Int32)) rfl rfl ?_
        exact Wk.retNar (ty := .boolean) C (by simp) d_method_5_24 rfl (by decide) (by decide) ⟨congrArg (fun z => some (Value.int z)) (Eq.symm (show okI 1 s e (cs.getD 1 0) = _ from (if_neg q11).trans ((if_neg (fun z => z q12)).trans (q16)))), rfl⟩
      · -- pc 16: not taken
        refine Wk.iconst (pc' := 20) C d_method_5_19 (v := (1 : Int32)) rfl rfl ?_
        refine Wk.goto C d_method_5_20 (by decide) (pc' := 24) (by decide) ?_
        exact Wk.retNar (ty := .boolean) C (by simp) d_method_5_24 rfl (by decide) (by decide) ⟨congrArg (fun z => some (Value.int z)) (Eq.symm (show okI 1 s e (cs.getD 1 0) = _ from (if_neg q11).trans ((if_neg (fun z => z q12)).trans ((own_vld01 _).resolve_left q16)))), rfl⟩
set_option maxRecDepth 65536 in
set_option maxHeartbeats 40000000 in
theorem own_okAt2 (l : Launch) {Z : State} {a0 : Array Value} (hw : Ws a0 Z) {h0 : Heap} (O0 : Ext Z.heap h0) (a : Addr) (cs : List Int32) (s e : Int32) (V : Wk.Ary Z h0 a .char (cs.map Value.int)) (hl : cs.length = 6) :
    Wk.Con l Z (⟨"com/example/scopegate/scopegate/token/Base64UrlIsCanonicalPinLaw", "okAt", "([CIII)Z"⟩ : MethodName) method_5_code 4 (some .boolean) ({ frames := 1, cells := 0, slots := 0, locals := 12 } : Room) #[(.ref a), (.int (2 : Int32)), (.int s), (.int e)] h0 (fun v h' => v = some (.int (okI 2 s e (cs.getD 2 0))) ∧ h' = h0) := by
  refine Wk.Con.intro (plainFor_of_name pn0) O0 (fun m => ef5 m a s e) ?_
  intro W C
  replace C : Wk.Cx Z W "com/example/scopegate/scopegate/token/Base64UrlIsCanonicalPinLaw" "okAt" method_5_code 4 (some .boolean) := C
  refine Wk.iloadN (pc' := 1) C d_method_5_0 rfl rfl ?_
  refine Wk.iloadN (pc' := 2) C d_method_5_1 rfl rfl ?_
  refine Wk.icmp_lt C d_method_5_2 (by decide) (pcT := 19) (by decide) (pc' := 5) rfl (fun q11 => ?_) (fun q11 => ?_)
  · -- pc 2: taken
    refine Wk.iconst (pc' := 20) C d_method_5_19 (v := (1 : Int32)) rfl rfl ?_
    refine Wk.goto C d_method_5_20 (by decide) (pc' := 24) (by decide) ?_
    exact Wk.retNar (ty := .boolean) C (by simp) d_method_5_24 rfl (by decide) (by decide) ⟨congrArg (fun z => some (Value.int z)) (Eq.symm (show okI 2 s e (cs.getD 2 0) = _ from if_pos q11)), rfl⟩
  · -- pc 2: not taken
    refine Wk.iloadN (pc' := 6) C d_method_5_5 rfl rfl ?_
    refine Wk.iloadN (pc' := 7) C d_method_5_6 rfl rfl ?_
    refine Wk.icmp_ge C d_method_5_7 (by decide) (pcT := 19) (by decide) (pc' := 10) rfl (fun q12 => ?_) (fun q12 => ?_)
    · -- pc 7: taken
      refine Wk.iconst (pc' := 20) C d_method_5_19 (v := (1 : Int32)) rfl rfl ?_
      refine Wk.goto C d_method_5_20 (by decide) (pc' := 24) (by decide) ?_
      exact Wk.retNar (ty := .boolean) C (by simp) d_method_5_24 rfl (by decide) (by decide) ⟨congrArg (fun z => some (Value.int z)) (Eq.symm (show okI 2 s e (cs.getD 2 0) = _ from (if_neg q11).trans (if_pos q12))), rfl⟩
    · -- pc 7: not taken
      refine Wk.aloadN (pc' := 11) C d_method_5_10 rfl rfl rfl ?_
      refine Wk.iloadN (pc' := 12) C d_method_5_11 rfl rfl ?_
      refine Wk.caload (pc' := 13) C d_method_5_12 V (by decide) (v := (.int (cs.getD 2 0))) (show (cs.map Value.int)[2]? = _ from Wk.getd (by omega)) rfl ?_
      refine Wk.callS (pc' := 16) C d_method_5_13 (Wk.Con.pays C (Wn := 0) (own_valid l hw O0 (cs.getD 2 0)) (w72 hw) (w65 hw) (by decide) (by decide)) Wk.cleanC (w70 hw) (w71 hw) (w65 hw) (w72 hw) (by decide) (argsL := [(.int (cs.getD 2 0))]) (st := []) rfl rfl (lenOf pd0 rfl) rfl (Nat.le_of_eq rfl) (k' := 0) rfl (n' := 0) rfl (by decide) (by decide) rfl ?_
      intro r13 h14 Q14 O14
      obtain ⟨rfl, e15⟩ := Q14
      obtain rfl := e15.symm
      refine Wk.if_eq C d_method_5_16 (by decide) (pcT := 23) (by decide) (pc' := 19) rfl (fun q16 => ?_) (fun q16 => ?_)
      · -- pc 16: taken
        refine Wk.iconst (pc' := 24) C d_method_5_23 (v := (0 : Int32)) rfl rfl ?_
        exact Wk.retNar (ty := .boolean) C (by simp) d_method_5_24 rfl (by decide) (by decide) ⟨congrArg (fun z => some (Value.int z)) (Eq.symm (show okI 2 s e (cs.getD 2 0) = _ from (if_neg q11).trans ((if_neg (fun z => z q12)).trans (q16)))), rfl⟩
      · -- pc 16: not taken
        refine Wk.iconst (pc' := 20) C d_method_5_19 (v := (1 : Int32)) rfl rfl ?_
        refine Wk.goto C d_method_5_20 (by decide) (pc' := 24) (by decide) ?_
        exact Wk.retNar (ty := .boolean) C (by simp) d_method_5_24 rfl (by decide) (by decide) ⟨congrArg (fun z => some (Value.int z)) (Eq.symm (show okI 2 s e (cs.getD 2 0) = _ from (if_neg q11).trans ((if_neg (fun z => z q12)).trans ((own_vld01 _).resolve_left q16)))), rfl⟩
set_option maxRecDepth 65536 in
set_option maxHeartbeats 40000000 in
theorem own_okAt3 (l : Launch) {Z : State} {a0 : Array Value} (hw : Ws a0 Z) {h0 : Heap} (O0 : Ext Z.heap h0) (a : Addr) (cs : List Int32) (s e : Int32) (V : Wk.Ary Z h0 a .char (cs.map Value.int)) (hl : cs.length = 6) :
    Wk.Con l Z (⟨"com/example/scopegate/scopegate/token/Base64UrlIsCanonicalPinLaw", "okAt", "([CIII)Z"⟩ : MethodName) method_5_code 4 (some .boolean) ({ frames := 1, cells := 0, slots := 0, locals := 12 } : Room) #[(.ref a), (.int (3 : Int32)), (.int s), (.int e)] h0 (fun v h' => v = some (.int (okI 3 s e (cs.getD 3 0))) ∧ h' = h0) := by
  refine Wk.Con.intro (plainFor_of_name pn0) O0 (fun m => ef6 m a s e) ?_
  intro W C
  replace C : Wk.Cx Z W "com/example/scopegate/scopegate/token/Base64UrlIsCanonicalPinLaw" "okAt" method_5_code 4 (some .boolean) := C
  refine Wk.iloadN (pc' := 1) C d_method_5_0 rfl rfl ?_
  refine Wk.iloadN (pc' := 2) C d_method_5_1 rfl rfl ?_
  refine Wk.icmp_lt C d_method_5_2 (by decide) (pcT := 19) (by decide) (pc' := 5) rfl (fun q11 => ?_) (fun q11 => ?_)
  · -- pc 2: taken
    refine Wk.iconst (pc' := 20) C d_method_5_19 (v := (1 : Int32)) rfl rfl ?_
    refine Wk.goto C d_method_5_20 (by decide) (pc' := 24) (by decide) ?_
    exact Wk.retNar (ty := .boolean) C (by simp) d_method_5_24 rfl (by decide) (by decide) ⟨congrArg (fun z => some (Value.int z)) (Eq.symm (show okI 3 s e (cs.getD 3 0) = _ from if_pos q11)), rfl⟩
  · -- pc 2: not taken
    refine Wk.iloadN (pc' := 6) C d_method_5_5 rfl rfl ?_
    refine Wk.iloadN (pc' := 7) C d_method_5_6 rfl rfl ?_
    refine Wk.icmp_ge C d_method_5_7 (by decide) (pcT := 19) (by decide) (pc' := 10) rfl (fun q12 => ?_) (fun q12 => ?_)
    · -- pc 7: taken
      refine Wk.iconst (pc' := 20) C d_method_5_19 (v := (1 : Int32)) rfl rfl ?_
      refine Wk.goto C d_method_5_20 (by decide) (pc' := 24) (by decide) ?_
      exact Wk.retNar (ty := .boolean) C (by simp) d_method_5_24 rfl (by decide) (by decide) ⟨congrArg (fun z => some (Value.int z)) (Eq.symm (show okI 3 s e (cs.getD 3 0) = _ from (if_neg q11).trans (if_pos q12))), rfl⟩
    · -- pc 7: not taken
      refine Wk.aloadN (pc' := 11) C d_method_5_10 rfl rfl rfl ?_
      refine Wk.iloadN (pc' := 12) C d_method_5_11 rfl rfl ?_
      refine Wk.caload (pc' := 13) C d_method_5_12 V (by decide) (v := (.int (cs.getD 3 0))) (show (cs.map Value.int)[3]? = _ from Wk.getd (by omega)) rfl ?_
      refine Wk.callS (pc' := 16) C d_method_5_13 (Wk.Con.pays C (Wn := 0) (own_valid l hw O0 (cs.getD 3 0)) (w72 hw) (w65 hw) (by decide) (by decide)) Wk.cleanC (w70 hw) (w71 hw) (w65 hw) (w72 hw) (by decide) (argsL := [(.int (cs.getD 3 0))]) (st := []) rfl rfl (lenOf pd0 rfl) rfl (Nat.le_of_eq rfl) (k' := 0) rfl (n' := 0) rfl (by decide) (by decide) rfl ?_
      intro r13 h14 Q14 O14
      obtain ⟨rfl, e15⟩ := Q14
      obtain rfl := e15.symm
      refine Wk.if_eq C d_method_5_16 (by decide) (pcT := 23) (by decide) (pc' := 19) rfl (fun q16 => ?_) (fun q16 => ?_)
      · -- pc 16: taken
        refine Wk.iconst (pc' := 24) C d_method_5_23 (v := (0 : Int32)) rfl rfl ?_
        exact Wk.retNar (ty := .boolean) C (by simp) d_method_5_24 rfl (by decide) (by decide) ⟨congrArg (fun z => some (Value.int z)) (Eq.symm (show okI 3 s e (cs.getD 3 0) = _ from (if_neg q11).trans ((if_neg (fun z => z q12)).trans (q16)))), rfl⟩
      · -- pc 16: not taken
        refine Wk.iconst (pc' := 20) C d_method_5_19 (v := (1 : Int32)) rfl rfl ?_
        refine Wk.goto C d_method_5_20 (by decide) (pc' := 24) (by decide) ?_
        exact Wk.retNar (ty := .boolean) C (by simp) d_method_5_24 rfl (by decide) (by decide) ⟨congrArg (fun z => some (Value.int z)) (Eq.symm (show okI 3 s e (cs.getD 3 0) = _ from (if_neg q11).trans ((if_neg (fun z => z q12)).trans ((own_vld01 _).resolve_left q16)))), rfl⟩
set_option maxRecDepth 65536 in
set_option maxHeartbeats 40000000 in
theorem own_okAt4 (l : Launch) {Z : State} {a0 : Array Value} (hw : Ws a0 Z) {h0 : Heap} (O0 : Ext Z.heap h0) (a : Addr) (cs : List Int32) (s e : Int32) (V : Wk.Ary Z h0 a .char (cs.map Value.int)) (hl : cs.length = 6) :
    Wk.Con l Z (⟨"com/example/scopegate/scopegate/token/Base64UrlIsCanonicalPinLaw", "okAt", "([CIII)Z"⟩ : MethodName) method_5_code 4 (some .boolean) ({ frames := 1, cells := 0, slots := 0, locals := 12 } : Room) #[(.ref a), (.int (4 : Int32)), (.int s), (.int e)] h0 (fun v h' => v = some (.int (okI 4 s e (cs.getD 4 0))) ∧ h' = h0) := by
  refine Wk.Con.intro (plainFor_of_name pn0) O0 (fun m => ef7 m a s e) ?_
  intro W C
  replace C : Wk.Cx Z W "com/example/scopegate/scopegate/token/Base64UrlIsCanonicalPinLaw" "okAt" method_5_code 4 (some .boolean) := C
  refine Wk.iloadN (pc' := 1) C d_method_5_0 rfl rfl ?_
  refine Wk.iloadN (pc' := 2) C d_method_5_1 rfl rfl ?_
  refine Wk.icmp_lt C d_method_5_2 (by decide) (pcT := 19) (by decide) (pc' := 5) rfl (fun q11 => ?_) (fun q11 => ?_)
  · -- pc 2: taken
    refine Wk.iconst (pc' := 20) C d_method_5_19 (v := (1 : Int32)) rfl rfl ?_
    refine Wk.goto C d_method_5_20 (by decide) (pc' := 24) (by decide) ?_
    exact Wk.retNar (ty := .boolean) C (by simp) d_method_5_24 rfl (by decide) (by decide) ⟨congrArg (fun z => some (Value.int z)) (Eq.symm (show okI 4 s e (cs.getD 4 0) = _ from if_pos q11)), rfl⟩
  · -- pc 2: not taken
    refine Wk.iloadN (pc' := 6) C d_method_5_5 rfl rfl ?_
    refine Wk.iloadN (pc' := 7) C d_method_5_6 rfl rfl ?_
    refine Wk.icmp_ge C d_method_5_7 (by decide) (pcT := 19) (by decide) (pc' := 10) rfl (fun q12 => ?_) (fun q12 => ?_)
    · -- pc 7: taken
      refine Wk.iconst (pc' := 20) C d_method_5_19 (v := (1 : Int32)) rfl rfl ?_
      refine Wk.goto C d_method_5_20 (by decide) (pc' := 24) (by decide) ?_
      exact Wk.retNar (ty := .boolean) C (by simp) d_method_5_24 rfl (by decide) (by decide) ⟨congrArg (fun z => some (Value.int z)) (Eq.symm (show okI 4 s e (cs.getD 4 0) = _ from (if_neg q11).trans (if_pos q12))), rfl⟩
    · -- pc 7: not taken
      refine Wk.aloadN (pc' := 11) C d_method_5_10 rfl rfl rfl ?_
      refine Wk.iloadN (pc' := 12) C d_method_5_11 rfl rfl ?_
      refine Wk.caload (pc' := 13) C d_method_5_12 V (by decide) (v := (.int (cs.getD 4 0))) (show (cs.map Value.int)[4]? = _ from Wk.getd (by omega)) rfl ?_
      refine Wk.callS (pc' := 16) C d_method_5_13 (Wk.Con.pays C (Wn := 0) (own_valid l hw O0 (cs.getD 4 0)) (w72 hw) (w65 hw) (by decide) (by decide)) Wk.cleanC (w70 hw) (w71 hw) (w65 hw) (w72 hw) (by decide) (argsL := [(.int (cs.getD 4 0))]) (st := []) rfl rfl (lenOf pd0 rfl) rfl (Nat.le_of_eq rfl) (k' := 0) rfl (n' := 0) rfl (by decide) (by decide) rfl ?_
      intro r13 h14 Q14 O14
      obtain ⟨rfl, e15⟩ := Q14
      obtain rfl := e15.symm
      refine Wk.if_eq C d_method_5_16 (by decide) (pcT := 23) (by decide) (pc' := 19) rfl (fun q16 => ?_) (fun q16 => ?_)
      · -- pc 16: taken
        refine Wk.iconst (pc' := 24) C d_method_5_23 (v := (0 : Int32)) rfl rfl ?_
        exact Wk.retNar (ty := .boolean) C (by simp) d_method_5_24 rfl (by decide) (by decide) ⟨congrArg (fun z => some (Value.int z)) (Eq.symm (show okI 4 s e (cs.getD 4 0) = _ from (if_neg q11).trans ((if_neg (fun z => z q12)).trans (q16)))), rfl⟩
      · -- pc 16: not taken
        refine Wk.iconst (pc' := 20) C d_method_5_19 (v := (1 : Int32)) rfl rfl ?_
        refine Wk.goto C d_method_5_20 (by decide) (pc' := 24) (by decide) ?_
        exact Wk.retNar (ty := .boolean) C (by simp) d_method_5_24 rfl (by decide) (by decide) ⟨congrArg (fun z => some (Value.int z)) (Eq.symm (show okI 4 s e (cs.getD 4 0) = _ from (if_neg q11).trans ((if_neg (fun z => z q12)).trans ((own_vld01 _).resolve_left q16)))), rfl⟩
set_option maxRecDepth 65536 in
set_option maxHeartbeats 40000000 in
theorem own_okAt5 (l : Launch) {Z : State} {a0 : Array Value} (hw : Ws a0 Z) {h0 : Heap} (O0 : Ext Z.heap h0) (a : Addr) (cs : List Int32) (s e : Int32) (V : Wk.Ary Z h0 a .char (cs.map Value.int)) (hl : cs.length = 6) :
    Wk.Con l Z (⟨"com/example/scopegate/scopegate/token/Base64UrlIsCanonicalPinLaw", "okAt", "([CIII)Z"⟩ : MethodName) method_5_code 4 (some .boolean) ({ frames := 1, cells := 0, slots := 0, locals := 12 } : Room) #[(.ref a), (.int (5 : Int32)), (.int s), (.int e)] h0 (fun v h' => v = some (.int (okI 5 s e (cs.getD 5 0))) ∧ h' = h0) := by
  refine Wk.Con.intro (plainFor_of_name pn0) O0 (fun m => ef8 m a s e) ?_
  intro W C
  replace C : Wk.Cx Z W "com/example/scopegate/scopegate/token/Base64UrlIsCanonicalPinLaw" "okAt" method_5_code 4 (some .boolean) := C
  refine Wk.iloadN (pc' := 1) C d_method_5_0 rfl rfl ?_
  refine Wk.iloadN (pc' := 2) C d_method_5_1 rfl rfl ?_
  refine Wk.icmp_lt C d_method_5_2 (by decide) (pcT := 19) (by decide) (pc' := 5) rfl (fun q11 => ?_) (fun q11 => ?_)
  · -- pc 2: taken
    refine Wk.iconst (pc' := 20) C d_method_5_19 (v := (1 : Int32)) rfl rfl ?_
    refine Wk.goto C d_method_5_20 (by decide) (pc' := 24) (by decide) ?_
    exact Wk.retNar (ty := .boolean) C (by simp) d_method_5_24 rfl (by decide) (by decide) ⟨congrArg (fun z => some (Value.int z)) (Eq.symm (show okI 5 s e (cs.getD 5 0) = _ from if_pos q11)), rfl⟩
  · -- pc 2: not taken
    refine Wk.iloadN (pc' := 6) C d_method_5_5 rfl rfl ?_
    refine Wk.iloadN (pc' := 7) C d_method_5_6 rfl rfl ?_
    refine Wk.icmp_ge C d_method_5_7 (by decide) (pcT := 19) (by decide) (pc' := 10) rfl (fun q12 => ?_) (fun q12 => ?_)
    · -- pc 7: taken
      refine Wk.iconst (pc' := 20) C d_method_5_19 (v := (1 : Int32)) rfl rfl ?_
      refine Wk.goto C d_method_5_20 (by decide) (pc' := 24) (by decide) ?_
      exact Wk.retNar (ty := .boolean) C (by simp) d_method_5_24 rfl (by decide) (by decide) ⟨congrArg (fun z => some (Value.int z)) (Eq.symm (show okI 5 s e (cs.getD 5 0) = _ from (if_neg q11).trans (if_pos q12))), rfl⟩
    · -- pc 7: not taken
      refine Wk.aloadN (pc' := 11) C d_method_5_10 rfl rfl rfl ?_
      refine Wk.iloadN (pc' := 12) C d_method_5_11 rfl rfl ?_
      refine Wk.caload (pc' := 13) C d_method_5_12 V (by decide) (v := (.int (cs.getD 5 0))) (show (cs.map Value.int)[5]? = _ from Wk.getd (by omega)) rfl ?_
      refine Wk.callS (pc' := 16) C d_method_5_13 (Wk.Con.pays C (Wn := 0) (own_valid l hw O0 (cs.getD 5 0)) (w72 hw) (w65 hw) (by decide) (by decide)) Wk.cleanC (w70 hw) (w71 hw) (w65 hw) (w72 hw) (by decide) (argsL := [(.int (cs.getD 5 0))]) (st := []) rfl rfl (lenOf pd0 rfl) rfl (Nat.le_of_eq rfl) (k' := 0) rfl (n' := 0) rfl (by decide) (by decide) rfl ?_
      intro r13 h14 Q14 O14
      obtain ⟨rfl, e15⟩ := Q14
      obtain rfl := e15.symm
      refine Wk.if_eq C d_method_5_16 (by decide) (pcT := 23) (by decide) (pc' := 19) rfl (fun q16 => ?_) (fun q16 => ?_)
      · -- pc 16: taken
        refine Wk.iconst (pc' := 24) C d_method_5_23 (v := (0 : Int32)) rfl rfl ?_
        exact Wk.retNar (ty := .boolean) C (by simp) d_method_5_24 rfl (by decide) (by decide) ⟨congrArg (fun z => some (Value.int z)) (Eq.symm (show okI 5 s e (cs.getD 5 0) = _ from (if_neg q11).trans ((if_neg (fun z => z q12)).trans (q16)))), rfl⟩
      · -- pc 16: not taken
        refine Wk.iconst (pc' := 20) C d_method_5_19 (v := (1 : Int32)) rfl rfl ?_
        refine Wk.goto C d_method_5_20 (by decide) (pc' := 24) (by decide) ?_
        exact Wk.retNar (ty := .boolean) C (by simp) d_method_5_24 rfl (by decide) (by decide) ⟨congrArg (fun z => some (Value.int z)) (Eq.symm (show okI 5 s e (cs.getD 5 0) = _ from (if_neg q11).trans ((if_neg (fun z => z q12)).trans ((own_vld01 _).resolve_left q16)))), rfl⟩
set_option maxRecDepth 65536 in
set_option maxHeartbeats 40000000 in
theorem own_expected (l : Launch) {Z : State} {a0 : Array Value} (hw : Ws a0 Z) {h0 : Heap} (O0 : Ext Z.heap h0) (a : Addr) (cs : List Int32) (s e : Nat) (V : Wk.Ary Z h0 a .char (cs.map Value.int)) (hl : cs.length = 6) (hse : s ≤ e) (he : e ≤ 6) :
    Wk.Con l Z (⟨"com/example/scopegate/scopegate/token/Base64UrlIsCanonicalPinLaw", "expected", "([CII)Z"⟩ : MethodName) method_6_code 7 (some .boolean) ({ frames := 2, cells := 0, slots := 0, locals := 30 } : Room) #[(.ref a), (.int (Int32.ofNat s)), (.int (Int32.ofNat e))] h0 (fun v h' => v = some (.int (expV cs s e)) ∧ h' = h0) := by
  refine Wk.Con.intro (plainFor_of_name pn0) O0 (fun m => ef9 m a (Int32.ofNat s) (Int32.ofNat e)) ?_
  intro W C
  replace C : Wk.Cx Z W "com/example/scopegate/scopegate/token/Base64UrlIsCanonicalPinLaw" "expected" method_6_code 7 (some .boolean) := C
  refine Wk.aloadN (pc' := 1) C d_method_6_0 rfl rfl rfl ?_
  refine Wk.iconst (pc' := 2) C d_method_6_1 (v := (0 : Int32)) rfl rfl ?_
  refine Wk.iloadN (pc' := 3) C d_method_6_2 rfl rfl ?_
  refine Wk.iloadN (pc' := 4) C d_method_6_3 rfl rfl ?_
  refine Wk.callS (pc' := 7) C d_method_6_4 (Wk.Con.pays C (Wn := 0) (own_okAt0 l hw O0 a cs (Int32.ofNat s) (Int32.ofNat e) V hl) (w69 hw) (w65 hw) (by decide) (by decide)) Wk.cleanC (w67 hw) (w68 hw) (w65 hw) (w69 hw) (by decide) (argsL := [(.ref a), (.int (0 : Int32)), (.int (Int32.ofNat s)), (.int (Int32.ofNat e))]) (st := []) rfl rfl (lenOf pd1 rfl) rfl (Nat.le_of_eq rfl) (k' := 0) rfl (n' := 0) rfl (by decide) (by decide) rfl ?_
  intro r11 h12 Q12 O12
  obtain ⟨rfl, e13⟩ := Q12
  obtain rfl := e13.symm
  refine Wk.if_eq C d_method_6_7 (by decide) (pcT := 64) (by decide) (pc' := 10) rfl (fun q14 => ?_) (fun q14 => ?_)
  · -- pc 7: taken
    refine Wk.iconst (pc' := 65) C d_method_6_64 (v := (0 : Int32)) rfl rfl ?_
    refine Wk.istoreN (pc' := 66) C d_method_6_65 (Ls' := #[.val (.ref a), .val (.int (Int32.ofNat s)), .val (.int (Int32.ofNat e)), .val (.int (0 : Int32)), .unset, .unset, .unset]) rfl rfl ?_
    refine Wk.iloadN (pc' := 67) C d_method_6_66 rfl rfl ?_
    refine Wk.if_ne C d_method_6_67 (by decide) (pcT := 72) (by decide) (pc' := 70) rfl (fun q => absurd q (by decide)) (fun q15 => ?_)
    refine Wk.iconst (pc' := 71) C d_method_6_70 (v := (0 : Int32)) rfl rfl ?_
    exact Wk.retNar (ty := .boolean) C (by simp) d_method_6_71 rfl (by decide) (by decide) ⟨congrArg (fun z => some (Value.int z)) (Eq.symm (show expV cs s e = _ from if_pos q14)), rfl⟩
  · -- pc 7: not taken
    refine Wk.aloadN (pc' := 11) C d_method_6_10 rfl rfl rfl ?_
    refine Wk.iconst (pc' := 12) C d_method_6_11 (v := (1 : Int32)) rfl rfl ?_
    refine Wk.iloadN (pc' := 13) C d_method_6_12 rfl rfl ?_
    refine Wk.iloadN (pc' := 14) C d_method_6_13 rfl rfl ?_
    refine Wk.callS (pc' := 17) C d_method_6_14 (Wk.Con.pays C (Wn := 0) (own_okAt1 l hw O0 a cs (Int32.ofNat s) (Int32.ofNat e) V hl) (w69 hw) (w65 hw) (by decide) (by decide)) Wk.cleanC (w67 hw) (w68 hw) (w65 hw) (w69 hw) (by decide) (argsL := [(.ref a), (.int (1 : Int32)), (.int (Int32.ofNat s)), (.int (Int32.ofNat e))]) (st := []) rfl rfl (lenOf pd1 rfl) rfl (Nat.le_of_eq rfl) (k' := 0) rfl (n' := 0) rfl (by decide) (by decide) rfl ?_
    intro r16 h17 Q17 O17
    obtain ⟨rfl, e18⟩ := Q17
    obtain rfl := e18.symm
    refine Wk.if_eq C d_method_6_17 (by decide) (pcT := 64) (by decide) (pc' := 20) rfl (fun q19 => ?_) (fun q19 => ?_)
    · -- pc 17: taken
      refine Wk.iconst (pc' := 65) C d_method_6_64 (v := (0 : Int32)) rfl rfl ?_
      refine Wk.istoreN (pc' := 66) C d_method_6_65 (Ls' := #[.val (.ref a), .val (.int (Int32.ofNat s)), .val (.int (Int32.ofNat e)), .val (.int (0 : Int32)), .unset, .unset, .unset]) rfl rfl ?_
      refine Wk.iloadN (pc' := 67) C d_method_6_66 rfl rfl ?_
      refine Wk.if_ne C d_method_6_67 (by decide) (pcT := 72) (by decide) (pc' := 70) rfl (fun q => absurd q (by decide)) (fun q20 => ?_)
      refine Wk.iconst (pc' := 71) C d_method_6_70 (v := (0 : Int32)) rfl rfl ?_
      exact Wk.retNar (ty := .boolean) C (by simp) d_method_6_71 rfl (by decide) (by decide) ⟨congrArg (fun z => some (Value.int z)) (Eq.symm (show expV cs s e = _ from (if_neg q14).trans (if_pos q19))), rfl⟩
    · -- pc 17: not taken
      refine Wk.aloadN (pc' := 21) C d_method_6_20 rfl rfl rfl ?_
      refine Wk.iconst (pc' := 22) C d_method_6_21 (v := (2 : Int32)) rfl rfl ?_
      refine Wk.iloadN (pc' := 23) C d_method_6_22 rfl rfl ?_
      refine Wk.iloadN (pc' := 24) C d_method_6_23 rfl rfl ?_
      refine Wk.callS (pc' := 27) C d_method_6_24 (Wk.Con.pays C (Wn := 0) (own_okAt2 l hw O0 a cs (Int32.ofNat s) (Int32.ofNat e) V hl) (w69 hw) (w65 hw) (by decide) (by decide)) Wk.cleanC (w67 hw) (w68 hw) (w65 hw) (w69 hw) (by decide) (argsL := [(.ref a), (.int (2 : Int32)), (.int (Int32.ofNat s)), (.int (Int32.ofNat e))]) (st := []) rfl rfl (lenOf pd1 rfl) rfl (Nat.le_of_eq rfl) (k' := 0) rfl (n' := 0) rfl (by decide) (by decide) rfl ?_
      intro r21 h22 Q22 O22
      obtain ⟨rfl, e23⟩ := Q22
      obtain rfl := e23.symm
      refine Wk.if_eq C d_method_6_27 (by decide) (pcT := 64) (by decide) (pc' := 30) rfl (fun q24 => ?_) (fun q24 => ?_)
      · -- pc 27: taken
        refine Wk.iconst (pc' := 65) C d_method_6_64 (v := (0 : Int32)) rfl rfl ?_
        refine Wk.istoreN (pc' := 66) C d_method_6_65 (Ls' := #[.val (.ref a), .val (.int (Int32.ofNat s)), .val (.int (Int32.ofNat e)), .val (.int (0 : Int32)), .unset, .unset, .unset]) rfl rfl ?_
        refine Wk.iloadN (pc' := 67) C d_method_6_66 rfl rfl ?_
        refine Wk.if_ne C d_method_6_67 (by decide) (pcT := 72) (by decide) (pc' := 70) rfl (fun q => absurd q (by decide)) (fun q25 => ?_)
        refine Wk.iconst (pc' := 71) C d_method_6_70 (v := (0 : Int32)) rfl rfl ?_
        exact Wk.retNar (ty := .boolean) C (by simp) d_method_6_71 rfl (by decide) (by decide) ⟨congrArg (fun z => some (Value.int z)) (Eq.symm (show expV cs s e = _ from (if_neg q14).trans ((if_neg q19).trans (if_pos q24)))), rfl⟩
      · -- pc 27: not taken
        refine Wk.aloadN (pc' := 31) C d_method_6_30 rfl rfl rfl ?_
        refine Wk.iconst (pc' := 32) C d_method_6_31 (v := (3 : Int32)) rfl rfl ?_
        refine Wk.iloadN (pc' := 33) C d_method_6_32 rfl rfl ?_
        refine Wk.iloadN (pc' := 34) C d_method_6_33 rfl rfl ?_
        refine Wk.callS (pc' := 37) C d_method_6_34 (Wk.Con.pays C (Wn := 0) (own_okAt3 l hw O0 a cs (Int32.ofNat s) (Int32.ofNat e) V hl) (w69 hw) (w65 hw) (by decide) (by decide)) Wk.cleanC (w67 hw) (w68 hw) (w65 hw) (w69 hw) (by decide) (argsL := [(.ref a), (.int (3 : Int32)), (.int (Int32.ofNat s)), (.int (Int32.ofNat e))]) (st := []) rfl rfl (lenOf pd1 rfl) rfl (Nat.le_of_eq rfl) (k' := 0) rfl (n' := 0) rfl (by decide) (by decide) rfl ?_
        intro r26 h27 Q27 O27
        obtain ⟨rfl, e28⟩ := Q27
        obtain rfl := e28.symm
        refine Wk.if_eq C d_method_6_37 (by decide) (pcT := 64) (by decide) (pc' := 40) rfl (fun q29 => ?_) (fun q29 => ?_)
        · -- pc 37: taken
          refine Wk.iconst (pc' := 65) C d_method_6_64 (v := (0 : Int32)) rfl rfl ?_
          refine Wk.istoreN (pc' := 66) C d_method_6_65 (Ls' := #[.val (.ref a), .val (.int (Int32.ofNat s)), .val (.int (Int32.ofNat e)), .val (.int (0 : Int32)), .unset, .unset, .unset]) rfl rfl ?_
          refine Wk.iloadN (pc' := 67) C d_method_6_66 rfl rfl ?_
          refine Wk.if_ne C d_method_6_67 (by decide) (pcT := 72) (by decide) (pc' := 70) rfl (fun q => absurd q (by decide)) (fun q30 => ?_)
          refine Wk.iconst (pc' := 71) C d_method_6_70 (v := (0 : Int32)) rfl rfl ?_
          exact Wk.retNar (ty := .boolean) C (by simp) d_method_6_71 rfl (by decide) (by decide) ⟨congrArg (fun z => some (Value.int z)) (Eq.symm (show expV cs s e = _ from (if_neg q14).trans ((if_neg q19).trans ((if_neg q24).trans (if_pos q29))))), rfl⟩
        · -- pc 37: not taken
          refine Wk.aloadN (pc' := 41) C d_method_6_40 rfl rfl rfl ?_
          refine Wk.iconst (pc' := 42) C d_method_6_41 (v := (4 : Int32)) rfl rfl ?_
          refine Wk.iloadN (pc' := 43) C d_method_6_42 rfl rfl ?_
          refine Wk.iloadN (pc' := 44) C d_method_6_43 rfl rfl ?_
          refine Wk.callS (pc' := 47) C d_method_6_44 (Wk.Con.pays C (Wn := 0) (own_okAt4 l hw O0 a cs (Int32.ofNat s) (Int32.ofNat e) V hl) (w69 hw) (w65 hw) (by decide) (by decide)) Wk.cleanC (w67 hw) (w68 hw) (w65 hw) (w69 hw) (by decide) (argsL := [(.ref a), (.int (4 : Int32)), (.int (Int32.ofNat s)), (.int (Int32.ofNat e))]) (st := []) rfl rfl (lenOf pd1 rfl) rfl (Nat.le_of_eq rfl) (k' := 0) rfl (n' := 0) rfl (by decide) (by decide) rfl ?_
          intro r31 h32 Q32 O32
          obtain ⟨rfl, e33⟩ := Q32
          obtain rfl := e33.symm
          refine Wk.if_eq C d_method_6_47 (by decide) (pcT := 64) (by decide) (pc' := 50) rfl (fun q34 => ?_) (fun q34 => ?_)
          · -- pc 47: taken
            refine Wk.iconst (pc' := 65) C d_method_6_64 (v := (0 : Int32)) rfl rfl ?_
            refine Wk.istoreN (pc' := 66) C d_method_6_65 (Ls' := #[.val (.ref a), .val (.int (Int32.ofNat s)), .val (.int (Int32.ofNat e)), .val (.int (0 : Int32)), .unset, .unset, .unset]) rfl rfl ?_
            refine Wk.iloadN (pc' := 67) C d_method_6_66 rfl rfl ?_
            refine Wk.if_ne C d_method_6_67 (by decide) (pcT := 72) (by decide) (pc' := 70) rfl (fun q => absurd q (by decide)) (fun q35 => ?_)
            refine Wk.iconst (pc' := 71) C d_method_6_70 (v := (0 : Int32)) rfl rfl ?_
            exact Wk.retNar (ty := .boolean) C (by simp) d_method_6_71 rfl (by decide) (by decide) ⟨congrArg (fun z => some (Value.int z)) (Eq.symm (show expV cs s e = _ from (if_neg q14).trans ((if_neg q19).trans ((if_neg q24).trans ((if_neg q29).trans (if_pos q34)))))), rfl⟩
          · -- pc 47: not taken
            refine Wk.aloadN (pc' := 51) C d_method_6_50 rfl rfl rfl ?_
            refine Wk.iconst (pc' := 52) C d_method_6_51 (v := (5 : Int32)) rfl rfl ?_
            refine Wk.iloadN (pc' := 53) C d_method_6_52 rfl rfl ?_
            refine Wk.iloadN (pc' := 54) C d_method_6_53 rfl rfl ?_
            refine Wk.callS (pc' := 57) C d_method_6_54 (Wk.Con.pays C (Wn := 0) (own_okAt5 l hw O0 a cs (Int32.ofNat s) (Int32.ofNat e) V hl) (w69 hw) (w65 hw) (by decide) (by decide)) Wk.cleanC (w67 hw) (w68 hw) (w65 hw) (w69 hw) (by decide) (argsL := [(.ref a), (.int (5 : Int32)), (.int (Int32.ofNat s)), (.int (Int32.ofNat e))]) (st := []) rfl rfl (lenOf pd1 rfl) rfl (Nat.le_of_eq rfl) (k' := 0) rfl (n' := 0) rfl (by decide) (by decide) rfl ?_
            intro r36 h37 Q37 O37
            obtain ⟨rfl, e38⟩ := Q37
            obtain rfl := e38.symm
            refine Wk.if_eq C d_method_6_57 (by decide) (pcT := 64) (by decide) (pc' := 60) rfl (fun q39 => ?_) (fun q39 => ?_)
            · -- pc 57: taken
              refine Wk.iconst (pc' := 65) C d_method_6_64 (v := (0 : Int32)) rfl rfl ?_
              refine Wk.istoreN (pc' := 66) C d_method_6_65 (Ls' := #[.val (.ref a), .val (.int (Int32.ofNat s)), .val (.int (Int32.ofNat e)), .val (.int (0 : Int32)), .unset, .unset, .unset]) rfl rfl ?_
              refine Wk.iloadN (pc' := 67) C d_method_6_66 rfl rfl ?_
              refine Wk.if_ne C d_method_6_67 (by decide) (pcT := 72) (by decide) (pc' := 70) rfl (fun q => absurd q (by decide)) (fun q40 => ?_)
              refine Wk.iconst (pc' := 71) C d_method_6_70 (v := (0 : Int32)) rfl rfl ?_
              exact Wk.retNar (ty := .boolean) C (by simp) d_method_6_71 rfl (by decide) (by decide) ⟨congrArg (fun z => some (Value.int z)) (Eq.symm (show expV cs s e = _ from (if_neg q14).trans ((if_neg q19).trans ((if_neg q24).trans ((if_neg q29).trans ((if_neg q34).trans (if_pos q39))))))), rfl⟩
            · -- pc 57: not taken
              refine Wk.iconst (pc' := 61) C d_method_6_60 (v := (1 : Int32)) rfl rfl ?_
              refine Wk.goto C d_method_6_61 (by decide) (pc' := 65) (by decide) ?_
              refine Wk.istoreN (pc' := 66) C d_method_6_65 (Ls' := #[.val (.ref a), .val (.int (Int32.ofNat s)), .val (.int (Int32.ofNat e)), .val (.int (1 : Int32)), .unset, .unset, .unset]) rfl rfl ?_
              refine Wk.iloadN (pc' := 67) C d_method_6_66 rfl rfl ?_
              refine Wk.if_ne C d_method_6_67 (by decide) (pcT := 72) (by decide) (pc' := 70) rfl (fun q41 => ?_) (fun q => absurd q (by decide))
              refine Wk.iloadN (pc' := 73) C d_method_6_72 rfl rfl ?_
              refine Wk.iloadN (pc' := 74) C d_method_6_73 rfl rfl ?_
              obtain ⟨v42, hv42⟩ : ∃ z : Int32, (Int32.ofNat e) - (Int32.ofNat s) = z := ⟨_, rfl⟩
              refine Wk.isub (pc' := 75) C d_method_6_74 hv42 rfl ?_
              refine Wk.istore (pc' := 77) C d_method_6_75 (Ls' := #[.val (.ref a), .val (.int (Int32.ofNat s)), .val (.int (Int32.ofNat e)), .val (.int (1 : Int32)), .val (.int v42), .unset, .unset]) rfl rfl ?_
              refine Wk.iload (pc' := 79) C d_method_6_77 rfl rfl ?_
              refine Wk.iconst (pc' := 80) C d_method_6_79 (v := (4 : Int32)) rfl rfl ?_
              obtain ⟨v43, hv43⟩ : ∃ z : Int32, v42 % (4 : Int32) = z := ⟨_, rfl⟩
              refine Wk.irem (pc' := 81) C d_method_6_80 (by decide) hv43 rfl ?_
              refine Wk.istore (pc' := 83) C d_method_6_81 (Ls' := #[.val (.ref a), .val (.int (Int32.ofNat s)), .val (.int (Int32.ofNat e)), .val (.int (1 : Int32)), .val (.int v42), .val (.int v43), .unset]) rfl rfl ?_
              rcases own_mod4 hse he hv42 hv43 with ⟨rfl, hm⟩ | ⟨rfl, hm⟩ | ⟨rfl, hm⟩ | ⟨rfl, hm⟩
              · -- the rest is 0
                refine Wk.iload (pc' := 85) C d_method_6_83 rfl rfl ?_
                refine Wk.if_ne C d_method_6_85 (by decide) (pcT := 90) (by decide) (pc' := 88) rfl (fun q => absurd q (by decide)) (fun q44 => ?_)
                refine Wk.iconst (pc' := 89) C d_method_6_88 (v := (1 : Int32)) rfl rfl ?_
                exact Wk.retNar (ty := .boolean) C (by simp) d_method_6_89 rfl (by decide) (by decide) ⟨congrArg (fun z => some (Value.int z)) (Eq.symm (show expV cs s e = _ from (if_neg q14).trans ((if_neg q19).trans ((if_neg q24).trans ((if_neg q29).trans ((if_neg q34).trans ((if_neg q39).trans (if_pos hm)))))))), rfl⟩
              · -- the rest is 1
                refine Wk.iload (pc' := 85) C d_method_6_83 rfl rfl ?_
                refine Wk.if_ne C d_method_6_85 (by decide) (pcT := 90) (by decide) (pc' := 88) rfl (fun q45 => ?_) (fun q => absurd q (by decide))
                refine Wk.iload (pc' := 92) C d_method_6_90 rfl rfl ?_
                refine Wk.iconst (pc' := 93) C d_method_6_92 (v := (1 : Int32)) rfl rfl ?_
                refine Wk.icmp_ne C d_method_6_93 (by decide) (pcT := 98) (by decide) (pc' := 96) rfl (fun q => absurd q (by decide)) (fun q46 => ?_)
                refine Wk.iconst (pc' := 97) C d_method_6_96 (v := (0 : Int32)) rfl rfl ?_
                exact Wk.retNar (ty := .boolean) C (by simp) d_method_6_97 rfl (by decide) (by decide) ⟨congrArg (fun z => some (Value.int z)) (Eq.symm (show expV cs s e = _ from (if_neg q14).trans ((if_neg q19).trans ((if_neg q24).trans ((if_neg q29).trans ((if_neg q34).trans ((if_neg q39).trans ((if_neg (by omega)).trans (if_pos hm))))))))), rfl⟩
              · -- the rest is 2
                refine Wk.iload (pc' := 85) C d_method_6_83 rfl rfl ?_
                refine Wk.if_ne C d_method_6_85 (by decide) (pcT := 90) (by decide) (pc' := 88) rfl (fun q47 => ?_) (fun q => absurd q (by decide))
                refine Wk.iload (pc' := 92) C d_method_6_90 rfl rfl ?_
                refine Wk.iconst (pc' := 93) C d_method_6_92 (v := (1 : Int32)) rfl rfl ?_
                refine Wk.icmp_ne C d_method_6_93 (by decide) (pcT := 98) (by decide) (pc' := 96) rfl (fun q48 => ?_) (fun q => absurd q (by decide))
                refine Wk.aloadN (pc' := 99) C d_method_6_98 rfl rfl rfl ?_
                refine Wk.iloadN (pc' := 100) C d_method_6_99 rfl rfl ?_
                refine Wk.iconst (pc' := 101) C d_method_6_100 (v := (1 : Int32)) rfl rfl ?_
                obtain ⟨v49, hv49⟩ : ∃ z : Int32, (Int32.ofNat e) - (1 : Int32) = z := ⟨_, rfl⟩
                refine Wk.isub (pc' := 102) C d_method_6_101 hv49 rfl ?_
                refine Wk.caload (pc' := 103) C d_method_6_102 V (own_em1 (by omega) he hv49).1 (v := (.int (cs.getD (e - 1) 0))) (by rw [(own_em1 (by omega) he hv49).2]; exact Wk.getd (by omega)) rfl ?_
                refine Wk.callS (pc' := 106) C d_method_6_103 (Wk.Con.pays C (Wn := 0) (own_six l hw O0 (cs.getD (e - 1) 0)) (w75 hw) (w65 hw) (by decide) (by decide)) Wk.cleanC (w73 hw) (w74 hw) (w65 hw) (w75 hw) (by decide) (argsL := [(.int (cs.getD (e - 1) 0))]) (st := []) rfl rfl (lenOf pd2 rfl) rfl (Nat.le_of_eq rfl) (k' := 0) rfl (n' := 0) rfl (by decide) (by decide) rfl ?_
                intro r50 h51 Q51 O51
                obtain ⟨rfl, e52⟩ := Q51
                obtain rfl := e52.symm
                refine Wk.istore (pc' := 108) C d_method_6_106 (Ls' := #[.val (.ref a), .val (.int (Int32.ofNat s)), .val (.int (Int32.ofNat e)), .val (.int (1 : Int32)), .val (.int v42), .val (.int (2 : Int32)), .val (.int (six (cs.getD (e - 1) 0)))]) rfl rfl ?_
                refine Wk.iload (pc' := 110) C d_method_6_108 rfl rfl ?_
                refine Wk.iconst (pc' := 111) C d_method_6_110 (v := (2 : Int32)) rfl rfl ?_
                refine Wk.icmp_ne C d_method_6_111 (by decide) (pcT := 128) (by decide) (pc' := 114) rfl (fun q => absurd q (by decide)) (fun q53 => ?_)
                refine Wk.iload (pc' := 116) C d_method_6_114 rfl rfl ?_
                refine Wk.bipush (pc' := 118) C d_method_6_116 (v := (15 : Int32)) rfl rfl ?_
                obtain ⟨v54, hv54⟩ : ∃ z : Int32, (six (cs.getD (e - 1) 0)) &&& (15 : Int32) = z := ⟨_, rfl⟩
                refine Wk.iand (pc' := 119) C d_method_6_118 hv54 rfl ?_
                refine Wk.if_ne C d_method_6_119 (by decide) (pcT := 126) (by decide) (pc' := 122) rfl (fun q55 => ?_) (fun q55 => ?_)
                · -- pc 119: taken
                  refine Wk.iconst (pc' := 127) C d_method_6_126 (v := (0 : Int32)) rfl rfl ?_
                  exact Wk.retNar (ty := .boolean) C (by simp) d_method_6_127 rfl (by decide) (by decide) ⟨congrArg (fun z => some (Value.int z)) (Eq.symm (show expV cs s e = _ from (if_neg q14).trans ((if_neg q19).trans ((if_neg q24).trans ((if_neg q29).trans ((if_neg q34).trans ((if_neg q39).trans ((if_neg (by omega)).trans ((if_neg (by omega)).trans ((if_pos hm).trans (if_neg (fun z => q55 (hv54.symm.trans z))))))))))))), rfl⟩
                · -- pc 119: not taken
                  refine Wk.iconst (pc' := 123) C d_method_6_122 (v := (1 : Int32)) rfl rfl ?_
                  refine Wk.goto C d_method_6_123 (by decide) (pc' := 127) (by decide) ?_
                  exact Wk.retNar (ty := .boolean) C (by simp) d_method_6_127 rfl (by decide) (by decide) ⟨congrArg (fun z => some (Value.int z)) (Eq.symm (show expV cs s e = _ from (if_neg q14).trans ((if_neg q19).trans ((if_neg q24).trans ((if_neg q29).trans ((if_neg q34).trans ((if_neg q39).trans ((if_neg (by omega)).trans ((if_neg (by omega)).trans ((if_pos hm).trans (if_pos (hv54.trans q55)))))))))))), rfl⟩
              · -- the rest is 3
                refine Wk.iload (pc' := 85) C d_method_6_83 rfl rfl ?_
                refine Wk.if_ne C d_method_6_85 (by decide) (pcT := 90) (by decide) (pc' := 88) rfl (fun q56 => ?_) (fun q => absurd q (by decide))
                refine Wk.iload (pc' := 92) C d_method_6_90 rfl rfl ?_
                refine Wk.iconst (pc' := 93) C d_method_6_92 (v := (1 : Int32)) rfl rfl ?_
                refine Wk.icmp_ne C d_method_6_93 (by decide) (pcT := 98) (by decide) (pc' := 96) rfl (fun q57 => ?_) (fun q => absurd q (by decide))
                refine Wk.aloadN (pc' := 99) C d_method_6_98 rfl rfl rfl ?_
                refine Wk.iloadN (pc' := 100) C d_method_6_99 rfl rfl ?_
                refine Wk.iconst (pc' := 101) C d_method_6_100 (v := (1 : Int32)) rfl rfl ?_
                obtain ⟨v58, hv58⟩ : ∃ z : Int32, (Int32.ofNat e) - (1 : Int32) = z := ⟨_, rfl⟩
                refine Wk.isub (pc' := 102) C d_method_6_101 hv58 rfl ?_
                refine Wk.caload (pc' := 103) C d_method_6_102 V (own_em1 (by omega) he hv58).1 (v := (.int (cs.getD (e - 1) 0))) (by rw [(own_em1 (by omega) he hv58).2]; exact Wk.getd (by omega)) rfl ?_
                refine Wk.callS (pc' := 106) C d_method_6_103 (Wk.Con.pays C (Wn := 0) (own_six l hw O0 (cs.getD (e - 1) 0)) (w75 hw) (w65 hw) (by decide) (by decide)) Wk.cleanC (w73 hw) (w74 hw) (w65 hw) (w75 hw) (by decide) (argsL := [(.int (cs.getD (e - 1) 0))]) (st := []) rfl rfl (lenOf pd2 rfl) rfl (Nat.le_of_eq rfl) (k' := 0) rfl (n' := 0) rfl (by decide) (by decide) rfl ?_
                intro r59 h60 Q60 O60
                obtain ⟨rfl, e61⟩ := Q60
                obtain rfl := e61.symm
                refine Wk.istore (pc' := 108) C d_method_6_106 (Ls' := #[.val (.ref a), .val (.int (Int32.ofNat s)), .val (.int (Int32.ofNat e)), .val (.int (1 : Int32)), .val (.int v42), .val (.int (3 : Int32)), .val (.int (six (cs.getD (e - 1) 0)))]) rfl rfl ?_
                refine Wk.iload (pc' := 110) C d_method_6_108 rfl rfl ?_
                refine Wk.iconst (pc' := 111) C d_method_6_110 (v := (2 : Int32)) rfl rfl ?_
                refine Wk.icmp_ne C d_method_6_111 (by decide) (pcT := 128) (by decide) (pc' := 114) rfl (fun q62 => ?_) (fun q => absurd q (by decide))
                refine Wk.iload (pc' := 130) C d_method_6_128 rfl rfl ?_
                refine Wk.iconst (pc' := 131) C d_method_6_130 (v := (3 : Int32)) rfl rfl ?_
                obtain ⟨v63, hv63⟩ : ∃ z : Int32, (six (cs.getD (e - 1) 0)) &&& (3 : Int32) = z := ⟨_, rfl⟩
                refine Wk.iand (pc' := 132) C d_method_6_131 hv63 rfl ?_
                refine Wk.if_ne C d_method_6_132 (by decide) (pcT := 139) (by decide) (pc' := 135) rfl (fun q64 => ?_) (fun q64 => ?_)
                · -- pc 132: taken
                  refine Wk.iconst (pc' := 140) C d_method_6_139 (v := (0 : Int32)) rfl rfl ?_
                  exact Wk.retNar (ty := .boolean) C (by simp) d_method_6_140 rfl (by decide) (by decide) ⟨congrArg (fun z => some (Value.int z)) (Eq.symm (show expV cs s e = _ from (if_neg q14).trans ((if_neg q19).trans ((if_neg q24).trans ((if_neg q29).trans ((if_neg q34).trans ((if_neg q39).trans ((if_neg (by omega)).trans ((if_neg (by omega)).trans ((if_neg (by omega)).trans (if_neg (fun z => q64 (hv63.symm.trans z))))))))))))), rfl⟩
                · -- pc 132: not taken
                  refine Wk.iconst (pc' := 136) C d_method_6_135 (v := (1 : Int32)) rfl rfl ?_
                  refine Wk.goto C d_method_6_136 (by decide) (pc' := 140) (by decide) ?_
                  exact Wk.retNar (ty := .boolean) C (by simp) d_method_6_140 rfl (by decide) (by decide) ⟨congrArg (fun z => some (Value.int z)) (Eq.symm (show expV cs s e = _ from (if_neg q14).trans ((if_neg q19).trans ((if_neg q24).trans ((if_neg q29).trans ((if_neg q34).trans ((if_neg q39).trans ((if_neg (by omega)).trans ((if_neg (by omega)).trans ((if_neg (by omega)).trans (if_pos (hv63.trans q64)))))))))))), rfl⟩
set_option maxRecDepth 65536 in
set_option maxHeartbeats 40000000 in
theorem own_canon (l : Launch) {Z : State} {a0 : Array Value} (hw : Ws a0 Z) {h0 : Heap} (O0 : Ext Z.heap h0) (hs : Sets Z) (aT : Addr) (x : Addr) (cs : List Int32) (s e : Nat) (ST : Sta Z Z.heap "com/example/scopegate/scopegate/token/Base64Url" "VALUES" "[B" (.ref aT)) (VT : Wk.Ary Z Z.heap aT .byte tabV) (F : Str Z h0 x cs) (hl : cs.length = 6) (hse : s ≤ e) (he : e ≤ 6) :
    Wk.Con l Z (⟨"com/example/scopegate/scopegate/token/Base64Url", "isCanonical", "(Ljava/lang/String;II)Z"⟩ : MethodName) prog_15_method_3_code 5 (some .boolean) ({ frames := 4, cells := 0, slots := 0, locals := 60 } : Room) #[(.ref x), (.int (Int32.ofNat s)), (.int (Int32.ofNat e))] h0 (fun v h' => v = some (.int (canV cs s e)) ∧ h' = h0) := by
  refine Wk.Con.intro (plainFor_of_name pn1) O0 (fun m => ef10 m x (Int32.ofNat s) (Int32.ofNat e)) ?_
  intro W C
  replace C : Wk.Cx Z W "com/example/scopegate/scopegate/token/Base64Url" "isCanonical" prog_15_method_3_code 5 (some .boolean) := C
  refine Wk.iconst (pc' := 1) C d_prog_15m3_0 (v := (0 : Int32)) rfl rfl ?_
  refine Wk.istoreN (pc' := 2) C d_prog_15m3_1 (Ls' := #[.val (.ref x), .val (.int (Int32.ofNat s)), .val (.int (Int32.ofNat e)), .val (.int (0 : Int32)), .unset]) rfl rfl ?_
  refine Wk.iloadN (pc' := 3) C d_prog_15m3_2 rfl rfl ?_
  refine Wk.istore (pc' := 5) C d_prog_15m3_3 (Ls' := #[.val (.ref x), .val (.int (Int32.ofNat s)), .val (.int (Int32.ofNat e)), .val (.int (0 : Int32)), .val (.int (Int32.ofNat s))]) rfl rfl ?_
  have L5 : ∀ d j last, j + d = e → scan ((cs.drop j).take d) last = scan ((cs.drop s).take (e - s)) 0 → Wk.Run l ({ frames := 4, cells := 0, slots := 0, locals := 60 } : Room) Z W (fun v h' => v = some (.int (canV cs s e)) ∧ h' = h0) h0 0 0 (mkF W.m 5 #[.val (.ref x), .val (.int (Int32.ofNat s)), .val (.int (Int32.ofNat e)), .val (.int last), .val (.int (Int32.ofNat j))] []) := by
    intro d
    induction d with
    | zero =>
      intro j last hjd hr
      have hlt : ¬ (Int32.ofNat j < Int32.ofNat e) := by
        rw [Wk.ltI, (Wk.nat32 (n := j) (by omega)).1, (Wk.nat32 (n := e) (by omega)).1]; omega
      have hs0 : scan ((cs.drop s).take (e - s)) 0 = some last := by rw [← hr]; simp [scan]
      refine Wk.iload (pc' := 7) C d_prog_15m3_5 rfl rfl ?_
      refine Wk.iloadN (pc' := 8) C d_prog_15m3_7 rfl rfl ?_
      refine Wk.icmp_ge C d_prog_15m3_8 (by decide) (pcT := 33) (by decide) (pc' := 11) rfl (fun q11 => ?_) (fun q => absurd q hlt)
      refine Wk.iloadN (pc' := 34) C d_prog_15m3_33 rfl rfl ?_
      refine Wk.iloadN (pc' := 35) C d_prog_15m3_34 rfl rfl ?_
      obtain ⟨v12, hv12⟩ : ∃ z : Int32, (Int32.ofNat e) - (Int32.ofNat s) = z := ⟨_, rfl⟩
      refine Wk.isub (pc' := 36) C d_prog_15m3_35 hv12 rfl ?_
      refine Wk.iconst (pc' := 37) C d_prog_15m3_36 (v := (4 : Int32)) rfl rfl ?_
      obtain ⟨v13, hv13⟩ : ∃ z : Int32, v12 % (4 : Int32) = z := ⟨_, rfl⟩
      refine Wk.irem (pc' := 38) C d_prog_15m3_37 (by decide) hv13 rfl ?_
      rcases own_mod4 hse he hv12 hv13 with ⟨rfl, hm⟩ | ⟨rfl, hm⟩ | ⟨rfl, hm⟩ | ⟨rfl, hm⟩
      · -- v13 = 0
        refine Wk.tswIn C d_prog_15m3_38 (by decide) (o := 30) (by decide) (by decide) (pc' := 68) (by decide) ?_
        refine Wk.iconst (pc' := 69) C d_prog_15m3_68 (v := (1 : Int32)) rfl rfl ?_
        refine Wk.goto C d_prog_15m3_69 (by decide) (pc' := 102) (by decide) ?_
        exact Wk.retNar (ty := .boolean) C (by simp) d_prog_15m3_102 rfl (by decide) (by decide) ⟨congrArg (fun z => some (Value.int z)) (by unfold canV; rw [hs0]; exact Eq.symm (if_pos hm)), rfl⟩
      · -- v13 = 1
        refine Wk.tswIn C d_prog_15m3_38 (by decide) (o := 63) (by decide) (by decide) (pc' := 101) (by decide) ?_
        refine Wk.iconst (pc' := 102) C d_prog_15m3_101 (v := (0 : Int32)) rfl rfl ?_
        exact Wk.retNar (ty := .boolean) C (by simp) d_prog_15m3_102 rfl (by decide) (by decide) ⟨congrArg (fun z => some (Value.int z)) (by unfold canV; rw [hs0]; exact Eq.symm ((if_neg (by omega)).trans (if_pos hm))), rfl⟩
      · -- v13 = 2
        refine Wk.tswIn C d_prog_15m3_38 (by decide) (o := 34) (by decide) (by decide) (pc' := 72) (by decide) ?_
        refine Wk.iloadN (pc' := 73) C d_prog_15m3_72 rfl rfl ?_
        refine Wk.bipush (pc' := 75) C d_prog_15m3_73 (v := (15 : Int32)) rfl rfl ?_
        obtain ⟨v14, hv14⟩ : ∃ z : Int32, last &&& (15 : Int32) = z := ⟨_, rfl⟩
        refine Wk.iand (pc' := 76) C d_prog_15m3_75 hv14 rfl ?_
        refine Wk.if_ne C d_prog_15m3_76 (by decide) (pcT := 83) (by decide) (pc' := 79) rfl (fun q15 => ?_) (fun q15 => ?_)
        · -- pc 76: taken
          refine Wk.iconst (pc' := 84) C d_prog_15m3_83 (v := (0 : Int32)) rfl rfl ?_
          refine Wk.goto C d_prog_15m3_84 (by decide) (pc' := 102) (by decide) ?_
          exact Wk.retNar (ty := .boolean) C (by simp) d_prog_15m3_102 rfl (by decide) (by decide) ⟨congrArg (fun z => some (Value.int z)) (by unfold canV; rw [hs0]; exact Eq.symm ((if_neg (by omega)).trans ((if_neg (by omega)).trans ((if_pos hm).trans (if_neg (fun z => q15 (hv14.symm.trans z))))))), rfl⟩
        · -- pc 76: not taken
          refine Wk.iconst (pc' := 80) C d_prog_15m3_79 (v := (1 : Int32)) rfl rfl ?_
          refine Wk.goto C d_prog_15m3_80 (by decide) (pc' := 102) (by decide) ?_
          exact Wk.retNar (ty := .boolean) C (by simp) d_prog_15m3_102 rfl (by decide) (by decide) ⟨congrArg (fun z => some (Value.int z)) (by unfold canV; rw [hs0]; exact Eq.symm ((if_neg (by omega)).trans ((if_neg (by omega)).trans ((if_pos hm).trans (if_pos (hv14.trans q15)))))), rfl⟩
      · -- v13 = 3
        refine Wk.tswIn C d_prog_15m3_38 (by decide) (o := 49) (by decide) (by decide) (pc' := 87) (by decide) ?_
        refine Wk.iloadN (pc' := 88) C d_prog_15m3_87 rfl rfl ?_
        refine Wk.iconst (pc' := 89) C d_prog_15m3_88 (v := (3 : Int32)) rfl rfl ?_
        obtain ⟨v16, hv16⟩ : ∃ z : Int32, last &&& (3 : Int32) = z := ⟨_, rfl⟩
        refine Wk.iand (pc' := 90) C d_prog_15m3_89 hv16 rfl ?_
        refine Wk.if_ne C d_prog_15m3_90 (by decide) (pcT := 97) (by decide) (pc' := 93) rfl (fun q17 => ?_) (fun q17 => ?_)
        · -- pc 90: taken
          refine Wk.iconst (pc' := 98) C d_prog_15m3_97 (v := (0 : Int32)) rfl rfl ?_
          refine Wk.goto C d_prog_15m3_98 (by decide) (pc' := 102) (by decide) ?_
          exact Wk.retNar (ty := .boolean) C (by simp) d_prog_15m3_102 rfl (by decide) (by decide) ⟨congrArg (fun z => some (Value.int z)) (by unfold canV; rw [hs0]; exact Eq.symm ((if_neg (by omega)).trans ((if_neg (by omega)).trans ((if_neg (by omega)).trans (if_neg (fun z => q17 (hv16.symm.trans z))))))), rfl⟩
        · -- pc 90: not taken
          refine Wk.iconst (pc' := 94) C d_prog_15m3_93 (v := (1 : Int32)) rfl rfl ?_
          refine Wk.goto C d_prog_15m3_94 (by decide) (pc' := 102) (by decide) ?_
          exact Wk.retNar (ty := .boolean) C (by simp) d_prog_15m3_102 rfl (by decide) (by decide) ⟨congrArg (fun z => some (Value.int z)) (by unfold canV; rw [hs0]; exact Eq.symm ((if_neg (by omega)).trans ((if_neg (by omega)).trans ((if_neg (by omega)).trans (if_pos (hv16.trans q17)))))), rfl⟩
    | succ d ih =>
      intro j last hjd hr
      have hlt : (Int32.ofNat j < Int32.ofNat e) := by
        rw [Wk.ltI, (Wk.nat32 (n := j) (by omega)).1, (Wk.nat32 (n := e) (by omega)).1]; omega
      have hjl : j < cs.length := by omega
      have hdr := own_hdr (d := d) hjl
      have hpj := own_in F.2.2.2.1 hjl
      refine Wk.iload (pc' := 7) C d_prog_15m3_5 rfl rfl ?_
      refine Wk.iloadN (pc' := 8) C d_prog_15m3_7 rfl rfl ?_
      refine Wk.icmp_ge C d_prog_15m3_8 (by decide) (pcT := 33) (by decide) (pc' := 11) rfl (fun q => absurd hlt q) (fun q18 => ?_)
      refine Wk.aloadN (pc' := 12) C d_prog_15m3_11 rfl rfl rfl ?_
      refine Wk.iload (pc' := 14) C d_prog_15m3_12 rfl rfl ?_
      refine Wk.callV (pc' := 17) C d_prog_15m3_14 (a := x) (strAt C hw hs O0 (Wn := 0) (i := j) F hjl rfl (by decide) (by decide)) (pureC (P := fun v => v = some (.int (cs.getD j 0))) O0) F.exa (w36 hw) (w37 hw) (notFace_of_selects (args := #[]) (mvT C.hZ (w39 hw))) (w39 hw) (w38 hw) (by decide) (argsL := [(.int (Int32.ofNat j))]) (st := []) rfl rfl (lenOf pd3 rfl) rfl (Nat.le_of_eq rfl) (k' := 0) rfl (n' := 0) rfl (by decide) (by decide) rfl ?_
      intro r19 h20 Q20 O20
      obtain ⟨rfl, e21⟩ := Q20
      obtain rfl := e21.symm
      refine Wk.callS (pc' := 20) C d_prog_15m3_17 (Wk.Con.pays C (Wn := 0) (own_value l hw O0 aT (cs.getD j 0) ST VT hpj) (w60 hw) (w34 hw) (by decide) (by decide)) Wk.cleanC (w58 hw) (w59 hw) (w34 hw) (w60 hw) (by decide) (argsL := [(.int (cs.getD j 0))]) (st := []) rfl rfl (lenOf pd2 rfl) rfl (Nat.le_of_eq rfl) (k' := 0) rfl (n' := 0) rfl (by decide) (by decide) rfl ?_
      intro r22 h23 Q23 O23
      obtain ⟨rfl, e24⟩ := Q23
      obtain rfl := e24.symm
      refine Wk.istoreN (pc' := 21) C d_prog_15m3_20 (Ls' := #[.val (.ref x), .val (.int (Int32.ofNat s)), .val (.int (Int32.ofNat e)), .val (.int (val (cs.getD j 0))), .val (.int (Int32.ofNat j))]) rfl rfl ?_
      refine Wk.iloadN (pc' := 22) C d_prog_15m3_21 rfl rfl ?_
      refine Wk.if_ge C d_prog_15m3_22 (by decide) (pcT := 27) (by decide) (pc' := 25) rfl (fun q25 => ?_) (fun q25 => ?_)
      · -- pc 22: taken
        obtain ⟨v26, hv26⟩ : ∃ z : Int32, (Int32.ofNat j) + Int32.ofInt 1 = z := ⟨_, rfl⟩
        refine Wk.iinc (pc' := 30) C d_prog_15m3_27 rfl hv26 (Ls' := #[.val (.ref x), .val (.int (Int32.ofNat s)), .val (.int (Int32.ofNat e)), .val (.int (val (cs.getD j 0))), .val (.int v26)]) rfl rfl ?_
        refine Wk.goto C d_prog_15m3_30 (by decide) (pc' := 5) (by decide) ?_
        have hn : v26 = Int32.ofNat (j + 1) := by
          rw [← hv26]; exact Wk.succ32 (by omega)
        rw [hn]
        exact ih (j + 1) _ (by omega) (by rw [← hr, hdr, scan_ge q25])
      · -- pc 22: not taken
        refine Wk.iconst (pc' := 26) C d_prog_15m3_25 (v := (0 : Int32)) rfl rfl ?_
        exact Wk.retNar (ty := .boolean) C (by simp) d_prog_15m3_26 rfl (by decide) (by decide) ⟨congrArg (fun z => some (Value.int z)) (by unfold canV; rw [← hr, hdr, scan_lt q25]; rfl), rfl⟩
  exact L5 (e - s) s 0 (by omega) rfl
theorem own_same (c0 c1 c2 c3 c4 c5 : Int32) (r0 : ¬ c0 < 0 ∧ ¬ (255 : Int32) < c0) (r1 : ¬ c1 < 0 ∧ ¬ (255 : Int32) < c1) (r2 : ¬ c2 < 0 ∧ ¬ (255 : Int32) < c2) (r3 : ¬ c3 < 0 ∧ ¬ (255 : Int32) < c3) (r4 : ¬ c4 < 0 ∧ ¬ (255 : Int32) < c4) (r5 : ¬ c5 < 0 ∧ ¬ (255 : Int32) < c5) {s e : Nat} (h1 : s ≤ e) (h2 : e ≤ 6) : canV [c0, c1, c2, c3, c4, c5] s e = expV [c0, c1, c2, c3, c4, c5] s e := by
  obtain ⟨V0, S0⟩ := own_rl r0
  obtain ⟨V1, S1⟩ := own_rl r1
  obtain ⟨V2, S2⟩ := own_rl r2
  obtain ⟨V3, S3⟩ := own_rl r3
  obtain ⟨V4, S4⟩ := own_rl r4
  obtain ⟨V5, S5⟩ := own_rl r5
  have he : e = 0 ∨ e = 1 ∨ e = 2 ∨ e = 3 ∨ e = 4 ∨ e = 5 ∨ e = 6 := by omega
  rcases he with rfl | rfl | rfl | rfl | rfl | rfl | rfl
  · have hs : s = 0 := by omega
    rcases hs with rfl
    · have o0 : okI 0 (Int32.ofNat 0) (Int32.ofNat 0) c0 = 1 := (if_neg (by decide)).trans (if_pos (by decide))
      have o1 : okI 1 (Int32.ofNat 0) (Int32.ofNat 0) c1 = 1 := (if_neg (by decide)).trans (if_pos (by decide))
      have o2 : okI 2 (Int32.ofNat 0) (Int32.ofNat 0) c2 = 1 := (if_neg (by decide)).trans (if_pos (by decide))
      have o3 : okI 3 (Int32.ofNat 0) (Int32.ofNat 0) c3 = 1 := (if_neg (by decide)).trans (if_pos (by decide))
      have o4 : okI 4 (Int32.ofNat 0) (Int32.ofNat 0) c4 = 1 := (if_neg (by decide)).trans (if_pos (by decide))
      have o5 : okI 5 (Int32.ofNat 0) (Int32.ofNat 0) c5 = 1 := (if_neg (by decide)).trans (if_pos (by decide))
      show canT 0 (scan [] 0) = expW (okI 0 (Int32.ofNat 0) (Int32.ofNat 0) c0) (okI 1 (Int32.ofNat 0) (Int32.ofNat 0) c1) (okI 2 (Int32.ofNat 0) (Int32.ofNat 0) c2) (okI 3 (Int32.ofNat 0) (Int32.ofNat 0) c3) (okI 4 (Int32.ofNat 0) (Int32.ofNat 0) c4) (okI 5 (Int32.ofNat 0) (Int32.ofNat 0) c5) 0 (six c0)
      rw [o0, o1, o2, o3, o4, o5]
      simp [scan, canT, expW]
  · have hs : s = 0 ∨ s = 1 := by omega
    rcases hs with rfl | rfl
    · have o0 : okI 0 (Int32.ofNat 0) (Int32.ofNat 1) c0 = vld c0 := (if_neg (by decide)).trans (if_neg (by decide))
      have o1 : okI 1 (Int32.ofNat 0) (Int32.ofNat 1) c1 = 1 := (if_neg (by decide)).trans (if_pos (by decide))
      have o2 : okI 2 (Int32.ofNat 0) (Int32.ofNat 1) c2 = 1 := (if_neg (by decide)).trans (if_pos (by decide))
      have o3 : okI 3 (Int32.ofNat 0) (Int32.ofNat 1) c3 = 1 := (if_neg (by decide)).trans (if_pos (by decide))
      have o4 : okI 4 (Int32.ofNat 0) (Int32.ofNat 1) c4 = 1 := (if_neg (by decide)).trans (if_pos (by decide))
      have o5 : okI 5 (Int32.ofNat 0) (Int32.ofNat 1) c5 = 1 := (if_neg (by decide)).trans (if_pos (by decide))
      show canT 1 (scan [c0] 0) = expW (okI 0 (Int32.ofNat 0) (Int32.ofNat 1) c0) (okI 1 (Int32.ofNat 0) (Int32.ofNat 1) c1) (okI 2 (Int32.ofNat 0) (Int32.ofNat 1) c2) (okI 3 (Int32.ofNat 0) (Int32.ofNat 1) c3) (okI 4 (Int32.ofNat 0) (Int32.ofNat 1) c4) (okI 5 (Int32.ofNat 0) (Int32.ofNat 1) c5) 1 (six c0)
      rw [o0, o1, o2, o3, o4, o5]
      by_cases k0 : val c0 < 0
      · simp [scan, canT, expW, V0, k0]
      simp [scan, canT, expW, V0, k0, S0 k0]
    · have o0 : okI 0 (Int32.ofNat 1) (Int32.ofNat 1) c0 = 1 := if_pos (by decide)
      have o1 : okI 1 (Int32.ofNat 1) (Int32.ofNat 1) c1 = 1 := (if_neg (by decide)).trans (if_pos (by decide))
      have o2 : okI 2 (Int32.ofNat 1) (Int32.ofNat 1) c2 = 1 := (if_neg (by decide)).trans (if_pos (by decide))
      have o3 : okI 3 (Int32.ofNat 1) (Int32.ofNat 1) c3 = 1 := (if_neg (by decide)).trans (if_pos (by decide))
      have o4 : okI 4 (Int32.ofNat 1) (Int32.ofNat 1) c4 = 1 := (if_neg (by decide)).trans (if_pos (by decide))
      have o5 : okI 5 (Int32.ofNat 1) (Int32.ofNat 1) c5 = 1 := (if_neg (by decide)).trans (if_pos (by decide))
      show canT 0 (scan [] 0) = expW (okI 0 (Int32.ofNat 1) (Int32.ofNat 1) c0) (okI 1 (Int32.ofNat 1) (Int32.ofNat 1) c1) (okI 2 (Int32.ofNat 1) (Int32.ofNat 1) c2) (okI 3 (Int32.ofNat 1) (Int32.ofNat 1) c3) (okI 4 (Int32.ofNat 1) (Int32.ofNat 1) c4) (okI 5 (Int32.ofNat 1) (Int32.ofNat 1) c5) 0 (six c0)
      rw [o0, o1, o2, o3, o4, o5]
      simp [scan, canT, expW]
  · have hs : s = 0 ∨ s = 1 ∨ s = 2 := by omega
    rcases hs with rfl | rfl | rfl
    · have o0 : okI 0 (Int32.ofNat 0) (Int32.ofNat 2) c0 = vld c0 := (if_neg (by decide)).trans (if_neg (by decide))
      have o1 : okI 1 (Int32.ofNat 0) (Int32.ofNat 2) c1 = vld c1 := (if_neg (by decide)).trans (if_neg (by decide))
      have o2 : okI 2 (Int32.ofNat 0) (Int32.ofNat 2) c2 = 1 := (if_neg (by decide)).trans (if_pos (by decide))
      have o3 : okI 3 (Int32.ofNat 0) (Int32.ofNat 2) c3 = 1 := (if_neg (by decide)).trans (if_pos (by decide))
      have o4 : okI 4 (Int32.ofNat 0) (Int32.ofNat 2) c4 = 1 := (if_neg (by decide)).trans (if_pos (by decide))
      have o5 : okI 5 (Int32.ofNat 0) (Int32.ofNat 2) c5 = 1 := (if_neg (by decide)).trans (if_pos (by decide))
      show canT 2 (scan [c0, c1] 0) = expW (okI 0 (Int32.ofNat 0) (Int32.ofNat 2) c0) (okI 1 (Int32.ofNat 0) (Int32.ofNat 2) c1) (okI 2 (Int32.ofNat 0) (Int32.ofNat 2) c2) (okI 3 (Int32.ofNat 0) (Int32.ofNat 2) c3) (okI 4 (Int32.ofNat 0) (Int32.ofNat 2) c4) (okI 5 (Int32.ofNat 0) (Int32.ofNat 2) c5) 2 (six c1)
      rw [o0, o1, o2, o3, o4, o5]
      by_cases k0 : val c0 < 0
      · simp [scan, canT, expW, V0, k0]
      by_cases k1 : val c1 < 0
      · simp [scan, canT, expW, V0, k0, V1, k1]
      simp [scan, canT, expW, V0, k0, V1, k1, S1 k1]
    · have o0 : okI 0 (Int32.ofNat 1) (Int32.ofNat 2) c0 = 1 := if_pos (by decide)
      have o1 : okI 1 (Int32.ofNat 1) (Int32.ofNat 2) c1 = vld c1 := (if_neg (by decide)).trans (if_neg (by decide))
      have o2 : okI 2 (Int32.ofNat 1) (Int32.ofNat 2) c2 = 1 := (if_neg (by decide)).trans (if_pos (by decide))
      have o3 : okI 3 (Int32.ofNat 1) (Int32.ofNat 2) c3 = 1 := (if_neg (by decide)).trans (if_pos (by decide))
      have o4 : okI 4 (Int32.ofNat 1) (Int32.ofNat 2) c4 = 1 := (if_neg (by decide)).trans (if_pos (by decide))
      have o5 : okI 5 (Int32.ofNat 1) (Int32.ofNat 2) c5 = 1 := (if_neg (by decide)).trans (if_pos (by decide))
      show canT 1 (scan [c1] 0) = expW (okI 0 (Int32.ofNat 1) (Int32.ofNat 2) c0) (okI 1 (Int32.ofNat 1) (Int32.ofNat 2) c1) (okI 2 (Int32.ofNat 1) (Int32.ofNat 2) c2) (okI 3 (Int32.ofNat 1) (Int32.ofNat 2) c3) (okI 4 (Int32.ofNat 1) (Int32.ofNat 2) c4) (okI 5 (Int32.ofNat 1) (Int32.ofNat 2) c5) 1 (six c1)
      rw [o0, o1, o2, o3, o4, o5]
      by_cases k1 : val c1 < 0
      · simp [scan, canT, expW, V1, k1]
      simp [scan, canT, expW, V1, k1, S1 k1]
    · have o0 : okI 0 (Int32.ofNat 2) (Int32.ofNat 2) c0 = 1 := if_pos (by decide)
      have o1 : okI 1 (Int32.ofNat 2) (Int32.ofNat 2) c1 = 1 := if_pos (by decide)
      have o2 : okI 2 (Int32.ofNat 2) (Int32.ofNat 2) c2 = 1 := (if_neg (by decide)).trans (if_pos (by decide))
      have o3 : okI 3 (Int32.ofNat 2) (Int32.ofNat 2) c3 = 1 := (if_neg (by decide)).trans (if_pos (by decide))
      have o4 : okI 4 (Int32.ofNat 2) (Int32.ofNat 2) c4 = 1 := (if_neg (by decide)).trans (if_pos (by decide))
      have o5 : okI 5 (Int32.ofNat 2) (Int32.ofNat 2) c5 = 1 := (if_neg (by decide)).trans (if_pos (by decide))
      show canT 0 (scan [] 0) = expW (okI 0 (Int32.ofNat 2) (Int32.ofNat 2) c0) (okI 1 (Int32.ofNat 2) (Int32.ofNat 2) c1) (okI 2 (Int32.ofNat 2) (Int32.ofNat 2) c2) (okI 3 (Int32.ofNat 2) (Int32.ofNat 2) c3) (okI 4 (Int32.ofNat 2) (Int32.ofNat 2) c4) (okI 5 (Int32.ofNat 2) (Int32.ofNat 2) c5) 0 (six c1)
      rw [o0, o1, o2, o3, o4, o5]
      simp [scan, canT, expW]
  · have hs : s = 0 ∨ s = 1 ∨ s = 2 ∨ s = 3 := by omega
    rcases hs with rfl | rfl | rfl | rfl
    · have o0 : okI 0 (Int32.ofNat 0) (Int32.ofNat 3) c0 = vld c0 := (if_neg (by decide)).trans (if_neg (by decide))
      have o1 : okI 1 (Int32.ofNat 0) (Int32.ofNat 3) c1 = vld c1 := (if_neg (by decide)).trans (if_neg (by decide))
      have o2 : okI 2 (Int32.ofNat 0) (Int32.ofNat 3) c2 = vld c2 := (if_neg (by decide)).trans (if_neg (by decide))
      have o3 : okI 3 (Int32.ofNat 0) (Int32.ofNat 3) c3 = 1 := (if_neg (by decide)).trans (if_pos (by decide))
      have o4 : okI 4 (Int32.ofNat 0) (Int32.ofNat 3) c4 = 1 := (if_neg (by decide)).trans (if_pos (by decide))
      have o5 : okI 5 (Int32.ofNat 0) (Int32.ofNat 3) c5 = 1 := (if_neg (by decide)).trans (if_pos (by decide))
      show canT 3 (scan [c0, c1, c2] 0) = expW (okI 0 (Int32.ofNat 0) (Int32.ofNat 3) c0) (okI 1 (Int32.ofNat 0) (Int32.ofNat 3) c1) (okI 2 (Int32.ofNat 0) (Int32.ofNat 3) c2) (okI 3 (Int32.ofNat 0) (Int32.ofNat 3) c3) (okI 4 (Int32.ofNat 0) (Int32.ofNat 3) c4) (okI 5 (Int32.ofNat 0) (Int32.ofNat 3) c5) 3 (six c2)
      rw [o0, o1, o2, o3, o4, o5]
      by_cases k0 : val c0 < 0
      · simp [scan, canT, expW, V0, k0]
      by_cases k1 : val c1 < 0
      · simp [scan, canT, expW, V0, k0, V1, k1]
      by_cases k2 : val c2 < 0
      · simp [scan, canT, expW, V0, k0, V1, k1, V2, k2]
      simp [scan, canT, expW, V0, k0, V1, k1, V2, k2, S2 k2]
    · have o0 : okI 0 (Int32.ofNat 1) (Int32.ofNat 3) c0 = 1 := if_pos (by decide)
      have o1 : okI 1 (Int32.ofNat 1) (Int32.ofNat 3) c1 = vld c1 := (if_neg (by decide)).trans (if_neg (by decide))
      have o2 : okI 2 (Int32.ofNat 1) (Int32.ofNat 3) c2 = vld c2 := (if_neg (by decide)).trans (if_neg (by decide))
      have o3 : okI 3 (Int32.ofNat 1) (Int32.ofNat 3) c3 = 1 := (if_neg (by decide)).trans (if_pos (by decide))
      have o4 : okI 4 (Int32.ofNat 1) (Int32.ofNat 3) c4 = 1 := (if_neg (by decide)).trans (if_pos (by decide))
      have o5 : okI 5 (Int32.ofNat 1) (Int32.ofNat 3) c5 = 1 := (if_neg (by decide)).trans (if_pos (by decide))
      show canT 2 (scan [c1, c2] 0) = expW (okI 0 (Int32.ofNat 1) (Int32.ofNat 3) c0) (okI 1 (Int32.ofNat 1) (Int32.ofNat 3) c1) (okI 2 (Int32.ofNat 1) (Int32.ofNat 3) c2) (okI 3 (Int32.ofNat 1) (Int32.ofNat 3) c3) (okI 4 (Int32.ofNat 1) (Int32.ofNat 3) c4) (okI 5 (Int32.ofNat 1) (Int32.ofNat 3) c5) 2 (six c2)
      rw [o0, o1, o2, o3, o4, o5]
      by_cases k1 : val c1 < 0
      · simp [scan, canT, expW, V1, k1]
      by_cases k2 : val c2 < 0
      · simp [scan, canT, expW, V1, k1, V2, k2]
      simp [scan, canT, expW, V1, k1, V2, k2, S2 k2]
    · have o0 : okI 0 (Int32.ofNat 2) (Int32.ofNat 3) c0 = 1 := if_pos (by decide)
      have o1 : okI 1 (Int32.ofNat 2) (Int32.ofNat 3) c1 = 1 := if_pos (by decide)
      have o2 : okI 2 (Int32.ofNat 2) (Int32.ofNat 3) c2 = vld c2 := (if_neg (by decide)).trans (if_neg (by decide))
      have o3 : okI 3 (Int32.ofNat 2) (Int32.ofNat 3) c3 = 1 := (if_neg (by decide)).trans (if_pos (by decide))
      have o4 : okI 4 (Int32.ofNat 2) (Int32.ofNat 3) c4 = 1 := (if_neg (by decide)).trans (if_pos (by decide))
      have o5 : okI 5 (Int32.ofNat 2) (Int32.ofNat 3) c5 = 1 := (if_neg (by decide)).trans (if_pos (by decide))
      show canT 1 (scan [c2] 0) = expW (okI 0 (Int32.ofNat 2) (Int32.ofNat 3) c0) (okI 1 (Int32.ofNat 2) (Int32.ofNat 3) c1) (okI 2 (Int32.ofNat 2) (Int32.ofNat 3) c2) (okI 3 (Int32.ofNat 2) (Int32.ofNat 3) c3) (okI 4 (Int32.ofNat 2) (Int32.ofNat 3) c4) (okI 5 (Int32.ofNat 2) (Int32.ofNat 3) c5) 1 (six c2)
      rw [o0, o1, o2, o3, o4, o5]
      by_cases k2 : val c2 < 0
      · simp [scan, canT, expW, V2, k2]
      simp [scan, canT, expW, V2, k2, S2 k2]
    · have o0 : okI 0 (Int32.ofNat 3) (Int32.ofNat 3) c0 = 1 := if_pos (by decide)
      have o1 : okI 1 (Int32.ofNat 3) (Int32.ofNat 3) c1 = 1 := if_pos (by decide)
      have o2 : okI 2 (Int32.ofNat 3) (Int32.ofNat 3) c2 = 1 := if_pos (by decide)
      have o3 : okI 3 (Int32.ofNat 3) (Int32.ofNat 3) c3 = 1 := (if_neg (by decide)).trans (if_pos (by decide))
      have o4 : okI 4 (Int32.ofNat 3) (Int32.ofNat 3) c4 = 1 := (if_neg (by decide)).trans (if_pos (by decide))
      have o5 : okI 5 (Int32.ofNat 3) (Int32.ofNat 3) c5 = 1 := (if_neg (by decide)).trans (if_pos (by decide))
      show canT 0 (scan [] 0) = expW (okI 0 (Int32.ofNat 3) (Int32.ofNat 3) c0) (okI 1 (Int32.ofNat 3) (Int32.ofNat 3) c1) (okI 2 (Int32.ofNat 3) (Int32.ofNat 3) c2) (okI 3 (Int32.ofNat 3) (Int32.ofNat 3) c3) (okI 4 (Int32.ofNat 3) (Int32.ofNat 3) c4) (okI 5 (Int32.ofNat 3) (Int32.ofNat 3) c5) 0 (six c2)
      rw [o0, o1, o2, o3, o4, o5]
      simp [scan, canT, expW]
  · have hs : s = 0 ∨ s = 1 ∨ s = 2 ∨ s = 3 ∨ s = 4 := by omega
    rcases hs with rfl | rfl | rfl | rfl | rfl
    · have o0 : okI 0 (Int32.ofNat 0) (Int32.ofNat 4) c0 = vld c0 := (if_neg (by decide)).trans (if_neg (by decide))
      have o1 : okI 1 (Int32.ofNat 0) (Int32.ofNat 4) c1 = vld c1 := (if_neg (by decide)).trans (if_neg (by decide))
      have o2 : okI 2 (Int32.ofNat 0) (Int32.ofNat 4) c2 = vld c2 := (if_neg (by decide)).trans (if_neg (by decide))
      have o3 : okI 3 (Int32.ofNat 0) (Int32.ofNat 4) c3 = vld c3 := (if_neg (by decide)).trans (if_neg (by decide))
      have o4 : okI 4 (Int32.ofNat 0) (Int32.ofNat 4) c4 = 1 := (if_neg (by decide)).trans (if_pos (by decide))
      have o5 : okI 5 (Int32.ofNat 0) (Int32.ofNat 4) c5 = 1 := (if_neg (by decide)).trans (if_pos (by decide))
      show canT 4 (scan [c0, c1, c2, c3] 0) = expW (okI 0 (Int32.ofNat 0) (Int32.ofNat 4) c0) (okI 1 (Int32.ofNat 0) (Int32.ofNat 4) c1) (okI 2 (Int32.ofNat 0) (Int32.ofNat 4) c2) (okI 3 (Int32.ofNat 0) (Int32.ofNat 4) c3) (okI 4 (Int32.ofNat 0) (Int32.ofNat 4) c4) (okI 5 (Int32.ofNat 0) (Int32.ofNat 4) c5) 4 (six c3)
      rw [o0, o1, o2, o3, o4, o5]
      by_cases k0 : val c0 < 0
      · simp [scan, canT, expW, V0, k0]
      by_cases k1 : val c1 < 0
      · simp [scan, canT, expW, V0, k0, V1, k1]
      by_cases k2 : val c2 < 0
      · simp [scan, canT, expW, V0, k0, V1, k1, V2, k2]
      by_cases k3 : val c3 < 0
      · simp [scan, canT, expW, V0, k0, V1, k1, V2, k2, V3, k3]
      simp [scan, canT, expW, V0, k0, V1, k1, V2, k2, V3, k3, S3 k3]
    · have o0 : okI 0 (Int32.ofNat 1) (Int32.ofNat 4) c0 = 1 := if_pos (by decide)
      have o1 : okI 1 (Int32.ofNat 1) (Int32.ofNat 4) c1 = vld c1 := (if_neg (by decide)).trans (if_neg (by decide))
      have o2 : okI 2 (Int32.ofNat 1) (Int32.ofNat 4) c2 = vld c2 := (if_neg (by decide)).trans (if_neg (by decide))
      have o3 : okI 3 (Int32.ofNat 1) (Int32.ofNat 4) c3 = vld c3 := (if_neg (by decide)).trans (if_neg (by decide))
      have o4 : okI 4 (Int32.ofNat 1) (Int32.ofNat 4) c4 = 1 := (if_neg (by decide)).trans (if_pos (by decide))
      have o5 : okI 5 (Int32.ofNat 1) (Int32.ofNat 4) c5 = 1 := (if_neg (by decide)).trans (if_pos (by decide))
      show canT 3 (scan [c1, c2, c3] 0) = expW (okI 0 (Int32.ofNat 1) (Int32.ofNat 4) c0) (okI 1 (Int32.ofNat 1) (Int32.ofNat 4) c1) (okI 2 (Int32.ofNat 1) (Int32.ofNat 4) c2) (okI 3 (Int32.ofNat 1) (Int32.ofNat 4) c3) (okI 4 (Int32.ofNat 1) (Int32.ofNat 4) c4) (okI 5 (Int32.ofNat 1) (Int32.ofNat 4) c5) 3 (six c3)
      rw [o0, o1, o2, o3, o4, o5]
      by_cases k1 : val c1 < 0
      · simp [scan, canT, expW, V1, k1]
      by_cases k2 : val c2 < 0
      · simp [scan, canT, expW, V1, k1, V2, k2]
      by_cases k3 : val c3 < 0
      · simp [scan, canT, expW, V1, k1, V2, k2, V3, k3]
      simp [scan, canT, expW, V1, k1, V2, k2, V3, k3, S3 k3]
    · have o0 : okI 0 (Int32.ofNat 2) (Int32.ofNat 4) c0 = 1 := if_pos (by decide)
      have o1 : okI 1 (Int32.ofNat 2) (Int32.ofNat 4) c1 = 1 := if_pos (by decide)
      have o2 : okI 2 (Int32.ofNat 2) (Int32.ofNat 4) c2 = vld c2 := (if_neg (by decide)).trans (if_neg (by decide))
      have o3 : okI 3 (Int32.ofNat 2) (Int32.ofNat 4) c3 = vld c3 := (if_neg (by decide)).trans (if_neg (by decide))
      have o4 : okI 4 (Int32.ofNat 2) (Int32.ofNat 4) c4 = 1 := (if_neg (by decide)).trans (if_pos (by decide))
      have o5 : okI 5 (Int32.ofNat 2) (Int32.ofNat 4) c5 = 1 := (if_neg (by decide)).trans (if_pos (by decide))
      show canT 2 (scan [c2, c3] 0) = expW (okI 0 (Int32.ofNat 2) (Int32.ofNat 4) c0) (okI 1 (Int32.ofNat 2) (Int32.ofNat 4) c1) (okI 2 (Int32.ofNat 2) (Int32.ofNat 4) c2) (okI 3 (Int32.ofNat 2) (Int32.ofNat 4) c3) (okI 4 (Int32.ofNat 2) (Int32.ofNat 4) c4) (okI 5 (Int32.ofNat 2) (Int32.ofNat 4) c5) 2 (six c3)
      rw [o0, o1, o2, o3, o4, o5]
      by_cases k2 : val c2 < 0
      · simp [scan, canT, expW, V2, k2]
      by_cases k3 : val c3 < 0
      · simp [scan, canT, expW, V2, k2, V3, k3]
      simp [scan, canT, expW, V2, k2, V3, k3, S3 k3]
    · have o0 : okI 0 (Int32.ofNat 3) (Int32.ofNat 4) c0 = 1 := if_pos (by decide)
      have o1 : okI 1 (Int32.ofNat 3) (Int32.ofNat 4) c1 = 1 := if_pos (by decide)
      have o2 : okI 2 (Int32.ofNat 3) (Int32.ofNat 4) c2 = 1 := if_pos (by decide)
      have o3 : okI 3 (Int32.ofNat 3) (Int32.ofNat 4) c3 = vld c3 := (if_neg (by decide)).trans (if_neg (by decide))
      have o4 : okI 4 (Int32.ofNat 3) (Int32.ofNat 4) c4 = 1 := (if_neg (by decide)).trans (if_pos (by decide))
      have o5 : okI 5 (Int32.ofNat 3) (Int32.ofNat 4) c5 = 1 := (if_neg (by decide)).trans (if_pos (by decide))
      show canT 1 (scan [c3] 0) = expW (okI 0 (Int32.ofNat 3) (Int32.ofNat 4) c0) (okI 1 (Int32.ofNat 3) (Int32.ofNat 4) c1) (okI 2 (Int32.ofNat 3) (Int32.ofNat 4) c2) (okI 3 (Int32.ofNat 3) (Int32.ofNat 4) c3) (okI 4 (Int32.ofNat 3) (Int32.ofNat 4) c4) (okI 5 (Int32.ofNat 3) (Int32.ofNat 4) c5) 1 (six c3)
      rw [o0, o1, o2, o3, o4, o5]
      by_cases k3 : val c3 < 0
      · simp [scan, canT, expW, V3, k3]
      simp [scan, canT, expW, V3, k3, S3 k3]
    · have o0 : okI 0 (Int32.ofNat 4) (Int32.ofNat 4) c0 = 1 := if_pos (by decide)
      have o1 : okI 1 (Int32.ofNat 4) (Int32.ofNat 4) c1 = 1 := if_pos (by decide)
      have o2 : okI 2 (Int32.ofNat 4) (Int32.ofNat 4) c2 = 1 := if_pos (by decide)
      have o3 : okI 3 (Int32.ofNat 4) (Int32.ofNat 4) c3 = 1 := if_pos (by decide)
      have o4 : okI 4 (Int32.ofNat 4) (Int32.ofNat 4) c4 = 1 := (if_neg (by decide)).trans (if_pos (by decide))
      have o5 : okI 5 (Int32.ofNat 4) (Int32.ofNat 4) c5 = 1 := (if_neg (by decide)).trans (if_pos (by decide))
      show canT 0 (scan [] 0) = expW (okI 0 (Int32.ofNat 4) (Int32.ofNat 4) c0) (okI 1 (Int32.ofNat 4) (Int32.ofNat 4) c1) (okI 2 (Int32.ofNat 4) (Int32.ofNat 4) c2) (okI 3 (Int32.ofNat 4) (Int32.ofNat 4) c3) (okI 4 (Int32.ofNat 4) (Int32.ofNat 4) c4) (okI 5 (Int32.ofNat 4) (Int32.ofNat 4) c5) 0 (six c3)
      rw [o0, o1, o2, o3, o4, o5]
      simp [scan, canT, expW]
  · have hs : s = 0 ∨ s = 1 ∨ s = 2 ∨ s = 3 ∨ s = 4 ∨ s = 5 := by omega
    rcases hs with rfl | rfl | rfl | rfl | rfl | rfl
    · have o0 : okI 0 (Int32.ofNat 0) (Int32.ofNat 5) c0 = vld c0 := (if_neg (by decide)).trans (if_neg (by decide))
      have o1 : okI 1 (Int32.ofNat 0) (Int32.ofNat 5) c1 = vld c1 := (if_neg (by decide)).trans (if_neg (by decide))
      have o2 : okI 2 (Int32.ofNat 0) (Int32.ofNat 5) c2 = vld c2 := (if_neg (by decide)).trans (if_neg (by decide))
      have o3 : okI 3 (Int32.ofNat 0) (Int32.ofNat 5) c3 = vld c3 := (if_neg (by decide)).trans (if_neg (by decide))
      have o4 : okI 4 (Int32.ofNat 0) (Int32.ofNat 5) c4 = vld c4 := (if_neg (by decide)).trans (if_neg (by decide))
      have o5 : okI 5 (Int32.ofNat 0) (Int32.ofNat 5) c5 = 1 := (if_neg (by decide)).trans (if_pos (by decide))
      show canT 5 (scan [c0, c1, c2, c3, c4] 0) = expW (okI 0 (Int32.ofNat 0) (Int32.ofNat 5) c0) (okI 1 (Int32.ofNat 0) (Int32.ofNat 5) c1) (okI 2 (Int32.ofNat 0) (Int32.ofNat 5) c2) (okI 3 (Int32.ofNat 0) (Int32.ofNat 5) c3) (okI 4 (Int32.ofNat 0) (Int32.ofNat 5) c4) (okI 5 (Int32.ofNat 0) (Int32.ofNat 5) c5) 5 (six c4)
      rw [o0, o1, o2, o3, o4, o5]
      by_cases k0 : val c0 < 0
      · simp [scan, canT, expW, V0, k0]
      by_cases k1 : val c1 < 0
      · simp [scan, canT, expW, V0, k0, V1, k1]
      by_cases k2 : val c2 < 0
      · simp [scan, canT, expW, V0, k0, V1, k1, V2, k2]
      by_cases k3 : val c3 < 0
      · simp [scan, canT, expW, V0, k0, V1, k1, V2, k2, V3, k3]
      by_cases k4 : val c4 < 0
      · simp [scan, canT, expW, V0, k0, V1, k1, V2, k2, V3, k3, V4, k4]
      simp [scan, canT, expW, V0, k0, V1, k1, V2, k2, V3, k3, V4, k4, S4 k4]
    · have o0 : okI 0 (Int32.ofNat 1) (Int32.ofNat 5) c0 = 1 := if_pos (by decide)
      have o1 : okI 1 (Int32.ofNat 1) (Int32.ofNat 5) c1 = vld c1 := (if_neg (by decide)).trans (if_neg (by decide))
      have o2 : okI 2 (Int32.ofNat 1) (Int32.ofNat 5) c2 = vld c2 := (if_neg (by decide)).trans (if_neg (by decide))
      have o3 : okI 3 (Int32.ofNat 1) (Int32.ofNat 5) c3 = vld c3 := (if_neg (by decide)).trans (if_neg (by decide))
      have o4 : okI 4 (Int32.ofNat 1) (Int32.ofNat 5) c4 = vld c4 := (if_neg (by decide)).trans (if_neg (by decide))
      have o5 : okI 5 (Int32.ofNat 1) (Int32.ofNat 5) c5 = 1 := (if_neg (by decide)).trans (if_pos (by decide))
      show canT 4 (scan [c1, c2, c3, c4] 0) = expW (okI 0 (Int32.ofNat 1) (Int32.ofNat 5) c0) (okI 1 (Int32.ofNat 1) (Int32.ofNat 5) c1) (okI 2 (Int32.ofNat 1) (Int32.ofNat 5) c2) (okI 3 (Int32.ofNat 1) (Int32.ofNat 5) c3) (okI 4 (Int32.ofNat 1) (Int32.ofNat 5) c4) (okI 5 (Int32.ofNat 1) (Int32.ofNat 5) c5) 4 (six c4)
      rw [o0, o1, o2, o3, o4, o5]
      by_cases k1 : val c1 < 0
      · simp [scan, canT, expW, V1, k1]
      by_cases k2 : val c2 < 0
      · simp [scan, canT, expW, V1, k1, V2, k2]
      by_cases k3 : val c3 < 0
      · simp [scan, canT, expW, V1, k1, V2, k2, V3, k3]
      by_cases k4 : val c4 < 0
      · simp [scan, canT, expW, V1, k1, V2, k2, V3, k3, V4, k4]
      simp [scan, canT, expW, V1, k1, V2, k2, V3, k3, V4, k4, S4 k4]
    · have o0 : okI 0 (Int32.ofNat 2) (Int32.ofNat 5) c0 = 1 := if_pos (by decide)
      have o1 : okI 1 (Int32.ofNat 2) (Int32.ofNat 5) c1 = 1 := if_pos (by decide)
      have o2 : okI 2 (Int32.ofNat 2) (Int32.ofNat 5) c2 = vld c2 := (if_neg (by decide)).trans (if_neg (by decide))
      have o3 : okI 3 (Int32.ofNat 2) (Int32.ofNat 5) c3 = vld c3 := (if_neg (by decide)).trans (if_neg (by decide))
      have o4 : okI 4 (Int32.ofNat 2) (Int32.ofNat 5) c4 = vld c4 := (if_neg (by decide)).trans (if_neg (by decide))
      have o5 : okI 5 (Int32.ofNat 2) (Int32.ofNat 5) c5 = 1 := (if_neg (by decide)).trans (if_pos (by decide))
      show canT 3 (scan [c2, c3, c4] 0) = expW (okI 0 (Int32.ofNat 2) (Int32.ofNat 5) c0) (okI 1 (Int32.ofNat 2) (Int32.ofNat 5) c1) (okI 2 (Int32.ofNat 2) (Int32.ofNat 5) c2) (okI 3 (Int32.ofNat 2) (Int32.ofNat 5) c3) (okI 4 (Int32.ofNat 2) (Int32.ofNat 5) c4) (okI 5 (Int32.ofNat 2) (Int32.ofNat 5) c5) 3 (six c4)
      rw [o0, o1, o2, o3, o4, o5]
      by_cases k2 : val c2 < 0
      · simp [scan, canT, expW, V2, k2]
      by_cases k3 : val c3 < 0
      · simp [scan, canT, expW, V2, k2, V3, k3]
      by_cases k4 : val c4 < 0
      · simp [scan, canT, expW, V2, k2, V3, k3, V4, k4]
      simp [scan, canT, expW, V2, k2, V3, k3, V4, k4, S4 k4]
    · have o0 : okI 0 (Int32.ofNat 3) (Int32.ofNat 5) c0 = 1 := if_pos (by decide)
      have o1 : okI 1 (Int32.ofNat 3) (Int32.ofNat 5) c1 = 1 := if_pos (by decide)
      have o2 : okI 2 (Int32.ofNat 3) (Int32.ofNat 5) c2 = 1 := if_pos (by decide)
      have o3 : okI 3 (Int32.ofNat 3) (Int32.ofNat 5) c3 = vld c3 := (if_neg (by decide)).trans (if_neg (by decide))
      have o4 : okI 4 (Int32.ofNat 3) (Int32.ofNat 5) c4 = vld c4 := (if_neg (by decide)).trans (if_neg (by decide))
      have o5 : okI 5 (Int32.ofNat 3) (Int32.ofNat 5) c5 = 1 := (if_neg (by decide)).trans (if_pos (by decide))
      show canT 2 (scan [c3, c4] 0) = expW (okI 0 (Int32.ofNat 3) (Int32.ofNat 5) c0) (okI 1 (Int32.ofNat 3) (Int32.ofNat 5) c1) (okI 2 (Int32.ofNat 3) (Int32.ofNat 5) c2) (okI 3 (Int32.ofNat 3) (Int32.ofNat 5) c3) (okI 4 (Int32.ofNat 3) (Int32.ofNat 5) c4) (okI 5 (Int32.ofNat 3) (Int32.ofNat 5) c5) 2 (six c4)
      rw [o0, o1, o2, o3, o4, o5]
      by_cases k3 : val c3 < 0
      · simp [scan, canT, expW, V3, k3]
      by_cases k4 : val c4 < 0
      · simp [scan, canT, expW, V3, k3, V4, k4]
      simp [scan, canT, expW, V3, k3, V4, k4, S4 k4]
    · have o0 : okI 0 (Int32.ofNat 4) (Int32.ofNat 5) c0 = 1 := if_pos (by decide)
      have o1 : okI 1 (Int32.ofNat 4) (Int32.ofNat 5) c1 = 1 := if_pos (by decide)
      have o2 : okI 2 (Int32.ofNat 4) (Int32.ofNat 5) c2 = 1 := if_pos (by decide)
      have o3 : okI 3 (Int32.ofNat 4) (Int32.ofNat 5) c3 = 1 := if_pos (by decide)
      have o4 : okI 4 (Int32.ofNat 4) (Int32.ofNat 5) c4 = vld c4 := (if_neg (by decide)).trans (if_neg (by decide))
      have o5 : okI 5 (Int32.ofNat 4) (Int32.ofNat 5) c5 = 1 := (if_neg (by decide)).trans (if_pos (by decide))
      show canT 1 (scan [c4] 0) = expW (okI 0 (Int32.ofNat 4) (Int32.ofNat 5) c0) (okI 1 (Int32.ofNat 4) (Int32.ofNat 5) c1) (okI 2 (Int32.ofNat 4) (Int32.ofNat 5) c2) (okI 3 (Int32.ofNat 4) (Int32.ofNat 5) c3) (okI 4 (Int32.ofNat 4) (Int32.ofNat 5) c4) (okI 5 (Int32.ofNat 4) (Int32.ofNat 5) c5) 1 (six c4)
      rw [o0, o1, o2, o3, o4, o5]
      by_cases k4 : val c4 < 0
      · simp [scan, canT, expW, V4, k4]
      simp [scan, canT, expW, V4, k4, S4 k4]
    · have o0 : okI 0 (Int32.ofNat 5) (Int32.ofNat 5) c0 = 1 := if_pos (by decide)
      have o1 : okI 1 (Int32.ofNat 5) (Int32.ofNat 5) c1 = 1 := if_pos (by decide)
      have o2 : okI 2 (Int32.ofNat 5) (Int32.ofNat 5) c2 = 1 := if_pos (by decide)
      have o3 : okI 3 (Int32.ofNat 5) (Int32.ofNat 5) c3 = 1 := if_pos (by decide)
      have o4 : okI 4 (Int32.ofNat 5) (Int32.ofNat 5) c4 = 1 := if_pos (by decide)
      have o5 : okI 5 (Int32.ofNat 5) (Int32.ofNat 5) c5 = 1 := (if_neg (by decide)).trans (if_pos (by decide))
      show canT 0 (scan [] 0) = expW (okI 0 (Int32.ofNat 5) (Int32.ofNat 5) c0) (okI 1 (Int32.ofNat 5) (Int32.ofNat 5) c1) (okI 2 (Int32.ofNat 5) (Int32.ofNat 5) c2) (okI 3 (Int32.ofNat 5) (Int32.ofNat 5) c3) (okI 4 (Int32.ofNat 5) (Int32.ofNat 5) c4) (okI 5 (Int32.ofNat 5) (Int32.ofNat 5) c5) 0 (six c4)
      rw [o0, o1, o2, o3, o4, o5]
      simp [scan, canT, expW]
  · have hs : s = 0 ∨ s = 1 ∨ s = 2 ∨ s = 3 ∨ s = 4 ∨ s = 5 ∨ s = 6 := by omega
    rcases hs with rfl | rfl | rfl | rfl | rfl | rfl | rfl
    · have o0 : okI 0 (Int32.ofNat 0) (Int32.ofNat 6) c0 = vld c0 := (if_neg (by decide)).trans (if_neg (by decide))
      have o1 : okI 1 (Int32.ofNat 0) (Int32.ofNat 6) c1 = vld c1 := (if_neg (by decide)).trans (if_neg (by decide))
      have o2 : okI 2 (Int32.ofNat 0) (Int32.ofNat 6) c2 = vld c2 := (if_neg (by decide)).trans (if_neg (by decide))
      have o3 : okI 3 (Int32.ofNat 0) (Int32.ofNat 6) c3 = vld c3 := (if_neg (by decide)).trans (if_neg (by decide))
      have o4 : okI 4 (Int32.ofNat 0) (Int32.ofNat 6) c4 = vld c4 := (if_neg (by decide)).trans (if_neg (by decide))
      have o5 : okI 5 (Int32.ofNat 0) (Int32.ofNat 6) c5 = vld c5 := (if_neg (by decide)).trans (if_neg (by decide))
      show canT 6 (scan [c0, c1, c2, c3, c4, c5] 0) = expW (okI 0 (Int32.ofNat 0) (Int32.ofNat 6) c0) (okI 1 (Int32.ofNat 0) (Int32.ofNat 6) c1) (okI 2 (Int32.ofNat 0) (Int32.ofNat 6) c2) (okI 3 (Int32.ofNat 0) (Int32.ofNat 6) c3) (okI 4 (Int32.ofNat 0) (Int32.ofNat 6) c4) (okI 5 (Int32.ofNat 0) (Int32.ofNat 6) c5) 6 (six c5)
      rw [o0, o1, o2, o3, o4, o5]
      by_cases k0 : val c0 < 0
      · simp [scan, canT, expW, V0, k0]
      by_cases k1 : val c1 < 0
      · simp [scan, canT, expW, V0, k0, V1, k1]
      by_cases k2 : val c2 < 0
      · simp [scan, canT, expW, V0, k0, V1, k1, V2, k2]
      by_cases k3 : val c3 < 0
      · simp [scan, canT, expW, V0, k0, V1, k1, V2, k2, V3, k3]
      by_cases k4 : val c4 < 0
      · simp [scan, canT, expW, V0, k0, V1, k1, V2, k2, V3, k3, V4, k4]
      by_cases k5 : val c5 < 0
      · simp [scan, canT, expW, V0, k0, V1, k1, V2, k2, V3, k3, V4, k4, V5, k5]
      simp [scan, canT, expW, V0, k0, V1, k1, V2, k2, V3, k3, V4, k4, V5, k5, S5 k5]
    · have o0 : okI 0 (Int32.ofNat 1) (Int32.ofNat 6) c0 = 1 := if_pos (by decide)
      have o1 : okI 1 (Int32.ofNat 1) (Int32.ofNat 6) c1 = vld c1 := (if_neg (by decide)).trans (if_neg (by decide))
      have o2 : okI 2 (Int32.ofNat 1) (Int32.ofNat 6) c2 = vld c2 := (if_neg (by decide)).trans (if_neg (by decide))
      have o3 : okI 3 (Int32.ofNat 1) (Int32.ofNat 6) c3 = vld c3 := (if_neg (by decide)).trans (if_neg (by decide))
      have o4 : okI 4 (Int32.ofNat 1) (Int32.ofNat 6) c4 = vld c4 := (if_neg (by decide)).trans (if_neg (by decide))
      have o5 : okI 5 (Int32.ofNat 1) (Int32.ofNat 6) c5 = vld c5 := (if_neg (by decide)).trans (if_neg (by decide))
      show canT 5 (scan [c1, c2, c3, c4, c5] 0) = expW (okI 0 (Int32.ofNat 1) (Int32.ofNat 6) c0) (okI 1 (Int32.ofNat 1) (Int32.ofNat 6) c1) (okI 2 (Int32.ofNat 1) (Int32.ofNat 6) c2) (okI 3 (Int32.ofNat 1) (Int32.ofNat 6) c3) (okI 4 (Int32.ofNat 1) (Int32.ofNat 6) c4) (okI 5 (Int32.ofNat 1) (Int32.ofNat 6) c5) 5 (six c5)
      rw [o0, o1, o2, o3, o4, o5]
      by_cases k1 : val c1 < 0
      · simp [scan, canT, expW, V1, k1]
      by_cases k2 : val c2 < 0
      · simp [scan, canT, expW, V1, k1, V2, k2]
      by_cases k3 : val c3 < 0
      · simp [scan, canT, expW, V1, k1, V2, k2, V3, k3]
      by_cases k4 : val c4 < 0
      · simp [scan, canT, expW, V1, k1, V2, k2, V3, k3, V4, k4]
      by_cases k5 : val c5 < 0
      · simp [scan, canT, expW, V1, k1, V2, k2, V3, k3, V4, k4, V5, k5]
      simp [scan, canT, expW, V1, k1, V2, k2, V3, k3, V4, k4, V5, k5, S5 k5]
    · have o0 : okI 0 (Int32.ofNat 2) (Int32.ofNat 6) c0 = 1 := if_pos (by decide)
      have o1 : okI 1 (Int32.ofNat 2) (Int32.ofNat 6) c1 = 1 := if_pos (by decide)
      have o2 : okI 2 (Int32.ofNat 2) (Int32.ofNat 6) c2 = vld c2 := (if_neg (by decide)).trans (if_neg (by decide))
      have o3 : okI 3 (Int32.ofNat 2) (Int32.ofNat 6) c3 = vld c3 := (if_neg (by decide)).trans (if_neg (by decide))
      have o4 : okI 4 (Int32.ofNat 2) (Int32.ofNat 6) c4 = vld c4 := (if_neg (by decide)).trans (if_neg (by decide))
      have o5 : okI 5 (Int32.ofNat 2) (Int32.ofNat 6) c5 = vld c5 := (if_neg (by decide)).trans (if_neg (by decide))
      show canT 4 (scan [c2, c3, c4, c5] 0) = expW (okI 0 (Int32.ofNat 2) (Int32.ofNat 6) c0) (okI 1 (Int32.ofNat 2) (Int32.ofNat 6) c1) (okI 2 (Int32.ofNat 2) (Int32.ofNat 6) c2) (okI 3 (Int32.ofNat 2) (Int32.ofNat 6) c3) (okI 4 (Int32.ofNat 2) (Int32.ofNat 6) c4) (okI 5 (Int32.ofNat 2) (Int32.ofNat 6) c5) 4 (six c5)
      rw [o0, o1, o2, o3, o4, o5]
      by_cases k2 : val c2 < 0
      · simp [scan, canT, expW, V2, k2]
      by_cases k3 : val c3 < 0
      · simp [scan, canT, expW, V2, k2, V3, k3]
      by_cases k4 : val c4 < 0
      · simp [scan, canT, expW, V2, k2, V3, k3, V4, k4]
      by_cases k5 : val c5 < 0
      · simp [scan, canT, expW, V2, k2, V3, k3, V4, k4, V5, k5]
      simp [scan, canT, expW, V2, k2, V3, k3, V4, k4, V5, k5, S5 k5]
    · have o0 : okI 0 (Int32.ofNat 3) (Int32.ofNat 6) c0 = 1 := if_pos (by decide)
      have o1 : okI 1 (Int32.ofNat 3) (Int32.ofNat 6) c1 = 1 := if_pos (by decide)
      have o2 : okI 2 (Int32.ofNat 3) (Int32.ofNat 6) c2 = 1 := if_pos (by decide)
      have o3 : okI 3 (Int32.ofNat 3) (Int32.ofNat 6) c3 = vld c3 := (if_neg (by decide)).trans (if_neg (by decide))
      have o4 : okI 4 (Int32.ofNat 3) (Int32.ofNat 6) c4 = vld c4 := (if_neg (by decide)).trans (if_neg (by decide))
      have o5 : okI 5 (Int32.ofNat 3) (Int32.ofNat 6) c5 = vld c5 := (if_neg (by decide)).trans (if_neg (by decide))
      show canT 3 (scan [c3, c4, c5] 0) = expW (okI 0 (Int32.ofNat 3) (Int32.ofNat 6) c0) (okI 1 (Int32.ofNat 3) (Int32.ofNat 6) c1) (okI 2 (Int32.ofNat 3) (Int32.ofNat 6) c2) (okI 3 (Int32.ofNat 3) (Int32.ofNat 6) c3) (okI 4 (Int32.ofNat 3) (Int32.ofNat 6) c4) (okI 5 (Int32.ofNat 3) (Int32.ofNat 6) c5) 3 (six c5)
      rw [o0, o1, o2, o3, o4, o5]
      by_cases k3 : val c3 < 0
      · simp [scan, canT, expW, V3, k3]
      by_cases k4 : val c4 < 0
      · simp [scan, canT, expW, V3, k3, V4, k4]
      by_cases k5 : val c5 < 0
      · simp [scan, canT, expW, V3, k3, V4, k4, V5, k5]
      simp [scan, canT, expW, V3, k3, V4, k4, V5, k5, S5 k5]
    · have o0 : okI 0 (Int32.ofNat 4) (Int32.ofNat 6) c0 = 1 := if_pos (by decide)
      have o1 : okI 1 (Int32.ofNat 4) (Int32.ofNat 6) c1 = 1 := if_pos (by decide)
      have o2 : okI 2 (Int32.ofNat 4) (Int32.ofNat 6) c2 = 1 := if_pos (by decide)
      have o3 : okI 3 (Int32.ofNat 4) (Int32.ofNat 6) c3 = 1 := if_pos (by decide)
      have o4 : okI 4 (Int32.ofNat 4) (Int32.ofNat 6) c4 = vld c4 := (if_neg (by decide)).trans (if_neg (by decide))
      have o5 : okI 5 (Int32.ofNat 4) (Int32.ofNat 6) c5 = vld c5 := (if_neg (by decide)).trans (if_neg (by decide))
      show canT 2 (scan [c4, c5] 0) = expW (okI 0 (Int32.ofNat 4) (Int32.ofNat 6) c0) (okI 1 (Int32.ofNat 4) (Int32.ofNat 6) c1) (okI 2 (Int32.ofNat 4) (Int32.ofNat 6) c2) (okI 3 (Int32.ofNat 4) (Int32.ofNat 6) c3) (okI 4 (Int32.ofNat 4) (Int32.ofNat 6) c4) (okI 5 (Int32.ofNat 4) (Int32.ofNat 6) c5) 2 (six c5)
      rw [o0, o1, o2, o3, o4, o5]
      by_cases k4 : val c4 < 0
      · simp [scan, canT, expW, V4, k4]
      by_cases k5 : val c5 < 0
      · simp [scan, canT, expW, V4, k4, V5, k5]
      simp [scan, canT, expW, V4, k4, V5, k5, S5 k5]
    · have o0 : okI 0 (Int32.ofNat 5) (Int32.ofNat 6) c0 = 1 := if_pos (by decide)
      have o1 : okI 1 (Int32.ofNat 5) (Int32.ofNat 6) c1 = 1 := if_pos (by decide)
      have o2 : okI 2 (Int32.ofNat 5) (Int32.ofNat 6) c2 = 1 := if_pos (by decide)
      have o3 : okI 3 (Int32.ofNat 5) (Int32.ofNat 6) c3 = 1 := if_pos (by decide)
      have o4 : okI 4 (Int32.ofNat 5) (Int32.ofNat 6) c4 = 1 := if_pos (by decide)
      have o5 : okI 5 (Int32.ofNat 5) (Int32.ofNat 6) c5 = vld c5 := (if_neg (by decide)).trans (if_neg (by decide))
      show canT 1 (scan [c5] 0) = expW (okI 0 (Int32.ofNat 5) (Int32.ofNat 6) c0) (okI 1 (Int32.ofNat 5) (Int32.ofNat 6) c1) (okI 2 (Int32.ofNat 5) (Int32.ofNat 6) c2) (okI 3 (Int32.ofNat 5) (Int32.ofNat 6) c3) (okI 4 (Int32.ofNat 5) (Int32.ofNat 6) c4) (okI 5 (Int32.ofNat 5) (Int32.ofNat 6) c5) 1 (six c5)
      rw [o0, o1, o2, o3, o4, o5]
      by_cases k5 : val c5 < 0
      · simp [scan, canT, expW, V5, k5]
      simp [scan, canT, expW, V5, k5, S5 k5]
    · have o0 : okI 0 (Int32.ofNat 6) (Int32.ofNat 6) c0 = 1 := if_pos (by decide)
      have o1 : okI 1 (Int32.ofNat 6) (Int32.ofNat 6) c1 = 1 := if_pos (by decide)
      have o2 : okI 2 (Int32.ofNat 6) (Int32.ofNat 6) c2 = 1 := if_pos (by decide)
      have o3 : okI 3 (Int32.ofNat 6) (Int32.ofNat 6) c3 = 1 := if_pos (by decide)
      have o4 : okI 4 (Int32.ofNat 6) (Int32.ofNat 6) c4 = 1 := if_pos (by decide)
      have o5 : okI 5 (Int32.ofNat 6) (Int32.ofNat 6) c5 = 1 := if_pos (by decide)
      show canT 0 (scan [] 0) = expW (okI 0 (Int32.ofNat 6) (Int32.ofNat 6) c0) (okI 1 (Int32.ofNat 6) (Int32.ofNat 6) c1) (okI 2 (Int32.ofNat 6) (Int32.ofNat 6) c2) (okI 3 (Int32.ofNat 6) (Int32.ofNat 6) c3) (okI 4 (Int32.ofNat 6) (Int32.ofNat 6) c4) (okI 5 (Int32.ofNat 6) (Int32.ofNat 6) c5) 0 (six c5)
      rw [o0, o1, o2, o3, o4, o5]
      simp [scan, canT, expW]
set_option maxRecDepth 65536 in
set_option maxHeartbeats 80000000 in
theorem own_law (l : Launch) {Z : State} {a0 : Array Value} (hw : Ws a0 Z) (p0 : Int64) (p1 p2 : Int32) (hs : Sets Z) (aT : Addr) (ST : Sta Z Z.heap "com/example/scopegate/scopegate/token/Base64Url" "VALUES" "[B" (.ref aT)) (VT : Wk.Ary Z Z.heap aT .byte tabV) :
    Wk.Con l Z x code maxLocals ret room_1 #[(.long p0), (.int p1), (.int p2)] Z.heap (fun v _ => v = some (.int 1)) := by
  refine Wk.Con.intro (plainFor_of_name pn0) (Wk.Ext.refl _) (fun m => ef11 m p0 p1 p2) ?_
  intro W C
  replace C : Wk.Cx Z W "com/example/scopegate/scopegate/token/Base64UrlIsCanonicalPinLaw" "law" code 9 (some .boolean) := C
  have O0 : Ext Z.heap Z.heap := Wk.Ext.refl _
  refine Wk.bipush (pc' := 2) C at_0 (v := (6 : Int32)) rfl rfl ?_
  refine Wk.newA (pc' := 4) C at_2 (ty := .char) rfl (w0 hw) (by decide) (cap := 6) (by decide) (by decide) (k' := 1) rfl (n' := 6) rfl (by decide) (by decide) rfl rfl ?_
  intro a11 h12 ga11 za11 E12 Va11 O12
  have V13 : Wk.Ary Z h12 a11 .char [(.int (0 : Int32)), (.int (0 : Int32)), (.int (0 : Int32)), (.int (0 : Int32)), (.int (0 : Int32)), (.int (0 : Int32))] := Va11
  refine Wk.astore (pc' := 6) C at_4 rfl (Ls' := #[.val (.long p0), .second, .val (.int p1), .val (.int p2), .val (.ref a11), .unset, .unset, .unset, .unset]) rfl rfl ?_
  refine Wk.aload (pc' := 8) C at_6 rfl rfl rfl ?_
  refine Wk.iconst (pc' := 9) C at_8 (v := (0 : Int32)) rfl rfl ?_
  refine Wk.lloadN (pc' := 10) C at_9 rfl rfl ?_
  refine Wk.ldc2J (pc' := 13) C at_10 (w1 hw) rfl ?_
  obtain ⟨v14, hv14⟩ : ∃ z : Int64, p0 &&& (255 : Int64) = z := ⟨_, rfl⟩
  refine Wk.land (pc' := 14) C at_13 hv14 rfl ?_
  obtain ⟨v15, hv15⟩ : ∃ z : Int32, v14.toInt32 = z := ⟨_, rfl⟩
  refine Wk.l2i (pc' := 15) C at_14 hv15 rfl ?_
  obtain ⟨v16, hv16⟩ : ∃ z : Int32, v15.toUInt32.toUInt16.toUInt32.toInt32 = z := ⟨_, rfl⟩
  refine Wk.i2c (pc' := 16) C at_15 hv16 rfl ?_
  refine Wk.castore (pc' := 17) C at_16 V13 (by decide) (show _ < _ from Nat.le_of_ble_eq_true rfl) (Wk.nar_i2c hv16) (vs' := [(.int v16), (.int (0 : Int32)), (.int (0 : Int32)), (.int (0 : Int32)), (.int (0 : Int32)), (.int (0 : Int32))]) rfl za11 rfl ?_
  intro h17 W17 V17 O17
  refine Wk.aload (pc' := 19) C at_17 rfl rfl rfl ?_
  refine Wk.iconst (pc' := 20) C at_19 (v := (1 : Int32)) rfl rfl ?_
  refine Wk.lloadN (pc' := 21) C at_20 rfl rfl ?_
  refine Wk.bipush (pc' := 23) C at_21 (v := (8 : Int32)) rfl rfl ?_
  obtain ⟨v18, hv18⟩ : ∃ z : Int64, (p0.toUInt64 >>> ((8 : Int32) &&& 0x3f).toInt64.toUInt64).toInt64 = z := ⟨_, rfl⟩
  refine Wk.lushr (pc' := 24) C at_23 hv18 rfl ?_
  refine Wk.ldc2J (pc' := 27) C at_24 (w1 hw) rfl ?_
  obtain ⟨v19, hv19⟩ : ∃ z : Int64, v18 &&& (255 : Int64) = z := ⟨_, rfl⟩
  refine Wk.land (pc' := 28) C at_27 hv19 rfl ?_
  obtain ⟨v20, hv20⟩ : ∃ z : Int32, v19.toInt32 = z := ⟨_, rfl⟩
  refine Wk.l2i (pc' := 29) C at_28 hv20 rfl ?_
  obtain ⟨v21, hv21⟩ : ∃ z : Int32, v20.toUInt32.toUInt16.toUInt32.toInt32 = z := ⟨_, rfl⟩
  refine Wk.i2c (pc' := 30) C at_29 hv21 rfl ?_
  refine Wk.castore (pc' := 31) C at_30 V17 (by decide) (show _ < _ from Nat.le_of_ble_eq_true rfl) (Wk.nar_i2c hv21) (vs' := [(.int v16), (.int v21), (.int (0 : Int32)), (.int (0 : Int32)), (.int (0 : Int32)), (.int (0 : Int32))]) rfl za11 rfl ?_
  intro h22 W22 V22 O22
  refine Wk.aload (pc' := 33) C at_31 rfl rfl rfl ?_
  refine Wk.iconst (pc' := 34) C at_33 (v := (2 : Int32)) rfl rfl ?_
  refine Wk.lloadN (pc' := 35) C at_34 rfl rfl ?_
  refine Wk.bipush (pc' := 37) C at_35 (v := (16 : Int32)) rfl rfl ?_
  obtain ⟨v23, hv23⟩ : ∃ z : Int64, (p0.toUInt64 >>> ((16 : Int32) &&& 0x3f).toInt64.toUInt64).toInt64 = z := ⟨_, rfl⟩
  refine Wk.lushr (pc' := 38) C at_37 hv23 rfl ?_
  refine Wk.ldc2J (pc' := 41) C at_38 (w1 hw) rfl ?_
  obtain ⟨v24, hv24⟩ : ∃ z : Int64, v23 &&& (255 : Int64) = z := ⟨_, rfl⟩
  refine Wk.land (pc' := 42) C at_41 hv24 rfl ?_
  obtain ⟨v25, hv25⟩ : ∃ z : Int32, v24.toInt32 = z := ⟨_, rfl⟩
  refine Wk.l2i (pc' := 43) C at_42 hv25 rfl ?_
  obtain ⟨v26, hv26⟩ : ∃ z : Int32, v25.toUInt32.toUInt16.toUInt32.toInt32 = z := ⟨_, rfl⟩
  refine Wk.i2c (pc' := 44) C at_43 hv26 rfl ?_
  refine Wk.castore (pc' := 45) C at_44 V22 (by decide) (show _ < _ from Nat.le_of_ble_eq_true rfl) (Wk.nar_i2c hv26) (vs' := [(.int v16), (.int v21), (.int v26), (.int (0 : Int32)), (.int (0 : Int32)), (.int (0 : Int32))]) rfl za11 rfl ?_
  intro h27 W27 V27 O27
  refine Wk.aload (pc' := 47) C at_45 rfl rfl rfl ?_
  refine Wk.iconst (pc' := 48) C at_47 (v := (3 : Int32)) rfl rfl ?_
  refine Wk.lloadN (pc' := 49) C at_48 rfl rfl ?_
  refine Wk.bipush (pc' := 51) C at_49 (v := (24 : Int32)) rfl rfl ?_
  obtain ⟨v28, hv28⟩ : ∃ z : Int64, (p0.toUInt64 >>> ((24 : Int32) &&& 0x3f).toInt64.toUInt64).toInt64 = z := ⟨_, rfl⟩
  refine Wk.lushr (pc' := 52) C at_51 hv28 rfl ?_
  refine Wk.ldc2J (pc' := 55) C at_52 (w1 hw) rfl ?_
  obtain ⟨v29, hv29⟩ : ∃ z : Int64, v28 &&& (255 : Int64) = z := ⟨_, rfl⟩
  refine Wk.land (pc' := 56) C at_55 hv29 rfl ?_
  obtain ⟨v30, hv30⟩ : ∃ z : Int32, v29.toInt32 = z := ⟨_, rfl⟩
  refine Wk.l2i (pc' := 57) C at_56 hv30 rfl ?_
  obtain ⟨v31, hv31⟩ : ∃ z : Int32, v30.toUInt32.toUInt16.toUInt32.toInt32 = z := ⟨_, rfl⟩
  refine Wk.i2c (pc' := 58) C at_57 hv31 rfl ?_
  refine Wk.castore (pc' := 59) C at_58 V27 (by decide) (show _ < _ from Nat.le_of_ble_eq_true rfl) (Wk.nar_i2c hv31) (vs' := [(.int v16), (.int v21), (.int v26), (.int v31), (.int (0 : Int32)), (.int (0 : Int32))]) rfl za11 rfl ?_
  intro h32 W32 V32 O32
  refine Wk.aload (pc' := 61) C at_59 rfl rfl rfl ?_
  refine Wk.iconst (pc' := 62) C at_61 (v := (4 : Int32)) rfl rfl ?_
  refine Wk.lloadN (pc' := 63) C at_62 rfl rfl ?_
  refine Wk.bipush (pc' := 65) C at_63 (v := (32 : Int32)) rfl rfl ?_
  obtain ⟨v33, hv33⟩ : ∃ z : Int64, (p0.toUInt64 >>> ((32 : Int32) &&& 0x3f).toInt64.toUInt64).toInt64 = z := ⟨_, rfl⟩
  refine Wk.lushr (pc' := 66) C at_65 hv33 rfl ?_
  refine Wk.ldc2J (pc' := 69) C at_66 (w1 hw) rfl ?_
  obtain ⟨v34, hv34⟩ : ∃ z : Int64, v33 &&& (255 : Int64) = z := ⟨_, rfl⟩
  refine Wk.land (pc' := 70) C at_69 hv34 rfl ?_
  obtain ⟨v35, hv35⟩ : ∃ z : Int32, v34.toInt32 = z := ⟨_, rfl⟩
  refine Wk.l2i (pc' := 71) C at_70 hv35 rfl ?_
  obtain ⟨v36, hv36⟩ : ∃ z : Int32, v35.toUInt32.toUInt16.toUInt32.toInt32 = z := ⟨_, rfl⟩
  refine Wk.i2c (pc' := 72) C at_71 hv36 rfl ?_
  refine Wk.castore (pc' := 73) C at_72 V32 (by decide) (show _ < _ from Nat.le_of_ble_eq_true rfl) (Wk.nar_i2c hv36) (vs' := [(.int v16), (.int v21), (.int v26), (.int v31), (.int v36), (.int (0 : Int32))]) rfl za11 rfl ?_
  intro h37 W37 V37 O37
  refine Wk.aload (pc' := 75) C at_73 rfl rfl rfl ?_
  refine Wk.iconst (pc' := 76) C at_75 (v := (5 : Int32)) rfl rfl ?_
  refine Wk.lloadN (pc' := 77) C at_76 rfl rfl ?_
  refine Wk.bipush (pc' := 79) C at_77 (v := (40 : Int32)) rfl rfl ?_
  obtain ⟨v38, hv38⟩ : ∃ z : Int64, (p0.toUInt64 >>> ((40 : Int32) &&& 0x3f).toInt64.toUInt64).toInt64 = z := ⟨_, rfl⟩
  refine Wk.lushr (pc' := 80) C at_79 hv38 rfl ?_
  refine Wk.ldc2J (pc' := 83) C at_80 (w1 hw) rfl ?_
  obtain ⟨v39, hv39⟩ : ∃ z : Int64, v38 &&& (255 : Int64) = z := ⟨_, rfl⟩
  refine Wk.land (pc' := 84) C at_83 hv39 rfl ?_
  obtain ⟨v40, hv40⟩ : ∃ z : Int32, v39.toInt32 = z := ⟨_, rfl⟩
  refine Wk.l2i (pc' := 85) C at_84 hv40 rfl ?_
  obtain ⟨v41, hv41⟩ : ∃ z : Int32, v40.toUInt32.toUInt16.toUInt32.toInt32 = z := ⟨_, rfl⟩
  refine Wk.i2c (pc' := 86) C at_85 hv41 rfl ?_
  refine Wk.castore (pc' := 87) C at_86 V37 (by decide) (show _ < _ from Nat.le_of_ble_eq_true rfl) (Wk.nar_i2c hv41) (vs' := [(.int v16), (.int v21), (.int v26), (.int v31), (.int v36), (.int v41)]) rfl za11 rfl ?_
  intro h42 W42 V42 O42
  refine Wk.newO (pc' := 90) C at_87 (w2 hw) (w3 hw) (w4 hw) (k' := 2) rfl (n' := 10) rfl (by decide) (by decide) rfl ?_
  intro a43 h44 ga43 za43 E44 Aa43 Da43 Ua43 O44
  have F45 : Fld Z h44 a43 "java/lang/String" "coder" "B" (.int (0 : Int32)) := Da43 (Or.inr (w28 hw)) (ty := .byte) (by decide)
  have F46 : Fld Z h44 a43 "java/lang/String" "value" "[B" .null := Da43 (Or.inr (w30 hw)) (ty := (.array .byte)) (by decide)
  refine Wk.dup (pc' := 91) C at_90 rfl rfl ?_
  refine Wk.aload (pc' := 93) C at_91 rfl rfl rfl ?_
  have hp47 : ∀ c ∈ ([v16, v21, v26, v31, v36, v41] : List Int32), ¬ c < 0 ∧ ¬ (255 : Int32) < c := (List.forall_mem_cons.mpr ⟨(Wk.rng255L hv14 hv15 hv16), (List.forall_mem_cons.mpr ⟨(Wk.rng255L hv19 hv20 hv21), (List.forall_mem_cons.mpr ⟨(Wk.rng255L hv24 hv25 hv26), (List.forall_mem_cons.mpr ⟨(Wk.rng255L hv29 hv30 hv31), (List.forall_mem_cons.mpr ⟨(Wk.rng255L hv34 hv35 hv36), (List.forall_mem_cons.mpr ⟨(Wk.rng255L hv39 hv40 hv41), (fun _ h => nomatch h)⟩)⟩)⟩)⟩)⟩)⟩)
  refine Wk.callI (pc' := 96) C at_93 (a := a43) (strNew C hw hs O44 (cs := [v16, v21, v26, v31, v36, v41]) (n := 6) (Wn := 1) za43 Aa43 F46 F45 (V42.ext E44) rfl (by decide) (by decide) hp47 (by decide) (by decide)) (strNewC (n := 6) O44 za43 rfl (by decide) hp47) rfl (w5 hw) (w6 hw) (w7 hw) (by decide) (argsL := [(.ref a11)]) (st := [(.ref a43)]) rfl rfl (lenOf pd4 rfl) rfl (Nat.le_of_eq rfl) (k' := 3) rfl (n' := 16) rfl (by decide) (by decide) rfl ?_
  intro r48 h49 Q49 O49
  obtain ⟨rfl, Kh49, Sh49⟩ := Q49
  refine Wk.astore (pc' := 98) C at_96 rfl (Ls' := #[.val (.long p0), .second, .val (.int p1), .val (.int p2), .val (.ref a11), .val (.ref a43), .unset, .unset, .unset]) rfl rfl ?_
  refine Wk.iloadN (pc' := 99) C at_98 rfl rfl ?_
  refine Wk.ldcI (pc' := 101) C at_99 (w31 hw) rfl ?_
  obtain ⟨v50, hv50⟩ : ∃ z : Int32, p1 &&& (2147483647 : Int32) = z := ⟨_, rfl⟩
  refine Wk.iand (pc' := 102) C at_101 hv50 rfl ?_
  refine Wk.bipush (pc' := 104) C at_102 (v := (7 : Int32)) rfl rfl ?_
  obtain ⟨v51, hv51⟩ : ∃ z : Int32, v50 % (7 : Int32) = z := ⟨_, rfl⟩
  refine Wk.irem (pc' := 105) C at_104 (by decide) hv51 rfl ?_
  refine Wk.istore (pc' := 107) C at_105 (Ls' := #[.val (.long p0), .second, .val (.int p1), .val (.int p2), .val (.ref a11), .val (.ref a43), .val (.int v51), .unset, .unset]) rfl rfl ?_
  have t0 : 0 ≤ v51.toInt ∧ v51.toInt < 7 := by
    have a := Wk.modr (Wk.mask31 hv50) (by decide) hv51
    have c7 : (7 : Int32).toInt = 7 := by decide
    omega
  refine Wk.iload (pc' := 109) C at_107 rfl rfl ?_
  refine Wk.iloadN (pc' := 110) C at_109 rfl rfl ?_
  refine Wk.ldcI (pc' := 112) C at_110 (w31 hw) rfl ?_
  obtain ⟨v52, hv52⟩ : ∃ z : Int32, p2 &&& (2147483647 : Int32) = z := ⟨_, rfl⟩
  refine Wk.iand (pc' := 113) C at_112 hv52 rfl ?_
  refine Wk.bipush (pc' := 115) C at_113 (v := (7 : Int32)) rfl rfl ?_
  refine Wk.iload (pc' := 117) C at_115 rfl rfl ?_
  obtain ⟨v53, hv53⟩ : ∃ z : Int32, (7 : Int32) - v51 = z := ⟨_, rfl⟩
  refine Wk.isub (pc' := 118) C at_117 hv53 rfl ?_
  have t1 : v53.toInt = 7 - v51.toInt := by
    have a := Wk.subI hv53
    have b := rng32 v53
    have c7 : (7 : Int32).toInt = 7 := by decide
    omega
  have hnz118 : ¬ v53 = 0 := by
    intro q
    rw [q] at t1
    have c0 : (0 : Int32).toInt = 0 := by decide
    omega
  obtain ⟨v54, hv54⟩ : ∃ z : Int32, v52 % v53 = z := ⟨_, rfl⟩
  refine Wk.irem (pc' := 119) C at_118 hnz118 hv54 rfl ?_
  obtain ⟨v55, hv55⟩ : ∃ z : Int32, v51 + v54 = z := ⟨_, rfl⟩
  refine Wk.iadd (pc' := 120) C at_119 hv55 rfl ?_
  refine Wk.istore (pc' := 122) C at_120 (Ls' := #[.val (.long p0), .second, .val (.int p1), .val (.int p2), .val (.ref a11), .val (.ref a43), .val (.int v51), .val (.int v55), .unset]) rfl rfl ?_
  have t2 : 0 ≤ v54.toInt ∧ v54.toInt < v53.toInt := Wk.modr (Wk.mask31 hv52) (by omega) hv54
  have t3 : v55.toInt = v51.toInt + v54.toInt := by
    have a := Wk.addI hv55
    have b := rng32 v55
    omega
  obtain ⟨sN, hsN⟩ : ∃ j, v51.toNatClampNeg = j := ⟨_, rfl⟩
  have zsN : 0 ≤ v51.toInt := by omega
  have fsN : v51 = Int32.ofNat sN := by rw [← hsN]; exact Wk.ofNat zsN
  have ksN : (sN : Int) = v51.toInt := by rw [← hsN]; exact Wk.clamp zsN
  obtain ⟨eN, heN⟩ : ∃ j, v55.toNatClampNeg = j := ⟨_, rfl⟩
  have zeN : 0 ≤ v55.toInt := by omega
  have feN : v55 = Int32.ofNat eN := by rw [← heN]; exact Wk.ofNat zeN
  have keN : (eN : Int) = v55.toInt := by rw [← heN]; exact Wk.clamp zeN
  have hse : sN ≤ eN := by omega
  have he : eN ≤ 6 := by omega
  rw [fsN, feN]
  refine Wk.aload (pc' := 124) C at_122 rfl rfl rfl ?_
  refine Wk.iload (pc' := 126) C at_124 rfl rfl ?_
  refine Wk.iload (pc' := 128) C at_126 rfl rfl ?_
  refine Wk.callS (pc' := 131) C at_128 (Wk.Con.pays C (Wn := 0) (own_canon l hw O49 hs aT a43 [v16, v21, v26, v31, v36, v41] sN eN ST VT Sh49 rfl hse he) (w35 hw) (w34 hw) (by decide) (by decide)) Wk.cleanC (w32 hw) (w33 hw) (w34 hw) (w35 hw) (by decide) (argsL := [(.ref a43), (.int (Int32.ofNat sN)), (.int (Int32.ofNat eN))]) (st := []) rfl rfl (lenOf pd5 rfl) rfl (Nat.le_of_eq rfl) (k' := 3) rfl (n' := 16) rfl (by decide) (by decide) rfl ?_
  intro r56 h57 Q57 O57
  obtain ⟨rfl, e58⟩ := Q57
  obtain rfl := e58.symm
  refine Wk.istore (pc' := 133) C at_131 (Ls' := #[.val (.long p0), .second, .val (.int p1), .val (.int p2), .val (.ref a11), .val (.ref a43), .val (.int (Int32.ofNat sN)), .val (.int (Int32.ofNat eN)), .val (.int (canV [v16, v21, v26, v31, v36, v41] sN eN))]) rfl rfl ?_
  refine Wk.iload (pc' := 135) C at_133 rfl rfl ?_
  refine Wk.aload (pc' := 137) C at_135 rfl rfl rfl ?_
  refine Wk.iload (pc' := 139) C at_137 rfl rfl ?_
  refine Wk.iload (pc' := 141) C at_139 rfl rfl ?_
  have X59 : Ext h42 h49 := Wk.Ext.keep1 (Z := Z) E44 Kh49 (Nat.le_of_eq ga43.symm)
  refine Wk.callS (pc' := 144) C at_141 (Wk.Con.pays C (Wn := 1) (own_expected l hw O49 a11 [v16, v21, v26, v31, v36, v41] sN eN (V42.ext X59) rfl hse he) (w66 hw) (w65 hw) (by decide) (by decide)) Wk.cleanC (w63 hw) (w64 hw) (w65 hw) (w66 hw) (by decide) (argsL := [(.ref a11), (.int (Int32.ofNat sN)), (.int (Int32.ofNat eN))]) (st := [(.int (canV [v16, v21, v26, v31, v36, v41] sN eN))]) rfl rfl (lenOf pd6 rfl) rfl (Nat.le_of_eq rfl) (k' := 3) rfl (n' := 16) rfl (by decide) (by decide) rfl ?_
  intro r60 h61 Q61 O61
  obtain ⟨rfl, e62⟩ := Q61
  obtain rfl := e62.symm
  have hEq : (canV [v16, v21, v26, v31, v36, v41] sN eN) = (expV [v16, v21, v26, v31, v36, v41] sN eN) := own_same v16 v21 v26 v31 v36 v41 (Wk.rng255L hv14 hv15 hv16) (Wk.rng255L hv19 hv20 hv21) (Wk.rng255L hv24 hv25 hv26) (Wk.rng255L hv29 hv30 hv31) (Wk.rng255L hv34 hv35 hv36) (Wk.rng255L hv39 hv40 hv41) hse he
  refine Wk.icmp_ne C at_144 (by decide) (pcT := 151) (by decide) (pc' := 147) rfl (fun q => absurd hEq q) (fun q63 => ?_)
  refine Wk.iconst (pc' := 148) C at_147 (v := (1 : Int32)) rfl rfl ?_
  refine Wk.goto C at_148 (by decide) (pc' := 152) (by decide) ?_
  exact Wk.retNar (ty := .boolean) C (by simp) at_152 rfl (by decide) (by decide) rfl
theorem own_le : ∀ i, i < 128 → i.toInt32.toNatClampNeg = i ∧ (((45 : Int32) ≤ i.toInt32 → 45 ≤ i) ∧ ((58 : Int32) ≤ i.toInt32 → 58 ≤ i) ∧ ((65 : Int32) ≤ i.toInt32 → 65 ≤ i) ∧ ((91 : Int32) ≤ i.toInt32 → 91 ≤ i) ∧ ((95 : Int32) ≤ i.toInt32 → 95 ≤ i) ∧ ((123 : Int32) ≤ i.toInt32 → 123 ≤ i)) := by decide +kernel
theorem own_lt128 : ∀ i, i < 128 → ((i.toInt32 < (48 : Int32) → i < 48) ∧ (i.toInt32 < (58 : Int32) → i < 58) ∧ (i.toInt32 < (65 : Int32) → i < 65) ∧ (i.toInt32 < (91 : Int32) → i < 91) ∧ (i.toInt32 < (97 : Int32) → i < 97) ∧ (i.toInt32 < (123 : Int32) → i < 123)) := by decide +kernel
theorem own_sb : ∀ i, i < 128 → (65 ≤ i → i.toInt32 - 65 = Int32.ofNat (i - 65)) ∧ (97 ≤ i → i.toInt32 - 71 = Int32.ofNat (i - 71)) ∧ i.toInt32.toInt64 + 4 = (Int32.ofNat (i + 4)).toInt64 := by decide +kernel
theorem own_fits : ∀ i, i < 128 → fits .byte (.int (b64n i)) = true := by decide +kernel
theorem Wk.elemL {args : Array Value} {s : State} {t : Term} {a : Addr} {cl : Cell} {ty : FieldType} {i : Nat} {v : Int32} {m : Int64} (ht : t.eval args s none [i] s = some (.ref a)) (A : Arr s s.heap a cl ty) (hv : i.toInt32.toInt64 + m = v.toInt64) (hi : i.toInt32.toNatClampNeg = i) (h : (Jvm.Cond.eq (.op1 .i2l (.elem t (.index 0))) (.op2 .ladd (.op1 .i2l (.index 0)) (.long m))).value args s none s [i] = some true) : cl.slots[i]? = some (.int v) := by
  have e2 : (Term.op2 .ladd (.op1 .i2l (.index 0)) (.long m)).eval args s none [i] s = some (.long (i.toInt32.toInt64 + m)) := rfl
  obtain ⟨x', y', e3, e4, -, kin⟩ := cmp_v (Or.inl h)
  cases e0 : (Term.elem t (.index 0)).eval args s none [i] s with
  | none =>
    rw [show (Term.op1 .i2l (.elem t (.index 0))).eval args s none [i] s = ((Term.elem t (.index 0)).eval args s none [i] s).bind (Unary.apply .i2l) from rfl, e0] at e3
    cases e3
  | some x =>
    have e1 := op1_f (f := .i2l) e0
    rw [e1] at e3
    have : ∃ z, x = .int z := by cases x <;> simp [Unary.apply] at e3 ⊢
    obtain ⟨z, rfl⟩ := this
    have e5 : (Term.op1 .i2l (.elem t (.index 0))).eval args s none [i] s = some (.long z.toInt64) := e1
    have e6 := gotT (eq_L e5 e2) h
    have e7 : z = v := by
      have q := congrArg Int64.toInt (e6.trans hv)
      rw [Int32.toInt_toInt64, Int32.toInt_toInt64] at q
      exact Wk.eqI q
    subst e7
    have q := (elem_in e0 ht (show (Term.index 0).eval args s none [i] s = some (.int i.toInt32) from rfl) A.1).2
    rwa [hi] at q
set_option maxRecDepth 65536 in
set_option maxHeartbeats 40000000 in
theorem comes_1 {Post : Tables → Env → Array Value → State → Outcome → State → Prop} (hpost : ∀ tb e args s v u, (limb_1_1.after args s (.returned v) u = true ∧ limb_1_2.after args s (.returned v) u = true ∧ True) → FrameEnd s (.returned v) u (Jvm.fieldLocs frame_1_writes args s ++ Jvm.arrayLocs frame_1_arrays args s ++ Jvm.staticLocs frame_1_statics s) 16 128 → Post tb e args s (.returned v) u) :
    ArmFor flags0 classFile x code maxLocals ret World_1 tables_1 room_1 Calls_1 rest_1 Pre_1 Post := by
  intro l hfl _ _ p e ha hc hk s m args below hf hA hF happ hP
  obtain ⟨hcalls, hrest, hpre⟩ := hP
  obtain ⟨-, -, -, hnamed, -, -, -, hat⟩ := (Spec.applies_iff hf).mp happ
  obtain ⟨hg, hn⟩ := and_e (Cond.before_iff.mp (show (Jvm.Cond.and given_1 narrow_1).before args s = true from hpre))
  obtain ⟨gc0, gr0⟩ := and_e hg
  obtain ⟨gc1, gr1⟩ := and_e gr0
  obtain ⟨gc2, gr2⟩ := and_e gr1
  obtain ⟨w0, w1, w2, rfl⟩ : ∃ w0 w1 w2 : Value, args = #[w0, w1, w2] := by
    have hs : args.size = 3 := by simpa [Cond.value, given_1] using gc0
    obtain ⟨L⟩ := args
    match L, hs with
    | [w0, w1, w2], _ => exact ⟨w0, w1, w2, rfl⟩
  have hw : Ws _ s := fun d (hd : d ∈ tables_1) => atoms_spec (ws := Jvm.Cond.code x code maxLocals ret :: tables_1) hat d (List.mem_cons_of_mem _ hd)
  have hfit : Fit s := fun {y c} hc i hi => by
    obtain ⟨ha, rfl⟩ := Array.getElem?_eq_some_iff.mp hc
    have q := List.all_eq_true.mp ((Array.all_eq_true_iff_forall_mem.mp hF) _ (Array.getElem_mem ha)) i (List.mem_range.mpr hi)
    simpa [Array.getElem?_eq_getElem hi] using q
  obtain ⟨i0, ei0⟩ := isL_v gc1
  obtain rfl : w0 = (.long i0) := Option.some.inj ei0
  obtain ⟨i1, ei1⟩ := is_v gc2
  obtain rfl : w1 = (.int i1) := Option.some.inj ei1
  obtain ⟨i2, ei2⟩ := is_v gr2
  obtain rfl : w2 = (.int i2) := Option.some.inj ei2
  obtain ⟨hsets, hown0⟩ := atoms_of _ (rest_1_c_eq ▸ (show rest_1_c.before _ s = true from hrest))
  have hS : Sets s := by
    have n5 := not_v (Cond.before_iff.mp (hsets _ (List.mem_of_getElem? (i := 2) rfl)))
    obtain ⟨zc, ez⟩ := is_v (Cond.before_iff.mp (hsets _ (List.mem_of_getElem? (i := 1) rfl)))
    obtain ⟨fm, ef, rf⟩ := isR_v (Cond.before_iff.mp (hsets _ (List.mem_of_getElem? (i := 8) rfl)))
    exact ⟨zc, fm, Sta.start ez (Or.inl (hsets _ (List.mem_of_getElem? (i := 0) rfl))), gotF (Cond.eq_ints ez (Term.int_eval (0))) n5, Sta.start ef (Or.inl (hsets _ (List.mem_of_getElem? (i := 7) rfl))), rf⟩
  obtain ⟨nw0, nr0⟩ := and_e hn
  obtain ⟨nw1, nr1⟩ := and_e nr0
  obtain ⟨nw2, nr2⟩ := and_e nr1
  obtain ⟨nw3, nr3⟩ := and_e nr2
  obtain ⟨nw4, nr4⟩ := and_e nr3
  obtain ⟨nw5, nr5⟩ := and_e nr4
  obtain ⟨nw6, nr6⟩ := and_e nr5
  obtain ⟨nw7, nr7⟩ := and_e nr6
  obtain ⟨nw8, nr8⟩ := and_e nr7
  obtain ⟨nw9, nr9⟩ := and_e nr8
  obtain ⟨nw10, nr10⟩ := and_e nr9
  obtain ⟨nw11, nr11⟩ := and_e nr10
  obtain ⟨nw12, nr12⟩ := and_e nr11
  obtain ⟨aT, eT⟩ := arr_v nw0
  obtain ⟨cT, AT⟩ := Arr.start eT nw0
  have ST := Sta.start eT (Or.inr ⟨(w34 hw), (w62 hw)⟩)
  have hn := Wk.lenS eT AT nw1
  have hsz : cT.slots.size = 128 := (Int32.toNatClampNeg_ofNat_of_lt hn.1).symm.trans (congrArg Int32.toNatClampNeg hn.2)
  have x45 := Wk.elemS eT AT nw3
  have x46 := Wk.elemS eT AT nw4
  have x47 := Wk.elemS eT AT nw5
  have x95 := Wk.elemS eT AT nw10
  have x96 := Wk.elemS eT AT nw11
  have D0 : ∀ i, i < 128 → i < 45 → cT.slots[i]? = some (.int (-1)) := by
    intro i hi hb
    have q := Cond.all_elim eT (AT.fin (Vm.Alike.refl _)) nw2 i (by omega)
    replace q := (Wk.orE q).resolve_left (fun z => absurd ((own_le i hi).2.1 (gotT (Cond.le_ints (Term.int_eval _) (show (Term.index 0).eval _ s none [i] s = some (.int i.toInt32) from rfl)) z)) (by omega))
    exact Wk.elemI eT AT (Term.int_eval _) (own_le i hi).1 q
  have D48 : ∀ i, i < 128 → 48 ≤ i → i < 58 → cT.slots[i]? = some (.int (Int32.ofNat (i + 4))) := by
    intro i hi ha hb
    have q := Cond.all_elim eT (AT.fin (Vm.Alike.refl _)) nw6 i (by omega)
    replace q := (Wk.orE q).resolve_left (fun z => absurd ((own_lt128 i hi).1 (gotT (Cond.lt_ints (show (Term.index 0).eval _ s none [i] s = some (.int i.toInt32) from rfl) (Term.int_eval _)) z)) (by omega))
    replace q := (Wk.orE q).resolve_left (fun z => absurd ((own_le i hi).2.2.1 (gotT (Cond.le_ints (Term.int_eval _) (show (Term.index 0).eval _ s none [i] s = some (.int i.toInt32) from rfl)) z)) (by omega))
    exact Wk.elemL eT AT ((own_sb i hi).2.2) (own_le i hi).1 q
  have D58 : ∀ i, i < 128 → 58 ≤ i → i < 65 → cT.slots[i]? = some (.int (-1)) := by
    intro i hi ha hb
    have q := Cond.all_elim eT (AT.fin (Vm.Alike.refl _)) nw7 i (by omega)
    replace q := (Wk.orE q).resolve_left (fun z => absurd ((own_lt128 i hi).2.1 (gotT (Cond.lt_ints (show (Term.index 0).eval _ s none [i] s = some (.int i.toInt32) from rfl) (Term.int_eval _)) z)) (by omega))
    replace q := (Wk.orE q).resolve_left (fun z => absurd ((own_le i hi).2.2.2.1 (gotT (Cond.le_ints (Term.int_eval _) (show (Term.index 0).eval _ s none [i] s = some (.int i.toInt32) from rfl)) z)) (by omega))
    exact Wk.elemI eT AT (Term.int_eval _) (own_le i hi).1 q
  have D65 : ∀ i, i < 128 → 65 ≤ i → i < 91 → cT.slots[i]? = some (.int (Int32.ofNat (i - 65))) := by
    intro i hi ha hb
    have q := Cond.all_elim eT (AT.fin (Vm.Alike.refl _)) nw8 i (by omega)
    replace q := (Wk.orE q).resolve_left (fun z => absurd ((own_lt128 i hi).2.2.1 (gotT (Cond.lt_ints (show (Term.index 0).eval _ s none [i] s = some (.int i.toInt32) from rfl) (Term.int_eval _)) z)) (by omega))
    replace q := (Wk.orE q).resolve_left (fun z => absurd ((own_le i hi).2.2.2.2.1 (gotT (Cond.le_ints (Term.int_eval _) (show (Term.index 0).eval _ s none [i] s = some (.int i.toInt32) from rfl)) z)) (by omega))
    rw [← (own_sb i hi).1 (by omega)]
    exact Wk.elemI eT AT rfl (own_le i hi).1 q
  have D91 : ∀ i, i < 128 → 91 ≤ i → i < 95 → cT.slots[i]? = some (.int (-1)) := by
    intro i hi ha hb
    have q := Cond.all_elim eT (AT.fin (Vm.Alike.refl _)) nw9 i (by omega)
    replace q := (Wk.orE q).resolve_left (fun z => absurd ((own_lt128 i hi).2.2.2.1 (gotT (Cond.lt_ints (show (Term.index 0).eval _ s none [i] s = some (.int i.toInt32) from rfl) (Term.int_eval _)) z)) (by omega))
    replace q := (Wk.orE q).resolve_left (fun z => absurd ((own_le i hi).2.2.2.2.2.1 (gotT (Cond.le_ints (Term.int_eval _) (show (Term.index 0).eval _ s none [i] s = some (.int i.toInt32) from rfl)) z)) (by omega))
    exact Wk.elemI eT AT (Term.int_eval _) (own_le i hi).1 q
  have D97 : ∀ i, i < 128 → 97 ≤ i → i < 123 → cT.slots[i]? = some (.int (Int32.ofNat (i - 71))) := by
    intro i hi ha hb
    have q := Cond.all_elim eT (AT.fin (Vm.Alike.refl _)) nw12 i (by omega)
    replace q := (Wk.orE q).resolve_left (fun z => absurd ((own_lt128 i hi).2.2.2.2.1 (gotT (Cond.lt_ints (show (Term.index 0).eval _ s none [i] s = some (.int i.toInt32) from rfl) (Term.int_eval _)) z)) (by omega))
    replace q := (Wk.orE q).resolve_left (fun z => absurd ((own_le i hi).2.2.2.2.2.2 (gotT (Cond.le_ints (Term.int_eval _) (show (Term.index 0).eval _ s none [i] s = some (.int i.toInt32) from rfl)) z)) (by omega))
    rw [← (own_sb i hi).2.1 (by omega)]
    exact Wk.elemI eT AT rfl (own_le i hi).1 q
  have D123 : ∀ i, i < 128 → 123 ≤ i → cT.slots[i]? = some (.int (-1)) := by
    intro i hi ha
    have q := Cond.all_elim eT (AT.fin (Vm.Alike.refl _)) nr12 i (by omega)
    replace q := (Wk.orE q).resolve_left (fun z => absurd ((own_lt128 i hi).2.2.2.2.2 (gotT (Cond.lt_ints (show (Term.index 0).eval _ s none [i] s = some (.int i.toInt32) from rfl) (Term.int_eval _)) z)) (by omega))
    exact Wk.elemI eT AT (Term.int_eval _) (own_le i hi).1 q
  have HT : ∀ i, i < 128 → cT.slots[i]? = some (.int (b64n i)) := by
    intro i hi
    unfold b64n
    by_cases k0 : i < 45
    · rw [if_pos k0]
      exact D0 i hi (by omega)
    rw [if_neg k0]
    by_cases k1 : i = 45
    · rw [if_pos k1]
      subst k1
      exact x45
    rw [if_neg k1]
    by_cases k2 : i < 48
    · rw [if_pos k2]
      have z : i = 46 ∨ i = 47 := by omega
      rcases z with rfl | rfl
      · exact x46
      · exact x47
    rw [if_neg k2]
    by_cases k3 : i < 58
    · rw [if_pos k3]
      exact D48 i hi (by omega) (by omega)
    rw [if_neg k3]
    by_cases k4 : i < 65
    · rw [if_pos k4]
      exact D58 i hi (by omega) (by omega)
    rw [if_neg k4]
    by_cases k5 : i < 91
    · rw [if_pos k5]
      exact D65 i hi (by omega) (by omega)
    rw [if_neg k5]
    by_cases k6 : i < 95
    · rw [if_pos k6]
      exact D91 i hi (by omega) (by omega)
    rw [if_neg k6]
    by_cases k7 : i = 95
    · rw [if_pos k7]
      subst k7
      exact x95
    rw [if_neg k7]
    by_cases k8 : i = 96
    · rw [if_pos k8]
      subst k8
      exact x96
    rw [if_neg k8]
    by_cases k9 : i < 123
    · rw [if_pos k9]
      exact D97 i hi (by omega) (by omega)
    rw [if_neg k9]
    exact D123 i hi (by omega)
  have VT : Wk.Ary s s.heap aT .byte tabV := Wk.aryT AT hn (by decide) HT own_fits
  obtain ⟨n, o, h1, h2, h3, _, L, rfl, ⟨rfl, -, N⟩, hq⟩ := own_law l hw i0 i1 i2 hS aT ST VT tables_1 p e ha hc hk s m _ below hf ((Spec.applies_iff_loose hf).mp happ).1 ⟨rfl, State.Warmed39.refl s, rfl⟩ trivial
  refine ⟨n, _, h1, h2, h3, hpost _ _ _ _ _ _ ⟨Cond.after_iff.mpr rfl, Cond.after_iff.mpr (eq_i res_at (Term.int_eval (1)) rfl), trivial⟩ ⟨hq.1, hq.2.1, (hq.2.2.sift fun y hy => Or.inr (N y hy)).mono (by decide) (by decide)⟩⟩
theorem main_1_1 : Claimed_1_1 := comes_1 fun _ _ _ _ _ _ h hF => ⟨h.1, hF⟩
theorem main_1_2 : Claimed_1_2 := comes_1 fun _ _ _ _ _ _ h hF => ⟨h.2.1, hF⟩
end Jvm.Pilot.@@N@@
namespace Jvm.Pilot.@@N@@
open Jvm Jvm.ClassFile Sem Op Lib Jvm.Free Jvm.Stand Jvm.Pilot.@@N@@.Jvm.D
/-! MADE BY PROGRAM (witnessworld.py) out of the Statement's table words and the real class files: 20 classes; the members and pool entries that the words name. The judged class is class 1, her method 1. -/
namespace start1
open Jvm.ClassFile
def u (s : String) : CpInfo := .utf8 (stringToUtf16 s)
/-- a pool by its gaps: so many unusable entries, then the entry; so many at the end -/
def gap : Nat → List CpInfo → List CpInfo
  | 0, r => r
  | n + 1, r => .unusable :: gap n r
def poolList (es : List (Nat × CpInfo)) (last : Nat) : List CpInfo := es.foldr (fun e r => gap e.1 (e.2 :: r)) (gap last [])
def pool (es : List (Nat × CpInfo)) (last : Nat) : Array CpInfo := ⟨poolList es last⟩
def fileOf (pool : Array CpInfo) (this : Nat) (attrs : Array Attribute := #[]) (ms : Array MethodInfo := #[]) (fl : Nat := 33) (sup : Nat := 0) (ifs : Array Nat := #[]) (fds : Array FieldInfo := #[]) : ClassFile where
  minorVersion := 0
  majorVersion := 65
  constantPool := pool
  accessFlags := fl
  thisClass := this
  superClass := sup
  interfaces := ifs
  fields := fds
  methods := ms
  attributes := attrs
def plain (name : String) (sup : Option ClassId) : Class where
  name := name
  kind := .ordinary
  loader := none
  accessFlags := 33
  super := sup
  interfaces := #[]
  cf := none
  fields := #[]
  methods := #[]
  instanceTypes := #[]
  staticTypes := #[]
  resolved := #[]
  callSites := []
  init := .initialized
  statics := none
  mirror := none

def pool0 : Array CpInfo := pool [(5, u "<init>"), (0, u "()V"), (1, .class_ 10), (1, u "java/lang/Object")] 113

def k0c0 : Code := { maxStack := 0, maxLocals := 1, code := object_method_1_code, exceptionTable := #[], attributes := #[] }
def k0m0 : Method := { name := "<init>", desc := "()V", sig := { parameters := [], returnType := none }, accessFlags := 1, code := some k0c0 }
/-- java/lang/Object -/
def k0 : Class := { plain "java/lang/Object" none with
  accessFlags := 33
  interfaces := #[]
  cf := some (fileOf pool0 8 #[] #[{ accessFlags := 1, nameIndex := 5, descriptorIndex := 6, attributes := #[] }] 33 0 #[] #[])
  fields := #[]
  methods := #[k0m0]
  instanceTypes := #[]
  staticTypes := #[]
  resolved := Array.replicate 124 none
  statics := none }

def pool1 : Array CpInfo := pool [(2, .class_ 4), (1, u "java/lang/Object"), (0, u "<init>"), (0, u "()V"), (0, .long 255), (1, .class_ 10), (0, u "java/lang/String"), (0, .methodref 9 12), (0, .nameAndType 5 13), (0, u "([C)V"), (0, .integer 2147483647), (0, .methodref 16 17), (0, .class_ 18), (0, .nameAndType 19 20), (0, u "com/example/scopegate/scopegate/token/Base64Url"), (0, u "isCanonical"), (0, u "(Ljava/lang/String;II)Z"), (0, .methodref 22 23), (0, .class_ 24), (0, .nameAndType 25 26), (0, u "com/example/scopegate/scopegate/token/Base64UrlIsCanonicalPinLaw"), (0, u "expected"), (0, u "([CII)Z"), (0, .methodref 22 28), (0, .nameAndType 29 30), (0, u "valid"), (0, u "(C)Z"), (0, .methodref 22 32), (0, .nameAndType 33 34), (0, u "okAt"), (0, u "([CIII)Z"), (0, .methodref 22 36), (0, .nameAndType 37 38), (0, u "sixBits"), (0, u "(C)I"), (2, u "law"), (0, u "(JII)Z")] 5

def k1m0 : Method := { name := "<init>", desc := "()V", sig := { parameters := [], returnType := none }, accessFlags := 2, code := none }
def k1c1 : Code := { maxStack := 6, maxLocals := 9, code := code, exceptionTable := #[], attributes := #[] }
def k1m1 : Method := { name := "law", desc := "(JII)Z", sig := { parameters := [.long, .int, .int], returnType := some .boolean }, accessFlags := 9, code := some k1c1 }
def k1c2 : Code := { maxStack := 2, maxLocals := 1, code := method_3_code, exceptionTable := #[], attributes := #[] }
def k1m2 : Method := { name := "valid", desc := "(C)Z", sig := { parameters := [.char], returnType := some .boolean }, accessFlags := 10, code := some k1c2 }
def k1c3 : Code := { maxStack := 2, maxLocals := 1, code := method_4_code, exceptionTable := #[], attributes := #[] }
def k1m3 : Method := { name := "sixBits", desc := "(C)I", sig := { parameters := [.char], returnType := some .int }, accessFlags := 10, code := some k1c3 }
def k1c4 : Code := { maxStack := 2, maxLocals := 4, code := method_5_code, exceptionTable := #[], attributes := #[] }
def k1m4 : Method := { name := "okAt", desc := "([CIII)Z", sig := { parameters := [(.array .char), .int, .int, .int], returnType := some .boolean }, accessFlags := 10, code := some k1c4 }
def k1c5 : Code := { maxStack := 4, maxLocals := 7, code := method_6_code, exceptionTable := #[], attributes := #[] }
def k1m5 : Method := { name := "expected", desc := "([CII)Z", sig := { parameters := [(.array .char), .int, .int], returnType := some .boolean }, accessFlags := 10, code := some k1c5 }
/-- com/example/scopegate/scopegate/token/Base64UrlIsCanonicalPinLaw -/
def k1 : Class := { plain "com/example/scopegate/scopegate/token/Base64UrlIsCanonicalPinLaw" (some 0) with
  accessFlags := 49
  interfaces := #[]
  cf := some (fileOf pool1 22 #[] #[{ accessFlags := 2, nameIndex := 5, descriptorIndex := 6, attributes := #[] }, { accessFlags := 9, nameIndex := 41, descriptorIndex := 42, attributes := #[] }, { accessFlags := 10, nameIndex := 29, descriptorIndex := 30, attributes := #[] }, { accessFlags := 10, nameIndex := 37, descriptorIndex := 38, attributes := #[] }, { accessFlags := 10, nameIndex := 33, descriptorIndex := 34, attributes := #[] }, { accessFlags := 10, nameIndex := 25, descriptorIndex := 26, attributes := #[] }] 49 2 #[] #[])
  fields := #[]
  methods := #[k1m0, k1m1, k1m2, k1m3, k1m4, k1m5]
  instanceTypes := #[]
  staticTypes := #[]
  resolved := Array.replicate 48 none
  statics := none }

def pool2 : Array CpInfo := pool [(1, .class_ 2), (0, u "java/io/Serializable"), (0, .class_ 4), (0, u "java/lang/Object")] 2

/-- java/io/Serializable -/
def k2 : Class := { plain "java/io/Serializable" (some 0) with
  accessFlags := 1537
  interfaces := #[]
  cf := some (fileOf pool2 1 #[] #[] 1537 3 #[] #[])
  fields := #[]
  methods := #[]
  instanceTypes := #[]
  staticTypes := #[]
  resolved := Array.replicate 7 none
  statics := none }

def pool3 : Array CpInfo := pool [(1, .class_ 2), (0, u "java/lang/Comparable"), (0, .class_ 4), (0, u "java/lang/Object")] 7

/-- java/lang/Comparable -/
def k3 : Class := { plain "java/lang/Comparable" (some 0) with
  accessFlags := 1537
  interfaces := #[]
  cf := some (fileOf pool3 1 #[] #[] 1537 3 #[] #[])
  fields := #[]
  methods := #[]
  instanceTypes := #[]
  staticTypes := #[]
  resolved := Array.replicate 12 none
  statics := none }

def pool4 : Array CpInfo := pool [(2, .class_ 4), (1, u "java/lang/CharSequence"), (42, .class_ 48), (0, u "java/lang/CharSequence$1CodePointIterator"), (10, .class_ 60), (0, u "java/lang/CharSequence$1CharIterator"), (5, .class_ 67), (0, u "java/lang/Object")] 63

/-- java/lang/CharSequence -/
def k4 : Class := { plain "java/lang/CharSequence" (some 0) with
  accessFlags := 1537
  interfaces := #[]
  cf := some (fileOf pool4 2 #[.nestMembers #[47, 59]] #[] 1537 66 #[] #[])
  fields := #[]
  methods := #[]
  instanceTypes := #[]
  staticTypes := #[]
  resolved := Array.replicate 131 none
  statics := none }

def pool5 : Array CpInfo := pool [(1, .class_ 2), (0, u "java/lang/constant/Constable"), (0, .class_ 4), (0, u "java/lang/Object")] 6

/-- java/lang/constant/Constable -/
def k5 : Class := { plain "java/lang/constant/Constable" (some 0) with
  accessFlags := 1537
  interfaces := #[]
  cf := some (fileOf pool5 1 #[] #[] 1537 3 #[] #[])
  fields := #[]
  methods := #[]
  instanceTypes := #[]
  staticTypes := #[]
  resolved := Array.replicate 11 none
  statics := none }

def pool6 : Array CpInfo := pool [(1, .class_ 2), (0, u "java/lang/constant/ConstantDesc"), (0, .class_ 4), (0, u "java/lang/Object")] 32

/-- java/lang/constant/ConstantDesc -/
def k6 : Class := { plain "java/lang/constant/ConstantDesc" (some 0) with
  accessFlags := 1537
  interfaces := #[]
  cf := some (fileOf pool6 1 #[] #[] 1537 3 #[] #[])
  fields := #[]
  methods := #[]
  instanceTypes := #[]
  staticTypes := #[]
  resolved := Array.replicate 37 none
  statics := none }

def pool7 : Array CpInfo := pool [(1, .methodref 2 3), (0, .class_ 4), (0, .nameAndType 5 6), (0, u "java/lang/Object"), (0, u "<init>"), (0, u "()V"), (2, .fieldref 10 11), (0, .class_ 12), (0, .nameAndType 13 14), (0, u "java/lang/String"), (0, u "value"), (0, u "[B"), (0, .fieldref 10 16), (0, .nameAndType 17 18), (0, u "coder"), (0, u "B"), (2, u "hash"), (0, u "I"), (2, u "hashIsZero"), (0, u "Z"), (0, .methodref 10 28), (0, .nameAndType 5 29), (0, u "([CIILjava/lang/Void;)V"), (8, .fieldref 10 39), (0, .nameAndType 40 26), (0, u "COMPACT_STRINGS"), (1, .class_ 44), (1, u "java/lang/StringUTF16"), (0, u "compress"), (1, .methodref 42 48), (0, .nameAndType 49 50), (0, u "coderFromArrayLen"), (0, u "([BI)B"), (56, .class_ 109), (1, u "java/lang/StringLatin1"), (32, u "()Z"), (34, .methodref 42 178), (0, .nameAndType 45 179), (0, u "([CII)[B"), (183, u "([BI)C"), (27, u "(II)V"), (35, u "(I)C"), (64, .methodref 10 493), (0, .nameAndType 494 142), (0, u "isLatin1"), (0, .methodref 107 496), (0, .nameAndType 497 363), (0, u "charAt"), (3, u "checkIndex"), (73, .class_ 576), (0, u "java/lang/CharSequence"), (22, u "CASE_INSENSITIVE_ORDER"), (0, u "Ljava/util/Comparator;"), (409, u "([C)V"), (42, .fieldref 1054 1055), (0, .class_ 1056), (0, .nameAndType 1057 1058), (0, u "jdk/internal/util/Preconditions"), (0, u "SIOOBE_FORMATTER"), (0, u "Ljava/util/function/BiFunction;"), (0, .methodref 1054 1060), (0, .nameAndType 501 1061), (0, u "(IILjava/util/function/BiFunction;)I"), (39, u "serialPersistentFields"), (0, u "[Ljava/io/ObjectStreamField;"), (0, .class_ 1104), (0, u "java/lang/String$CaseInsensitiveComparator"), (1, .class_ 1107), (0, u "java/io/Serializable"), (0, .class_ 1109), (0, u "java/lang/Comparable"), (0, .class_ 1111), (0, u "java/lang/constant/Constable"), (0, .class_ 1113), (0, u "java/lang/constant/ConstantDesc"), (2, u "serialVersionUID"), (0, u "J"), (3, u "REPL"), (0, u "C"), (2, u "LATIN1"), (1, u "UTF16")] 323

def k7m0 : Method := { name := "<init>", desc := "()V", sig := { parameters := [], returnType := none }, accessFlags := 1, code := none }
def k7c1 : Code := { maxStack := 5, maxLocals := 2, code := jdk_42_method_3_code, exceptionTable := #[], attributes := #[] }
def k7m1 : Method := { name := "<init>", desc := "([C)V", sig := { parameters := [(.array .char)], returnType := none }, accessFlags := 1, code := some k7c1 }
def k7c2 : Code := { maxStack := 2, maxLocals := 2, code := jdk_42_method_56_code, exceptionTable := #[], attributes := #[] }
def k7m2 : Method := { name := "charAt", desc := "(I)C", sig := { parameters := [.int], returnType := some .char }, accessFlags := 1, code := some k7c2 }
def k7c3 : Code := { maxStack := 4, maxLocals := 6, code := jdk_42_method_149_code, exceptionTable := #[], attributes := #[] }
def k7m3 : Method := { name := "<init>", desc := "([CIILjava/lang/Void;)V", sig := { parameters := [(.array .char), .int, .int, (.object "java/lang/Void")], returnType := none }, accessFlags := 2, code := some k7c3 }
def k7c4 : Code := { maxStack := 1, maxLocals := 1, code := jdk_42_method_154_code, exceptionTable := #[], attributes := #[] }
def k7m4 : Method := { name := "isLatin1", desc := "()Z", sig := { parameters := [], returnType := some .boolean }, accessFlags := 0, code := some k7c4 }
def k7c5 : Code := { maxStack := 3, maxLocals := 2, code := jdk_42_method_155_code, exceptionTable := #[], attributes := #[] }
def k7m5 : Method := { name := "checkIndex", desc := "(II)V", sig := { parameters := [.int, .int], returnType := none }, accessFlags := 8, code := some k7c5 }
/-- java/lang/String -/
def k7 : Class := { plain "java/lang/String" (some 0) with
  accessFlags := 49
  interfaces := #[2, 3, 4, 5, 6]
  cf := some (fileOf pool7 10 #[.nestMembers #[1103]] #[{ accessFlags := 1, nameIndex := 5, descriptorIndex := 6, attributes := #[] }, { accessFlags := 1, nameIndex := 5, descriptorIndex := 1010, attributes := #[] }, { accessFlags := 1, nameIndex := 497, descriptorIndex := 427, attributes := #[] }, { accessFlags := 2, nameIndex := 5, descriptorIndex := 29, attributes := #[] }, { accessFlags := 0, nameIndex := 494, descriptorIndex := 142, attributes := #[] }, { accessFlags := 8, nameIndex := 501, descriptorIndex := 391, attributes := #[] }] 49 2 #[1106, 1108, 575, 1110, 1112] #[{ accessFlags := 18, nameIndex := 13, descriptorIndex := 14, attributes := #[] }, { accessFlags := 18, nameIndex := 17, descriptorIndex := 18, attributes := #[] }, { accessFlags := 2, nameIndex := 21, descriptorIndex := 22, attributes := #[] }, { accessFlags := 2, nameIndex := 25, descriptorIndex := 26, attributes := #[] }, { accessFlags := 26, nameIndex := 1116, descriptorIndex := 1117, attributes := #[] }, { accessFlags := 24, nameIndex := 40, descriptorIndex := 26, attributes := #[] }, { accessFlags := 26, nameIndex := 1101, descriptorIndex := 1102, attributes := #[] }, { accessFlags := 26, nameIndex := 1121, descriptorIndex := 1122, attributes := #[] }, { accessFlags := 25, nameIndex := 599, descriptorIndex := 600, attributes := #[] }, { accessFlags := 24, nameIndex := 1125, descriptorIndex := 18, attributes := #[] }, { accessFlags := 24, nameIndex := 1127, descriptorIndex := 18, attributes := #[] }])
  fields := #[{ name := "value", type := (.array .byte), accessFlags := 18, slot := 0, constantValue := 0 }, { name := "coder", type := .byte, accessFlags := 18, slot := 1, constantValue := 0 }, { name := "hash", type := .int, accessFlags := 2, slot := 2, constantValue := 0 }, { name := "hashIsZero", type := .boolean, accessFlags := 2, slot := 3, constantValue := 0 }, { name := "serialVersionUID", type := .long, accessFlags := 26, slot := 0, constantValue := 0 }, { name := "COMPACT_STRINGS", type := .boolean, accessFlags := 24, slot := 1, constantValue := 0 }, { name := "serialPersistentFields", type := (.array (.object "java/io/ObjectStreamField")), accessFlags := 26, slot := 2, constantValue := 0 }, { name := "REPL", type := .char, accessFlags := 26, slot := 3, constantValue := 0 }, { name := "CASE_INSENSITIVE_ORDER", type := (.object "java/util/Comparator"), accessFlags := 25, slot := 4, constantValue := 0 }, { name := "LATIN1", type := .byte, accessFlags := 24, slot := 5, constantValue := 0 }, { name := "UTF16", type := .byte, accessFlags := 24, slot := 6, constantValue := 0 }]
  methods := #[k7m0, k7m1, k7m2, k7m3, k7m4, k7m5]
  instanceTypes := #[(.array .byte), .byte, .int, .boolean]
  staticTypes := #[.long, .boolean, (.array (.object "java/io/ObjectStreamField")), .char, (.object "java/util/Comparator"), .byte, .byte]
  resolved := Array.replicate 1451 none
  statics := some 0 }

def pool8 : Array CpInfo := pool [(6, .class_ 8), (1, u "java/lang/Object"), (0, u "<init>"), (0, u "()V"), (1, .class_ 14), (1, u "java/lang/StringUTF16"), (31, u "$assertionsDisabled"), (0, u "Z"), (13, u "HI_BYTE_SHIFT"), (0, u "I"), (2, u "LO_BYTE_SHIFT"), (49, .methodref 12 116), (0, .nameAndType 117 118), (0, u "compress"), (0, u "([CI[BII)I"), (3, u "([CII)[B"), (138, u "coderFromArrayLen"), (0, u "([BI)B"), (106, .class_ 371), (1, u "java/lang/StringUTF16$LinesSpliterator"), (58, u "MAX_LENGTH"), (196, .class_ 628), (0, u "java/lang/StringUTF16$CodePointsSpliterator"), (0, .class_ 630), (0, u "java/lang/StringUTF16$CharsSpliterator")] 4

def k8m0 : Method := { name := "<init>", desc := "()V", sig := { parameters := [], returnType := none }, accessFlags := 0, code := none }
def k8c1 : Code := { maxStack := 2, maxLocals := 2, code := jdk_52_method_15_code, exceptionTable := #[], attributes := #[] }
def k8m1 : Method := { name := "coderFromArrayLen", desc := "([BI)B", sig := { parameters := [(.array .byte), .int], returnType := some .byte }, accessFlags := 8, code := some k8c1 }
def k8c2 : Code := { maxStack := 5, maxLocals := 6, code := jdk_52_method_16_code, exceptionTable := #[], attributes := #[] }
def k8m2 : Method := { name := "compress", desc := "([CII)[B", sig := { parameters := [(.array .char), .int, .int], returnType := some (.array .byte) }, accessFlags := 9, code := some k8c2 }
def k8c3 : Code := { maxStack := 3, maxLocals := 7, code := jdk_52_method_21_code, exceptionTable := #[], attributes := #[] }
def k8m3 : Method := { name := "compress", desc := "([CI[BII)I", sig := { parameters := [(.array .char), .int, (.array .byte), .int, .int], returnType := some .int }, accessFlags := 9, code := some k8c3 }
/-- java/lang/StringUTF16 -/
def k8 : Class := { plain "java/lang/StringUTF16" (some 0) with
  accessFlags := 48
  interfaces := #[]
  cf := some (fileOf pool8 12 #[.nestMembers #[627, 629, 369]] #[{ accessFlags := 0, nameIndex := 9, descriptorIndex := 10, attributes := #[] }, { accessFlags := 8, nameIndex := 261, descriptorIndex := 262, attributes := #[] }, { accessFlags := 9, nameIndex := 117, descriptorIndex := 122, attributes := #[] }, { accessFlags := 9, nameIndex := 117, descriptorIndex := 118, attributes := #[] }] 48 6 #[] #[{ accessFlags := 26, nameIndex := 61, descriptorIndex := 62, attributes := #[] }, { accessFlags := 26, nameIndex := 65, descriptorIndex := 62, attributes := #[] }, { accessFlags := 24, nameIndex := 430, descriptorIndex := 62, attributes := #[] }, { accessFlags := 4120, nameIndex := 46, descriptorIndex := 47, attributes := #[] }])
  fields := #[{ name := "HI_BYTE_SHIFT", type := .int, accessFlags := 26, slot := 0, constantValue := 0 }, { name := "LO_BYTE_SHIFT", type := .int, accessFlags := 26, slot := 1, constantValue := 0 }, { name := "MAX_LENGTH", type := .int, accessFlags := 24, slot := 2, constantValue := 0 }, { name := "$assertionsDisabled", type := .boolean, accessFlags := 4120, slot := 3, constantValue := 0 }]
  methods := #[k8m0, k8m1, k8m2, k8m3]
  instanceTypes := #[]
  staticTypes := #[.int, .int, .int, .boolean]
  resolved := Array.replicate 635 none
  statics := none }

def pool9 : Array CpInfo := pool [(2, .class_ 4), (1, u "java/lang/Object"), (0, u "<init>"), (0, u "()V"), (1, .class_ 10), (1, u "java/lang/String"), (3, .class_ 16), (1, u "com/example/scopegate/scopegate/token/Base64Url"), (0, u "isCanonical"), (0, u "(Ljava/lang/String;II)Z"), (0, .methodref 8 20), (0, .nameAndType 21 22), (0, u "charAt"), (0, u "(I)C"), (0, .methodref 14 24), (0, .nameAndType 25 26), (0, u "value"), (0, u "(C)I"), (2, u "DECODER"), (0, u "Ljava/util/Base64$Decoder;"), (10, .fieldref 14 42), (0, .nameAndType 43 44), (0, u "VALUES"), (0, u "[B"), (14, u "ALPHABET"), (0, u "Ljava/lang/String;")] 11

def k9m0 : Method := { name := "<init>", desc := "()V", sig := { parameters := [], returnType := none }, accessFlags := 2, code := none }
def k9c1 : Code := { maxStack := 2, maxLocals := 5, code := prog_15_method_3_code, exceptionTable := #[], attributes := #[] }
def k9m1 : Method := { name := "isCanonical", desc := "(Ljava/lang/String;II)Z", sig := { parameters := [(.object "java/lang/String"), .int, .int], returnType := some .boolean }, accessFlags := 8, code := some k9c1 }
def k9c2 : Code := { maxStack := 2, maxLocals := 1, code := prog_15_method_5_code, exceptionTable := #[], attributes := #[] }
def k9m2 : Method := { name := "value", desc := "(C)I", sig := { parameters := [.char], returnType := some .int }, accessFlags := 10, code := some k9c2 }
/-- com/example/scopegate/scopegate/token/Base64Url -/
def k9 : Class := { plain "com/example/scopegate/scopegate/token/Base64Url" (some 0) with
  accessFlags := 48
  interfaces := #[]
  cf := some (fileOf pool9 14 #[] #[{ accessFlags := 2, nameIndex := 5, descriptorIndex := 6, attributes := #[] }, { accessFlags := 8, nameIndex := 17, descriptorIndex := 18, attributes := #[] }, { accessFlags := 10, nameIndex := 25, descriptorIndex := 26, attributes := #[] }] 48 2 #[] #[{ accessFlags := 26, nameIndex := 29, descriptorIndex := 30, attributes := #[] }, { accessFlags := 26, nameIndex := 59, descriptorIndex := 60, attributes := #[] }, { accessFlags := 26, nameIndex := 43, descriptorIndex := 44, attributes := #[] }])
  fields := #[{ name := "DECODER", type := (.object "java/util/Base64$Decoder"), accessFlags := 26, slot := 0, constantValue := 0 }, { name := "ALPHABET", type := (.object "java/lang/String"), accessFlags := 26, slot := 1, constantValue := 0 }, { name := "VALUES", type := (.array .byte), accessFlags := 26, slot := 2, constantValue := 0 }]
  methods := #[k9m0, k9m1, k9m2]
  instanceTypes := #[]
  staticTypes := #[(.object "java/util/Base64$Decoder"), (.object "java/lang/String"), (.array .byte)]
  resolved := Array.replicate 72 none
  statics := some 1 }

def pool10 : Array CpInfo := pool [(1, .class_ 2), (0, u "java/lang/String"), (1, .class_ 6), (1, u "java/lang/Object"), (0, u "<init>"), (0, u "()V"), (0, .methodref 1 10), (0, .nameAndType 11 12), (0, u "checkIndex"), (0, u "(II)V"), (1, .class_ 16), (1, u "java/lang/StringLatin1"), (36, u "([BI)C"), (67, u "$assertionsDisabled"), (0, u "Z"), (98, .class_ 223), (1, u "java/lang/StringLatin1$LinesSpliterator"), (28, u "charAt"), (137, .class_ 391), (0, u "java/lang/StringLatin1$CharsSpliterator")] 3

def k10m0 : Method := { name := "<init>", desc := "()V", sig := { parameters := [], returnType := none }, accessFlags := 0, code := none }
def k10c1 : Code := { maxStack := 2, maxLocals := 2, code := jdk_43_method_2_code, exceptionTable := #[], attributes := #[] }
def k10m1 : Method := { name := "charAt", desc := "([BI)C", sig := { parameters := [(.array .byte), .int], returnType := some .char }, accessFlags := 9, code := some k10c1 }
/-- java/lang/StringLatin1 -/
def k10 : Class := { plain "java/lang/StringLatin1" (some 0) with
  accessFlags := 48
  interfaces := #[]
  cf := some (fileOf pool10 14 #[.nestMembers #[390, 221]] #[{ accessFlags := 0, nameIndex := 7, descriptorIndex := 8, attributes := #[] }, { accessFlags := 9, nameIndex := 252, descriptorIndex := 53, attributes := #[] }] 48 4 #[] #[{ accessFlags := 4120, nameIndex := 121, descriptorIndex := 122, attributes := #[] }])
  fields := #[{ name := "$assertionsDisabled", type := .boolean, accessFlags := 4120, slot := 0, constantValue := 0 }]
  methods := #[k10m0, k10m1]
  instanceTypes := #[]
  staticTypes := #[.boolean]
  resolved := Array.replicate 395 none
  statics := none }

def pool11 : Array CpInfo := pool [(2, .class_ 4), (1, u "java/lang/Object"), (0, u "<init>"), (0, u "()V"), (17, .class_ 26), (1, u "jdk/internal/util/Preconditions"), (6, u "checkIndex"), (21, .class_ 56), (0, u "jdk/internal/util/Preconditions$4"), (57, .class_ 115), (0, u "jdk/internal/util/Preconditions$1"), (7, u "SIOOBE_FORMATTER"), (0, u "Ljava/util/function/BiFunction;"), (0, .class_ 126), (0, u "jdk/internal/util/Preconditions$2"), (3, u "AIOOBE_FORMATTER"), (0, .class_ 132), (0, u "jdk/internal/util/Preconditions$3"), (3, u "IOOBE_FORMATTER"), (41, u "(IILjava/util/function/BiFunction;)I")] 15

def k11m0 : Method := { name := "<init>", desc := "()V", sig := { parameters := [], returnType := none }, accessFlags := 1, code := none }
def k11c1 : Code := { maxStack := 3, maxLocals := 3, code := jdk_41_method_11_code, exceptionTable := #[], attributes := #[] }
def k11m1 : Method := { name := "checkIndex", desc := "(IILjava/util/function/BiFunction;)I", sig := { parameters := [.int, .int, (.object "java/util/function/BiFunction")], returnType := some .int }, accessFlags := 9, code := some k11c1 }
/-- jdk/internal/util/Preconditions -/
def k11 : Class := { plain "jdk/internal/util/Preconditions" (some 0) with
  accessFlags := 33
  interfaces := #[]
  cf := some (fileOf pool11 24 #[.nestMembers #[55, 131, 125, 114]] #[{ accessFlags := 1, nameIndex := 5, descriptorIndex := 6, attributes := #[] }, { accessFlags := 9, nameIndex := 33, descriptorIndex := 178, attributes := #[] }] 33 2 #[] #[{ accessFlags := 25, nameIndex := 123, descriptorIndex := 124, attributes := #[] }, { accessFlags := 25, nameIndex := 130, descriptorIndex := 124, attributes := #[] }, { accessFlags := 25, nameIndex := 136, descriptorIndex := 124, attributes := #[] }])
  fields := #[{ name := "SIOOBE_FORMATTER", type := (.object "java/util/function/BiFunction"), accessFlags := 25, slot := 0, constantValue := 0 }, { name := "AIOOBE_FORMATTER", type := (.object "java/util/function/BiFunction"), accessFlags := 25, slot := 1, constantValue := 0 }, { name := "IOOBE_FORMATTER", type := (.object "java/util/function/BiFunction"), accessFlags := 25, slot := 2, constantValue := 0 }]
  methods := #[k11m0, k11m1]
  instanceTypes := #[]
  staticTypes := #[(.object "java/util/function/BiFunction"), (.object "java/util/function/BiFunction"), (.object "java/util/function/BiFunction")]
  resolved := Array.replicate 194 none
  statics := some 2 }

def pool12 : Array CpInfo := pool [(9, u "<init>"), (6, .class_ 18), (1, u "java/lang/Object"), (0, u "()V"), (1, .class_ 23), (1, u "jdk/internal/util/ArraysSupport"), (0, u "LOG2_ARRAY_LONG_INDEX_SCALE"), (0, u "I"), (2, u "U"), (0, u "Ljdk/internal/misc/Unsafe;"), (8, u "BIG_ENDIAN"), (0, u "Z"), (8, u "LOG2_BYTE_BIT_SIZE"), (4, u "LOG2_ARRAY_INT_INDEX_SCALE"), (54, u "JLA"), (0, u "Ljdk/internal/access/JavaLangAccess;"), (11, u "LOG2_ARRAY_BOOLEAN_INDEX_SCALE"), (9, u "LOG2_ARRAY_BYTE_INDEX_SCALE"), (5, u "LOG2_ARRAY_CHAR_INDEX_SCALE"), (5, u "LOG2_ARRAY_SHORT_INDEX_SCALE"), (18, u "LOG2_ARRAY_FLOAT_INDEX_SCALE"), (24, u "LOG2_ARRAY_DOUBLE_INDEX_SCALE"), (89, u "T_BOOLEAN"), (2, u "T_CHAR"), (1, u "T_FLOAT"), (1, u "T_DOUBLE"), (1, u "T_BYTE"), (1, u "T_SHORT"), (1, u "T_INT"), (1, u "T_LONG"), (1, u "SOFT_MAX_ARRAY_LENGTH")] 83

def k12m0 : Method := { name := "<init>", desc := "()V", sig := { parameters := [], returnType := none }, accessFlags := 2, code := none }
/-- jdk/internal/util/ArraysSupport -/
def k12 : Class := { plain "jdk/internal/util/ArraysSupport" (some 0) with
  accessFlags := 33
  interfaces := #[]
  cf := some (fileOf pool12 21 #[] #[{ accessFlags := 2, nameIndex := 9, descriptorIndex := 19, attributes := #[] }] 33 16 #[] #[{ accessFlags := 24, nameIndex := 28, descriptorIndex := 29, attributes := #[] }, { accessFlags := 26, nameIndex := 38, descriptorIndex := 39, attributes := #[] }, { accessFlags := 25, nameIndex := 121, descriptorIndex := 25, attributes := #[] }, { accessFlags := 25, nameIndex := 131, descriptorIndex := 25, attributes := #[] }, { accessFlags := 25, nameIndex := 137, descriptorIndex := 25, attributes := #[] }, { accessFlags := 25, nameIndex := 143, descriptorIndex := 25, attributes := #[] }, { accessFlags := 25, nameIndex := 53, descriptorIndex := 25, attributes := #[] }, { accessFlags := 25, nameIndex := 24, descriptorIndex := 25, attributes := #[] }, { accessFlags := 25, nameIndex := 162, descriptorIndex := 25, attributes := #[] }, { accessFlags := 25, nameIndex := 187, descriptorIndex := 25, attributes := #[] }, { accessFlags := 26, nameIndex := 48, descriptorIndex := 25, attributes := #[] }, { accessFlags := 25, nameIndex := 277, descriptorIndex := 25, attributes := #[] }, { accessFlags := 25, nameIndex := 280, descriptorIndex := 25, attributes := #[] }, { accessFlags := 25, nameIndex := 282, descriptorIndex := 25, attributes := #[] }, { accessFlags := 25, nameIndex := 284, descriptorIndex := 25, attributes := #[] }, { accessFlags := 25, nameIndex := 286, descriptorIndex := 25, attributes := #[] }, { accessFlags := 25, nameIndex := 288, descriptorIndex := 25, attributes := #[] }, { accessFlags := 25, nameIndex := 290, descriptorIndex := 25, attributes := #[] }, { accessFlags := 25, nameIndex := 292, descriptorIndex := 25, attributes := #[] }, { accessFlags := 26, nameIndex := 108, descriptorIndex := 109, attributes := #[] }, { accessFlags := 25, nameIndex := 294, descriptorIndex := 25, attributes := #[] }])
  fields := #[{ name := "U", type := (.object "jdk/internal/misc/Unsafe"), accessFlags := 24, slot := 0, constantValue := 0 }, { name := "BIG_ENDIAN", type := .boolean, accessFlags := 26, slot := 1, constantValue := 0 }, { name := "LOG2_ARRAY_BOOLEAN_INDEX_SCALE", type := .int, accessFlags := 25, slot := 2, constantValue := 0 }, { name := "LOG2_ARRAY_BYTE_INDEX_SCALE", type := .int, accessFlags := 25, slot := 3, constantValue := 0 }, { name := "LOG2_ARRAY_CHAR_INDEX_SCALE", type := .int, accessFlags := 25, slot := 4, constantValue := 0 }, { name := "LOG2_ARRAY_SHORT_INDEX_SCALE", type := .int, accessFlags := 25, slot := 5, constantValue := 0 }, { name := "LOG2_ARRAY_INT_INDEX_SCALE", type := .int, accessFlags := 25, slot := 6, constantValue := 0 }, { name := "LOG2_ARRAY_LONG_INDEX_SCALE", type := .int, accessFlags := 25, slot := 7, constantValue := 0 }, { name := "LOG2_ARRAY_FLOAT_INDEX_SCALE", type := .int, accessFlags := 25, slot := 8, constantValue := 0 }, { name := "LOG2_ARRAY_DOUBLE_INDEX_SCALE", type := .int, accessFlags := 25, slot := 9, constantValue := 0 }, { name := "LOG2_BYTE_BIT_SIZE", type := .int, accessFlags := 26, slot := 10, constantValue := 0 }, { name := "T_BOOLEAN", type := .int, accessFlags := 25, slot := 11, constantValue := 0 }, { name := "T_CHAR", type := .int, accessFlags := 25, slot := 12, constantValue := 0 }, { name := "T_FLOAT", type := .int, accessFlags := 25, slot := 13, constantValue := 0 }, { name := "T_DOUBLE", type := .int, accessFlags := 25, slot := 14, constantValue := 0 }, { name := "T_BYTE", type := .int, accessFlags := 25, slot := 15, constantValue := 0 }, { name := "T_SHORT", type := .int, accessFlags := 25, slot := 16, constantValue := 0 }, { name := "T_INT", type := .int, accessFlags := 25, slot := 17, constantValue := 0 }, { name := "T_LONG", type := .int, accessFlags := 25, slot := 18, constantValue := 0 }, { name := "JLA", type := (.object "jdk/internal/access/JavaLangAccess"), accessFlags := 26, slot := 19, constantValue := 0 }, { name := "SOFT_MAX_ARRAY_LENGTH", type := .int, accessFlags := 25, slot := 20, constantValue := 0 }]
  methods := #[k12m0]
  instanceTypes := #[]
  staticTypes := #[(.object "jdk/internal/misc/Unsafe"), .boolean, .int, .int, .int, .int, .int, .int, .int, .int, .int, .int, .int, .int, .int, .int, .int, .int, .int, (.object "jdk/internal/access/JavaLangAccess"), .int]
  resolved := Array.replicate 378 none
  statics := none }

def pool13 : Array CpInfo := pool [(1, u "java/lang/Cloneable"), (0, .class_ 1), (0, u "java/lang/Object"), (0, .class_ 3)] 3

/-- java/lang/Cloneable -/
def k13 : Class := { plain "java/lang/Cloneable" (some 0) with
  accessFlags := 1537
  interfaces := #[]
  cf := some (fileOf pool13 2 #[] #[] 1537 4 #[] #[])
  fields := #[]
  methods := #[]
  instanceTypes := #[]
  staticTypes := #[]
  resolved := Array.replicate 8 none
  statics := none }

/-- the primitive byte -/
def k14 : Class := { plain "byte" none with kind := .primitive 'B', accessFlags := 0x411 }
/-- [B -/
def k15 : Class := { plain "[B" (some 0) with kind := .array 14 .byte, interfaces := #[13, 2], accessFlags := 1041 }

/-- the primitive char -/
def k16 : Class := { plain "char" none with kind := .primitive 'C', accessFlags := 0x411 }
/-- [C -/
def k17 : Class := { plain "[C" (some 0) with kind := .array 16 .char, interfaces := #[13, 2], accessFlags := 1041 }

/-- the primitive int -/
def k18 : Class := { plain "int" none with kind := .primitive 'I', accessFlags := 0x411 }
/-- [I -/
def k19 : Class := { plain "[I" (some 0) with kind := .array 18 .int, interfaces := #[13, 2], accessFlags := 1041 }

def heap : Heap := #[{ cls := 7, slots := #[.long 0, .int 1, .null, .int 0, .null, .int 0, .int 0], vm := .statics 7 },
  { cls := 9, slots := #[.null, .null, .ref 3], vm := .statics 9 },
  { cls := 11, slots := #[.null, .null, .null], vm := .statics 11 },
  { cls := 15, slots := #[.int (-1), .int (-1), .int (-1), .int (-1), .int (-1), .int (-1), .int (-1), .int (-1), .int (-1), .int (-1), .int (-1), .int (-1), .int (-1), .int (-1), .int (-1), .int (-1), .int (-1), .int (-1), .int (-1), .int (-1), .int (-1), .int (-1), .int (-1), .int (-1), .int (-1), .int (-1), .int (-1), .int (-1), .int (-1), .int (-1), .int (-1), .int (-1), .int (-1), .int (-1), .int (-1), .int (-1), .int (-1), .int (-1), .int (-1), .int (-1), .int (-1), .int (-1), .int (-1), .int (-1), .int (-1), .int 62, .int (-1), .int (-1), .int 52, .int 53, .int 54, .int 55, .int 56, .int 57, .int 58, .int 59, .int 60, .int 61, .int (-1), .int (-1), .int (-1), .int (-1), .int (-1), .int (-1), .int (-1), .int 0, .int 1, .int 2, .int 3, .int 4, .int 5, .int 6, .int 7, .int 8, .int 9, .int 10, .int 11, .int 12, .int 13, .int 14, .int 15, .int 16, .int 17, .int 18, .int 19, .int 20, .int 21, .int 22, .int 23, .int 24, .int 25, .int (-1), .int (-1), .int (-1), .int (-1), .int 63, .int (-1), .int 26, .int 27, .int 28, .int 29, .int 30, .int 31, .int 32, .int 33, .int 34, .int 35, .int 36, .int 37, .int 38, .int 39, .int 40, .int 41, .int 42, .int 43, .int 44, .int 45, .int 46, .int 47, .int 48, .int 49, .int 50, .int 51, .int (-1), .int (-1), .int (-1), .int (-1), .int (-1)], vm := .none }]
def classes : Array Class := #[k0, k1, k2, k3, k4, k5, k6, k7, k8, k9, k10, k11, k12, k13, k14, k15, k16, k17, k18, k19]
def interned : List (Array UInt16 × Addr) := []
def slotsUsed : Nat := 141
def theMethod : MethodId := ⟨1, 1⟩
def args0 : Array Value := #[.long 5, .int 1, .int 97]
def aboutOver (below : List Frame) : State where
  vm := { classes := classes, interned := interned.toArray }
  heap := heap
  slotsUsed := slotsUsed
  threads := #[{ frames := .invoking theMethod args0 :: below }]
def below0 : List Frame := [.native { method := ⟨0, 0⟩, args := #[] }]
def about1 : State := aboutOver below0
def p0 : Program := .bare "" "" ""
def e0 : Env := launch0.env 0 0 0
theorem w_frames : about1.frames = Frame.invoking theMethod args0 :: below0 := rfl
set_option maxRecDepth 65536 in
theorem w_args : argsFit about1.vm theMethod args0 = true := by decide +kernel
set_option maxRecDepth 65536 in
theorem w_heap : heapFits about1 = true := by decide +kernel
set_option maxRecDepth 65536 in
theorem w_runnable : about1.curStatus? = some .runnable := by decide +kernel
set_option maxRecDepth 65536 in
theorem w_alone : about1.alone = true := by decide +kernel
set_option maxRecDepth 65536 in
theorem w_named : about1.methodNamed? x = some theMethod := by decide +kernel
set_option maxRecDepth 65536 in
theorem w_hears : about1.hears theMethod below0 = true := by decide +kernel
set_option maxRecDepth 65536 in
theorem w_ripe : about1.ripe theMethod args0 below0 = true := by decide +kernel
theorem w_running : about1.status = .running := rfl
set_option maxRecDepth 65536 in
theorem w_room : about1.hasRoom e0.platform room_1 = true :=
  launch0.hasRoom_least _ room_1 (by decide +kernel) (by decide +kernel) (by decide +kernel) (by decide +kernel) (by decide +kernel) (by decide +kernel)
theorem allAtoms_all (ts : List Jvm.Cond) (a : Array Jvm.Value) (st : Jvm.State) : (allAtoms ts).before a st = ts.all (fun c => c.before a st) := by
  induction ts with
  | nil => rfl
  | cons c t ih =>
    show (Jvm.Cond.and c (allAtoms t)).before a st = _
    rw [Jvm.Cond.before_and, ih, List.all_cons]
def words1 : List Jvm.Cond := Jvm.Cond.code x code maxLocals ret :: tables_1
/-- a 'code' word, met by the world's own term for the bytes: nothing is compared byte by byte -/
theorem code_word {y : MethodName} {bytes : ByteArray} {mx : Nat} {rt : Option FieldType} {a : Array Value} {s : State} {m : MethodId} {meth : Method} {c : Code} (h1 : s.methodNamed? y = some m) (h2 : s.vm.method? m = some meth) (h3 : meth.code = some c) (h4 : c.code = bytes)
    (h5 : (c.maxLocals == mx && c.exceptionTable.isEmpty && decide (c.maxStack ≤ mostOperands) && decide (meth.sig.returnType = rt) && !meth.locks && decide (parseMethodDescriptor y.desc = some meth.sig)) = true) : (Jvm.Cond.code y bytes mx rt).before a s = true := by
  simp only [Bool.and_eq_true, beq_iff_eq, Bool.not_eq_true', decide_eq_true_eq] at h5
  obtain ⟨⟨⟨⟨⟨g1, g2⟩, g3⟩, g4⟩, g5⟩, g6⟩ := h5
  simp [Cond.before, Cond.holds, Cond.value, h1, h2, h3, h4, g1, g2, g3, g4, g5, g6]
def isCode : Jvm.Cond → Bool
  | .code _ _ _ _ => true
  | _ => false
theorem all_split {L : List Jvm.Cond} {P : Jvm.Cond → Bool} (h1 : L.all (fun c => isCode c || P c) = true) (h2 : ∀ c ∈ L.filter isCode, P c = true) : L.all P = true := by
  refine List.all_eq_true.mpr fun c hc => ?_
  have h := List.all_eq_true.mp h1 c hc
  rcases Bool.eq_false_or_eq_true (isCode c) with hi | hi
  · exact h2 c (List.mem_filter.mpr ⟨hc, hi⟩)
  · simpa [hi] using h
set_option maxRecDepth 65536 in
theorem w_c0 : (Jvm.Cond.code x code maxLocals ret).before args0 about1 = true := code_word (m := ⟨1, 1⟩) (meth := k1m1) (c := k1c1) (by decide +kernel) rfl rfl rfl (by decide +kernel)
set_option maxRecDepth 65536 in
theorem w_c1 : (Jvm.Cond.code ({ cls := "java/lang/String", name := "<init>", desc := "([C)V" } : Jvm.MethodName) jdk_42_method_3_code (2 : Nat) (Option.none : Option Jvm.ClassFile.FieldType)).before args0 about1 = true := code_word (m := ⟨7, 1⟩) (meth := k7m1) (c := k7c1) (by decide +kernel) rfl rfl rfl (by decide +kernel)
set_option maxRecDepth 65536 in
theorem w_c2 : (Jvm.Cond.code ({ cls := "java/lang/String", name := "<init>", desc := "([CIILjava/lang/Void;)V" } : Jvm.MethodName) jdk_42_method_149_code (6 : Nat) (Option.none : Option Jvm.ClassFile.FieldType)).before args0 about1 = true := code_word (m := ⟨7, 3⟩) (meth := k7m3) (c := k7c3) (by decide +kernel) rfl rfl rfl (by decide +kernel)
set_option maxRecDepth 65536 in
theorem w_c3 : (Jvm.Cond.code ({ cls := "java/lang/Object", name := "<init>", desc := "()V" } : Jvm.MethodName) object_method_1_code (1 : Nat) (Option.none : Option Jvm.ClassFile.FieldType)).before args0 about1 = true := code_word (m := ⟨0, 0⟩) (meth := k0m0) (c := k0c0) (by decide +kernel) rfl rfl rfl (by decide +kernel)
set_option maxRecDepth 65536 in
theorem w_c4 : (Jvm.Cond.code ({ cls := "java/lang/StringUTF16", name := "compress", desc := "([CII)[B" } : Jvm.MethodName) jdk_52_method_16_code (6 : Nat) (Option.some (Jvm.ClassFile.FieldType.array Jvm.ClassFile.FieldType.byte))).before args0 about1 = true := code_word (m := ⟨8, 2⟩) (meth := k8m2) (c := k8c2) (by decide +kernel) rfl rfl rfl (by decide +kernel)
set_option maxRecDepth 65536 in
theorem w_c5 : (Jvm.Cond.code ({ cls := "java/lang/StringUTF16", name := "compress", desc := "([CI[BII)I" } : Jvm.MethodName) jdk_52_method_21_code (7 : Nat) (Option.some Jvm.ClassFile.FieldType.int)).before args0 about1 = true := code_word (m := ⟨8, 3⟩) (meth := k8m3) (c := k8c3) (by decide +kernel) rfl rfl rfl (by decide +kernel)
set_option maxRecDepth 65536 in
theorem w_c6 : (Jvm.Cond.code ({ cls := "java/lang/StringUTF16", name := "coderFromArrayLen", desc := "([BI)B" } : Jvm.MethodName) jdk_52_method_15_code (2 : Nat) (Option.some Jvm.ClassFile.FieldType.byte)).before args0 about1 = true := code_word (m := ⟨8, 1⟩) (meth := k8m1) (c := k8c1) (by decide +kernel) rfl rfl rfl (by decide +kernel)
set_option maxRecDepth 65536 in
theorem w_c7 : (Jvm.Cond.code ({ cls := "com/example/scopegate/scopegate/token/Base64Url", name := "isCanonical", desc := "(Ljava/lang/String;II)Z" } : Jvm.MethodName) prog_15_method_3_code (5 : Nat) (Option.some Jvm.ClassFile.FieldType.boolean)).before args0 about1 = true := code_word (m := ⟨9, 1⟩) (meth := k9m1) (c := k9c1) (by decide +kernel) rfl rfl rfl (by decide +kernel)
set_option maxRecDepth 65536 in
theorem w_c8 : (Jvm.Cond.code ({ cls := "java/lang/String", name := "charAt", desc := "(I)C" } : Jvm.MethodName) jdk_42_method_56_code (2 : Nat) (Option.some Jvm.ClassFile.FieldType.char)).before args0 about1 = true := code_word (m := ⟨7, 2⟩) (meth := k7m2) (c := k7c2) (by decide +kernel) rfl rfl rfl (by decide +kernel)
set_option maxRecDepth 65536 in
theorem w_c9 : (Jvm.Cond.code ({ cls := "java/lang/String", name := "isLatin1", desc := "()Z" } : Jvm.MethodName) jdk_42_method_154_code (1 : Nat) (Option.some Jvm.ClassFile.FieldType.boolean)).before args0 about1 = true := code_word (m := ⟨7, 4⟩) (meth := k7m4) (c := k7c4) (by decide +kernel) rfl rfl rfl (by decide +kernel)
set_option maxRecDepth 65536 in
theorem w_c10 : (Jvm.Cond.code ({ cls := "java/lang/StringLatin1", name := "charAt", desc := "([BI)C" } : Jvm.MethodName) jdk_43_method_2_code (2 : Nat) (Option.some Jvm.ClassFile.FieldType.char)).before args0 about1 = true := code_word (m := ⟨10, 1⟩) (meth := k10m1) (c := k10c1) (by decide +kernel) rfl rfl rfl (by decide +kernel)
set_option maxRecDepth 65536 in
theorem w_c11 : (Jvm.Cond.code ({ cls := "java/lang/String", name := "checkIndex", desc := "(II)V" } : Jvm.MethodName) jdk_42_method_155_code (2 : Nat) (Option.none : Option Jvm.ClassFile.FieldType)).before args0 about1 = true := code_word (m := ⟨7, 5⟩) (meth := k7m5) (c := k7c5) (by decide +kernel) rfl rfl rfl (by decide +kernel)
set_option maxRecDepth 65536 in
theorem w_c12 : (Jvm.Cond.code ({ cls := "jdk/internal/util/Preconditions", name := "checkIndex", desc := "(IILjava/util/function/BiFunction;)I" } : Jvm.MethodName) jdk_41_method_11_code (3 : Nat) (Option.some Jvm.ClassFile.FieldType.int)).before args0 about1 = true := code_word (m := ⟨11, 1⟩) (meth := k11m1) (c := k11c1) (by decide +kernel) rfl rfl rfl (by decide +kernel)
set_option maxRecDepth 65536 in
theorem w_c13 : (Jvm.Cond.code ({ cls := "com/example/scopegate/scopegate/token/Base64Url", name := "value", desc := "(C)I" } : Jvm.MethodName) prog_15_method_5_code (1 : Nat) (Option.some Jvm.ClassFile.FieldType.int)).before args0 about1 = true := code_word (m := ⟨9, 2⟩) (meth := k9m2) (c := k9c2) (by decide +kernel) rfl rfl rfl (by decide +kernel)
set_option maxRecDepth 65536 in
theorem w_c14 : (Jvm.Cond.code ({ cls := "com/example/scopegate/scopegate/token/Base64UrlIsCanonicalPinLaw", name := "expected", desc := "([CII)Z" } : Jvm.MethodName) method_6_code (7 : Nat) (Option.some Jvm.ClassFile.FieldType.boolean)).before args0 about1 = true := code_word (m := ⟨1, 5⟩) (meth := k1m5) (c := k1c5) (by decide +kernel) rfl rfl rfl (by decide +kernel)
set_option maxRecDepth 65536 in
theorem w_c15 : (Jvm.Cond.code ({ cls := "com/example/scopegate/scopegate/token/Base64UrlIsCanonicalPinLaw", name := "okAt", desc := "([CIII)Z" } : Jvm.MethodName) method_5_code (4 : Nat) (Option.some Jvm.ClassFile.FieldType.boolean)).before args0 about1 = true := code_word (m := ⟨1, 4⟩) (meth := k1m4) (c := k1c4) (by decide +kernel) rfl rfl rfl (by decide +kernel)
set_option maxRecDepth 65536 in
theorem w_c16 : (Jvm.Cond.code ({ cls := "com/example/scopegate/scopegate/token/Base64UrlIsCanonicalPinLaw", name := "valid", desc := "(C)Z" } : Jvm.MethodName) method_3_code (1 : Nat) (Option.some Jvm.ClassFile.FieldType.boolean)).before args0 about1 = true := code_word (m := ⟨1, 2⟩) (meth := k1m2) (c := k1c2) (by decide +kernel) rfl rfl rfl (by decide +kernel)
set_option maxRecDepth 65536 in
theorem w_c17 : (Jvm.Cond.code ({ cls := "com/example/scopegate/scopegate/token/Base64UrlIsCanonicalPinLaw", name := "sixBits", desc := "(C)I" } : Jvm.MethodName) method_4_code (1 : Nat) (Option.some Jvm.ClassFile.FieldType.int)).before args0 about1 = true := code_word (m := ⟨1, 3⟩) (meth := k1m3) (c := k1c3) (by decide +kernel) rfl rfl rfl (by decide +kernel)
def codes1 : List Jvm.Cond := [Jvm.Cond.code x code maxLocals ret, Jvm.Cond.code ({ cls := "java/lang/String", name := "<init>", desc := "([C)V" } : Jvm.MethodName) jdk_42_method_3_code (2 : Nat) (Option.none : Option Jvm.ClassFile.FieldType), Jvm.Cond.code ({ cls := "java/lang/String", name := "<init>", desc := "([CIILjava/lang/Void;)V" } : Jvm.MethodName) jdk_42_method_149_code (6 : Nat) (Option.none : Option Jvm.ClassFile.FieldType), Jvm.Cond.code ({ cls := "java/lang/Object", name := "<init>", desc := "()V" } : Jvm.MethodName) object_method_1_code (1 : Nat) (Option.none : Option Jvm.ClassFile.FieldType), Jvm.Cond.code ({ cls := "java/lang/StringUTF16", name := "compress", desc := "([CII)[B" } : Jvm.MethodName) jdk_52_method_16_code (6 : Nat) (Option.some (Jvm.ClassFile.FieldType.array Jvm.ClassFile.FieldType.byte)), Jvm.Cond.code ({ cls := "java/lang/StringUTF16", name := "compress", desc := "([CI[BII)I" } : Jvm.MethodName) jdk_52_method_21_code (7 : Nat) (Option.some Jvm.ClassFile.FieldType.int), Jvm.Cond.code ({ cls := "java/lang/StringUTF16", name := "coderFromArrayLen", desc := "([BI)B" } : Jvm.MethodName) jdk_52_method_15_code (2 : Nat) (Option.some Jvm.ClassFile.FieldType.byte), Jvm.Cond.code ({ cls := "com/example/scopegate/scopegate/token/Base64Url", name := "isCanonical", desc := "(Ljava/lang/String;II)Z" } : Jvm.MethodName) prog_15_method_3_code (5 : Nat) (Option.some Jvm.ClassFile.FieldType.boolean), Jvm.Cond.code ({ cls := "java/lang/String", name := "charAt", desc := "(I)C" } : Jvm.MethodName) jdk_42_method_56_code (2 : Nat) (Option.some Jvm.ClassFile.FieldType.char), Jvm.Cond.code ({ cls := "java/lang/String", name := "isLatin1", desc := "()Z" } : Jvm.MethodName) jdk_42_method_154_code (1 : Nat) (Option.some Jvm.ClassFile.FieldType.boolean), Jvm.Cond.code ({ cls := "java/lang/StringLatin1", name := "charAt", desc := "([BI)C" } : Jvm.MethodName) jdk_43_method_2_code (2 : Nat) (Option.some Jvm.ClassFile.FieldType.char), Jvm.Cond.code ({ cls := "java/lang/String", name := "checkIndex", desc := "(II)V" } : Jvm.MethodName) jdk_42_method_155_code (2 : Nat) (Option.none : Option Jvm.ClassFile.FieldType), Jvm.Cond.code ({ cls := "jdk/internal/util/Preconditions", name := "checkIndex", desc := "(IILjava/util/function/BiFunction;)I" } : Jvm.MethodName) jdk_41_method_11_code (3 : Nat) (Option.some Jvm.ClassFile.FieldType.int), Jvm.Cond.code ({ cls := "com/example/scopegate/scopegate/token/Base64Url", name := "value", desc := "(C)I" } : Jvm.MethodName) prog_15_method_5_code (1 : Nat) (Option.some Jvm.ClassFile.FieldType.int), Jvm.Cond.code ({ cls := "com/example/scopegate/scopegate/token/Base64UrlIsCanonicalPinLaw", name := "expected", desc := "([CII)Z" } : Jvm.MethodName) method_6_code (7 : Nat) (Option.some Jvm.ClassFile.FieldType.boolean), Jvm.Cond.code ({ cls := "com/example/scopegate/scopegate/token/Base64UrlIsCanonicalPinLaw", name := "okAt", desc := "([CIII)Z" } : Jvm.MethodName) method_5_code (4 : Nat) (Option.some Jvm.ClassFile.FieldType.boolean), Jvm.Cond.code ({ cls := "com/example/scopegate/scopegate/token/Base64UrlIsCanonicalPinLaw", name := "valid", desc := "(C)Z" } : Jvm.MethodName) method_3_code (1 : Nat) (Option.some Jvm.ClassFile.FieldType.boolean), Jvm.Cond.code ({ cls := "com/example/scopegate/scopegate/token/Base64UrlIsCanonicalPinLaw", name := "sixBits", desc := "(C)I" } : Jvm.MethodName) method_4_code (1 : Nat) (Option.some Jvm.ClassFile.FieldType.int)]
set_option maxRecDepth 65536 in
theorem codes_eq : words1.filter isCode = codes1 := rfl
theorem w_codes : ∀ c ∈ words1.filter isCode, c.before args0 about1 = true := by
  rw [codes_eq]
  intro c hc
  simp only [codes1, List.mem_cons, List.not_mem_nil, or_false] at hc
  rcases hc with rfl | rfl | rfl | rfl | rfl | rfl | rfl | rfl | rfl | rfl | rfl | rfl | rfl | rfl | rfl | rfl | rfl | rfl
  · exact w_c0
  · exact w_c1
  · exact w_c2
  · exact w_c3
  · exact w_c4
  · exact w_c5
  · exact w_c6
  · exact w_c7
  · exact w_c8
  · exact w_c9
  · exact w_c10
  · exact w_c11
  · exact w_c12
  · exact w_c13
  · exact w_c14
  · exact w_c15
  · exact w_c16
  · exact w_c17
set_option maxRecDepth 65536 in
theorem w_t1 : (words1.take 24).all (fun c => isCode c || c.before args0 about1) = true := by decide +kernel
set_option maxRecDepth 65536 in
theorem w_t2 : ((words1.drop 24).take 24).all (fun c => isCode c || c.before args0 about1) = true := by decide +kernel
set_option maxRecDepth 65536 in
theorem w_t3 : (((words1.drop 24).drop 24).take 24).all (fun c => isCode c || c.before args0 about1) = true := by decide +kernel
set_option maxRecDepth 65536 in
theorem w_t4 : (((words1.drop 24).drop 24).drop 24).all (fun c => isCode c || c.before args0 about1) = true := by decide +kernel
theorem w_tables : (allAtoms (Jvm.Cond.code x code maxLocals ret :: tables_1)).before args0 about1 = true := by
  rw [allAtoms_all]
  show words1.all (fun c => c.before args0 about1) = true
  refine all_split ?_ w_codes
  rw [← List.take_append_drop 24 words1, List.all_append, w_t1, ← List.take_append_drop 24 (words1.drop 24), List.all_append, w_t2, ← List.take_append_drop 24 ((words1.drop 24).drop 24), List.all_append, w_t3, w_t4]
  rfl
set_option maxRecDepth 65536 in
theorem w_rest : rest_1_c.before args0 about1 = true := by decide +kernel
set_option maxRecDepth 65536 in
theorem w_case : (Jvm.Cond.and given_1 narrow_1).before args0 about1 = true := by decide +kernel
theorem w_applies : (headSpec (Jvm.Cond.code x code maxLocals ret :: tables_1) room_1).applies x e0.platform about1 = true :=
  (Spec.applies_iff w_frames).mpr ⟨w_running, w_runnable, w_alone, w_named, w_hears, w_ripe, w_room, w_tables⟩
theorem atStart : AtStart classFile x code maxLocals ret World_1 tables_1 room_1 Calls_1 rest_1 Pre_1 launch0 p0 e0 about1 theMethod args0 below0 :=
  ⟨lists_1, trivial, launch0.admits_env _ _ _, launch0.least_env, fairChoices_fair.cas, fairChoices_fair.clock, w_frames, w_args, w_heap, w_applies, trivial, w_rest, w_case⟩
end start1
theorem witness_1 : WitnessClaimed_1 := ⟨start1.p0, start1.e0, start1.about1, start1.theMethod, start1.args0, start1.below0, start1.atStart⟩
end Jvm.Pilot.@@N@@
